import Derived.Test.Qxb6003793aStrs
import Derived.Maps.AppendAt
namespace Go.Proofs.Qxb6003793a
open Go.ChangeShapes Go.WideShapes Go.ChangeAt Go.RowKit
open Pl
set_option linter.unusedVariables false

theorem info9 : (Try.prog.info? 9).map (fun i => (i.zero, i.size, i.bytes)) = some (some (.string ByteArray.empty), 1, 16) := by kernel_rfl

/-- What the call owns can be read. -/
theorem strs_of_owns {w : World} {base g n cap : Nat} {ss : List Str} (h : w.ownsRow base 9 1 (.slice (some ⟨g, 0, none⟩) n cap) n (ss.map encStr)) : Strs w w.heap.size (some ⟨g, 0, none⟩) ss := by
  intro i hi
  rcases h.2 with ⟨h0, _⟩ | ⟨g', cap', cur, hv, hb, hh, h1, h2, h3, h4⟩
  · cases h0
  · cases hv
    refine ⟨g, 0, rfl, (Array.getElem?_eq_some_iff.1 hh).1, ?_⟩
    have hlen := h.1
    simp only [List.length_map, Nat.mul_one] at hlen hi h4 h3
    have : cur.toList[i]? = some ((ss.map encStr)[i]) := by
      have e : (cur.toList.take n)[i]? = (ss.map encStr)[i]? := by rw [h4]
      rw [List.getElem?_take, if_pos (by omega)] at e
      rw [e, List.getElem?_eq_getElem (by simpa using hi)]
    simp only [World.cell?, hh, Nat.zero_add]
    simpa using this

theorem below_drewN {B : Nat} {a w : World} (h : Below B a w) (n : Nat) : Below B a (w.drewN n) := ⟨h.os, h.tape, h.output, h.size, h.block⟩
theorem _root_.Go.RowKit.Below.drewN {B : Nat} {a w : World} (h : Below B a w) (n : Nat) : Below B a (w.drewN n) := ⟨h.os, h.tape, h.output, h.size, h.block⟩
/-- A new block, then a write into the row at B and new blocks. -/
theorem _root_.Go.RowKit.Below.alloc_grown {B : Nat} {a w w' : World} {o : Obj} (h : Below B a w) (hB : B ≤ w.heap.size) (hg : (w.alloc o).grownBy w' (some B)) : Below B a w' :=
  (h.alloc hB o).grown hg (by simp; omega) (fun k e => by cases e; exact Nat.le_refl _)

theorem encs_oneCell (xs : List Str) : ∀ u ∈ xs.map encStr, u.oneCell' = true := by
  intro u hu
  obtain ⟨x, _, rfl⟩ := List.mem_map.1 hu
  rfl

theorem leq_eq (x y : Str) : (Op.bytesLess x y || x == y) = decide (x ≤ y) := by
  rw [less_eq]
  by_cases h : x ≤ y
  · rw [decide_eq_true h]
    by_cases e : x = y
    · simp [e]
    · simp [lt_of_le_ne h e]
  · rw [decide_eq_false h]
    have h1 : ¬ x < y := fun hl => h (lt_le hl)
    have h2 : ¬ x = y := fun e => h (e ▸ List.le_refl _)
    simp [h1, h2]

set_option maxHeartbeats 2000000 in
theorem merge_any (a b : Option Addr) (ca cb : Nat) (sa sb : List Str) (B : Nat) (w : World) (ha : Strs w B a sa) (hb : Strs w B b sb) (hB : B ≤ w.heap.size) (na : sa.length ≤ 100000) (nb : sb.length ≤ 100000) :
    Calls Try.prog 30 #[.slice a sa.length ca, .slice b sb.length cb] w fun e w' => e = .returned (.slice (some ⟨w.heap.size, 0, none⟩) (mergeL sa sb).length (sa.length + sb.length)) ∧
      Strs w' w'.heap.size (some ⟨w.heap.size, 0, none⟩) (mergeL sa sb) ∧ Below w.heap.size w w' := by
  obtain ⟨i0, hi0, hz0, hz1, hz2⟩ := info_parts info9
  have hml : Hid ((mergeL sa sb).length = sa.length + sb.length) := merge_len sa sb
  go_enter Try.func30, Try.ntmps30
  go_wp2_with (at_make; refine wpList_make_own _ rfl _ _ 36 rfl w.heap.size 9 i0 (.string ByteArray.empty) 1 Try.underlying36 hi0 hz0 hz1 _ _ _ (sa.length + sb.length) rfl rfl (by omega) (by rw [hz2]; omega) (by unfold maxLen; omega) (Nat.le_refl _) ?_; intro w1 hown1 hgrow1)
  go_loopw [5, 6, 7] (fun out vi vj wr => ∃ (i j : Nat) (dn : List Str), i ≤ sa.length ∧ j ≤ sb.length ∧ vi = .int .i64 i ∧ vj = .int .i64 j ∧ out = .slice (some ⟨w.heap.size, 0, none⟩) (i + j) (sa.length + sb.length) ∧
      wr.ownsRow w.heap.size 9 1 (.slice (some ⟨w.heap.size, 0, none⟩) (i + j) (sa.length + sb.length)) (i + j) (dn.map encStr) ∧ dn ++ mergeL (sa.drop i) (sb.drop j) = mergeL sa sb ∧ Below w.heap.size w wr)
    (fun _ vi vj _ => sa.length + sb.length - ((intOf vi).toNat + (intOf vj).toNat))
  case atStart => exact ⟨0, 0, [], Nat.zero_le _, Nat.zero_le _, rfl, rfl, rfl, hown1, by simp, (Below.refl _ _).grown hgrow1 (Nat.le_refl _) (fun k h => by cases h)⟩
  case round =>
    obtain ⟨i, j, dn, hi, hj, rfl, rfl, rfl, hown, hdn, hbel⟩ := hrel
    have hdnl : Hid (dn.length = i + j) := by have := hown.1; unfold Hid; simpa using this
    have HD : Hid (dn ++ mergeL (sa.drop i) (sb.drop j) = mergeL sa sb) := hdn
    have hsz := hbel.size
    clear hdn
    have ha' := ha.below hbel hB
    have hb' := hb.below hbel hB
    by_cases hil : i < sa.length
    · obtain ⟨ba, oa, rfl, hba, hca⟩ := ha'.at hil
      obtain ⟨x, hx⟩ : ∃ x, x = sa[i] := ⟨_, rfl⟩
      rw [← hx] at hca
      have HX : Hid (x = sa[i]) := hx
      have hii : (i : Int) < (sa.length : Int) := by omega
      have hii' : decide ((i : Int) < (sa.length : Int)) = true := decide_eq_true hii
      clear hx ha' ha
      by_cases hjl : j < sb.length
      · obtain ⟨bb, ob, rfl, hbb, hcb⟩ := hb'.at hjl
        obtain ⟨y, hy⟩ : ∃ y, y = sb[j] := ⟨_, rfl⟩
        rw [← hy] at hcb
        have HY : Hid (y = sb[j]) := hy
        clear hy hb' hb
        have hji : ((j : Int) == (sb.length : Int)) = false := by simp; omega
        have hjj : (j : Int) < (sb.length : Int) := by omega
        cases hl : (Op.bytesLess x y || x == y)
        · have HL : Hid (¬ sa[i] ≤ sb[j]) := by rw [leq_eq, HX.out, HY.out] at hl; simpa [Hid] using hl
          go_wp2
          go_quiet (fail)
          go_wp2_with (at_builtin; refine wpList_append_fits _ rfl (.tmp 54) (.tmp 59) 36 rfl w.heap.size 9 i0 1 Try.underlying36 hi0 hz1 w.heap.size (i + j) (sa.length + sb.length) _ rfl (by exact hown.alloc _) ⟨wr.heap.size, 0, none⟩ 1 1 [.string ⟨y.toArray⟩] rfl rfl (by exact cell_one_new _ _ _) (encs_oneCell [y]) (by omega) ?_; intro w2 hown2 hgrow2)
          go_roundw
          case rel =>
            refine ⟨i, j + 1, dn ++ [y], by omega, by omega, by go_num, by go_num, by rw [Nat.add_assoc], ?_, by rw [HY.out]; exact merge_stepB HD.out hil hjl HL.out, (hbel.drewN nq).alloc_grown hsz hgrow2⟩
            rw [← Nat.add_assoc, List.map_append]
            exact hown2
          case measure => simp [intOf]; omega
        · have HL : Hid (sa[i] ≤ sb[j]) := by rw [leq_eq, HX.out, HY.out] at hl; simpa [Hid] using hl
          go_wp2
          go_quiet (fail)
          go_wp2_with (at_builtin; refine wpList_append_fits _ rfl (.tmp 45) (.tmp 50) 36 rfl w.heap.size 9 i0 1 Try.underlying36 hi0 hz1 w.heap.size (i + j) (sa.length + sb.length) _ rfl (by exact hown.alloc _) ⟨wr.heap.size, 0, none⟩ 1 1 [.string ⟨x.toArray⟩] rfl rfl (by exact cell_one_new _ _ _) (encs_oneCell [x]) (by omega) ?_; intro w2 hown2 hgrow2)
          go_roundw
          case rel =>
            refine ⟨i + 1, j, dn ++ [x], by omega, by omega, by go_num, by go_num, by rw [Nat.add_right_comm], ?_, by rw [HX.out]; exact merge_stepA HD.out hil hjl HL.out, (hbel.drewN nq).alloc_grown hsz hgrow2⟩
            rw [Nat.add_right_comm, List.map_append]
            exact hown2
          case measure => simp [intOf]; omega
      · have hji : ((j : Int) == (sb.length : Int)) = true := by simp; omega
        clear hb hb'
        go_wp2
        go_quiet (fail)
        go_wp2_with (at_builtin; refine wpList_append_fits _ rfl (.tmp 45) (.tmp 50) 36 rfl w.heap.size 9 i0 1 Try.underlying36 hi0 hz1 w.heap.size (i + j) (sa.length + sb.length) _ rfl (by exact hown.alloc _) ⟨wr.heap.size, 0, none⟩ 1 1 [.string ⟨x.toArray⟩] rfl rfl (by exact cell_one_new _ _ _) (encs_oneCell [x]) (by omega) ?_; intro w2 hown2 hgrow2)
        go_roundw
        case rel =>
          refine ⟨i + 1, j, dn ++ [x], by omega, by omega, by go_num, by go_num, by rw [Nat.add_right_comm], ?_, by rw [HX.out]; exact merge_endA HD.out hil (by omega), (hbel.drewN nq).alloc_grown hsz hgrow2⟩
          rw [Nat.add_right_comm, List.map_append]
          exact hown2
        case measure => simp [intOf]; omega
    · have hii' : decide ((i : Int) < (sa.length : Int)) = false := decide_eq_false (by omega)
      clear ha ha'
      by_cases hjl : j < sb.length
      · obtain ⟨bb, ob, rfl, hbb, hcb⟩ := hb'.at hjl
        obtain ⟨y, hy⟩ : ∃ y, y = sb[j] := ⟨_, rfl⟩
        rw [← hy] at hcb
        have HY : Hid (y = sb[j]) := hy
        clear hy hb' hb
        have hji : ((j : Int) == (sb.length : Int)) = false := by simp; omega
        have hjj : (j : Int) < (sb.length : Int) := by omega
        go_wp2
        go_quiet (fail)
        go_wp2_with (at_builtin; refine wpList_append_fits _ rfl (.tmp 54) (.tmp 59) 36 rfl w.heap.size 9 i0 1 Try.underlying36 hi0 hz1 w.heap.size (i + j) (sa.length + sb.length) _ rfl (by exact hown.alloc _) ⟨wr.heap.size, 0, none⟩ 1 1 [.string ⟨y.toArray⟩] rfl rfl (by exact cell_one_new _ _ _) (encs_oneCell [y]) (by omega) ?_; intro w2 hown2 hgrow2)
        go_roundw
        case rel =>
          refine ⟨i, j + 1, dn ++ [y], by omega, by omega, by go_num, by go_num, by rw [Nat.add_assoc], ?_, by rw [HY.out]; exact merge_endB HD.out (by omega) hjl, (hbel.drewN nq).alloc_grown hsz hgrow2⟩
          rw [← Nat.add_assoc, List.map_append]
          exact hown2
        case measure => simp [intOf]; omega
      · clear hb hb'
        go_wp2
        go_ret
        have e := merge_end HD.out (by omega) (by omega)
        have e2 : i + j = (mergeL sa sb).length := by rw [← e, hdnl.out]
        subst e
        refine ⟨?_, strs_of_owns hown, hbel⟩
        rw [e2]; rfl
end Go.Proofs.Qxb6003793a
