import Derived.Test.Qxb6003793aFits
import Derived.WalkSpells
namespace Go.Proofs.Qxb6003793a
open Go.ChangeShapes Go.WideShapes Go.ChangeAt Go.RowKit
open Pl
set_option linter.unusedVariables false

/-- Block g holds just the cells l, none of them frozen; its cells' type is T. -/
def Blk (w : World) (g : Nat) (T : TypeId) (l : List Value) : Prop := w.heap[g]? = some (.cells l.toArray T (0, 0))
section
variable {w w' : World} {g : Nat} {T : TypeId} {l : List Value}
theorem Blk.lt (h : Blk w g T l) : g < w.heap.size := (Array.getElem?_eq_some_iff.1 h).1
theorem Blk.cell (h : Blk w g T l) {i : Nat} (hi : i < l.length) : w.cell? ⟨g, i, none⟩ = some l[i] := by
  unfold Blk at h
  simp [World.cell?, h, hi]
theorem Blk.free (h : Blk w g T l) (i : Nat) : w.frozen? ⟨g, i, none⟩ = false := by
  unfold Blk at h
  simp [World.frozen?, h]
theorem Blk.set (h : Blk w g T l) (i : Nat) (v : Value) : Blk (w.setCell ⟨g, i, none⟩ v) g T (l.set i v) := by
  unfold Blk at *
  rw [heap_setCell_same w g i _ T v h]
  simp
theorem Blk.drewN (h : Blk w g T l) (n : Nat) : Blk (w.drewN n) g T l := h
theorem Blk.below {B : Nat} (h : Blk w g T l) (hb : Below B w w') (hg : g < B) : Blk w' g T l := (hb.block g hg).trans h
theorem Blk.kept {row : Option Nat} (h : Blk w g T l) (hg : w.grownBy w' row) (hne : some g ≠ row) : Blk w' g T l := (hg.block g h.lt hne).trans h
theorem Blk.row (h : Blk w g T l) : Row w w.heap.size (some ⟨g, 0, none⟩) l := fun i hi => ⟨g, 0, rfl, h.lt, by rw [Nat.zero_add]; exact h.cell hi⟩
end
theorem blk_of_owns {w : World} {base g n : Nat} {T : TypeId} {xs : List Value} (h : w.ownsRow base T 1 (.slice (some ⟨g, 0, none⟩) n n) n xs) : Blk w g T xs := by
  rcases h.2 with ⟨h0, _⟩ | ⟨g', cap', cur, hv, hb, hh, h1, h2, h3, h4⟩
  · cases h0
  · cases hv
    have e : cur.toList = xs := by rw [← h4, List.take_of_length_le (by simp; omega)]
    unfold Blk
    rw [hh, ← e]

/-- A slice of strings whose array, if there is one, is a block of its own from lo on. -/
def OwnS (w : World) (lo : Nat) (a : Option Addr) (ss : List Str) : Prop := (a = none ∧ ss = []) ∨ ∃ g, a = some ⟨g, 0, none⟩ ∧ lo ≤ g ∧ Blk w g 9 (ss.map encStr)
theorem OwnS.strs {w : World} {lo : Nat} {a : Option Addr} {ss : List Str} (h : OwnS w lo a ss) : Strs w w.heap.size a ss := by
  rcases h with ⟨rfl, rfl⟩ | ⟨g, rfl, _, hb⟩
  · exact Row.nil _ _ _
  · exact hb.row

/-- How far a copy has come. -/
theorem copied {xs cur : List Value} {k : Nat} (hl : cur.length = xs.length) (hk : k < xs.length) (h : cur.take k = xs.take k) : (cur.set k xs[k]).take (k + 1) = xs.take (k + 1) := by
  rw [List.take_set, take_succ cur k (by omega), take_succ xs k hk, h]
  rw [List.set_append_right _ _ (by simp; omega)]
  congr 1
  simp
  have : k - min k xs.length = 0 := by omega
  rw [this]
  rfl

set_option maxHeartbeats 1000000 in
theorem cloneS_any (a : Option Addr) (c : Nat) (ss : List Str) (B : Nat) (w : World) (hS : Strs w B a ss) (hB : B ≤ w.heap.size) (hn : ss.length ≤ 100000) (hnil : a = none → ss = []) :
    Calls Try.prog 17 #[.slice a ss.length c] w fun e w' => (∃ a', e = .returned (.slice a' ss.length ss.length) ∧ OwnS w' w.heap.size a' ss) ∧ Below w.heap.size w w' := by
  cases a with
  | none =>
    have := hnil rfl
    subst this
    clear hnil
    show Calls Try.prog 17 #[.slice none 0 c] w _
    have hnl := fun w => Lib.run_eql_slice_nil (P := Try.prog) w 36 9 none 0 c 0 0 Try.underlying36
    go_enter Try.func17, Try.ntmps17
    go_wp2
    go_ret
    exact ⟨⟨none, rfl, .inl ⟨rfl, rfl⟩⟩, Below.refl _ _⟩
  | some a =>
    have hnl := fun w => Lib.run_eql_slice_nil (P := Try.prog) w 36 9 (some a) ss.length c 0 0 Try.underlying36
    obtain ⟨i0, hi0, hz0, hz1, hz2⟩ := info_parts info9
    clear hnil
    go_enter Try.func17, Try.ntmps17
    go_wp2_with (at_make; refine wpList_make_full _ rfl _ _ 36 rfl w.heap.size 9 i0 (.string ByteArray.empty) 1 Try.underlying36 hi0 hz0 hz1 _ _ _ _ ss.length rfl rfl rfl rfl (by rw [hz2]; omega) (by unfold maxLen; omega) (Nat.le_refl _) ?_; intro w1 hown1 hgrow1)
    have hb1 := blk_of_owns hown1
    have hl1 := hown1.1
    go_loopw [4] (fun i wr => ∃ (k : Nat) (cur : List Value), k ≤ ss.length ∧ i = .int .i64 k ∧ cur.length = ss.length ∧ Blk wr w.heap.size 9 cur ∧ cur.take k = (ss.map encStr).take k ∧ Below w.heap.size w wr) (fun i _ => ss.length - (intOf i).toNat)
    case atStart => exact ⟨0, _, Nat.zero_le _, rfl, by simpa using hl1, hb1, by simp, (Below.refl _ _).grown hgrow1 (Nat.le_refl _) (fun k h => by cases h)⟩
    case round =>
      clear hown1 hb1 hl1 hgrow1
      obtain ⟨k, cur, hk, rfl, hcl, hbk, hcp, hbel⟩ := hrel
      have HL : Hid (cur.length = ss.length) := hcl
      have HC : Hid (cur.take k = (ss.map encStr).take k) := hcp
      clear hcl hcp
      by_cases hlt : k < ss.length
      · obtain ⟨b, off, e, hb, hc⟩ := (hS.below hbel hB).at hlt
        cases e
        clear hS
        have hck := hbk.cell (i := k) (by rw [HL.out]; exact hlt)
        have hfk := hbk.free k
        obtain ⟨v, hv⟩ : ∃ v, v = cur[k]'(by rw [HL.out]; exact hlt) := ⟨_, rfl⟩
        rw [← hv] at hck
        clear hv
        go_wp2
        go_roundw
        case rel =>
          refine ⟨k + 1, cur.set k (encStr ss[k]), by omega, by go_num, by rw [List.length_set]; exact HL.out, hbk.set _ _, ?_, hbel.setCell (Nat.le_refl _) _⟩
          have := copied (xs := ss.map encStr) (by rw [List.length_map]; exact HL.out) (by simpa using hlt) HC.out
          simpa using this
        case measure => simp [intOf]; omega
      · go_wp2
        go_ret
        have e : cur = ss.map encStr := by
          have := HC.out
          rwa [List.take_of_length_le (by rw [HL.out]; omega), List.take_of_length_le (by simp; omega)] at this
        subst e
        exact ⟨⟨_, rfl, .inr ⟨_, rfl, Nat.le_refl _, hbk⟩⟩, hbel⟩
end Go.Proofs.Qxb6003793a
