import Derived.Test.Qxb6003793aIsortP
import Derived.Test.Qxb6003793aClone
namespace Go.Proofs.Qxb6003793a
open Go.ChangeShapes Go.WideShapes Go.ChangeAt Go.RowKit
open Pl
set_option linter.unusedVariables false

theorem gtrans {a b c : World} {row : Option Nat} (h : a.grownBy b row) (k : b.grownBy c row) : a.grownBy c row :=
  ⟨k.os.trans h.os, k.tape.trans h.tape, k.output.trans h.output, Nat.le_trans h.size k.size, fun i hi hne => (k.block i (Nat.lt_of_lt_of_le hi h.size) hne).trans (h.block i hi hne)⟩
theorem grown_drewN (w : World) (n : Nat) (row : Option Nat) : w.grownBy (w.drewN n) row := ⟨rfl, rfl, rfl, Nat.le_refl _, fun _ _ _ => rfl⟩
theorem grown_setCell (w : World) (b o : Nat) (v : Value) : w.grownBy (w.setCell ⟨b, o, none⟩ v) (some b) :=
  ⟨rfl, rfl, rfl, by simp [World.setCell], fun k _ hk => Below.heap_setCell _ _ _ _ (fun e => hk (by rw [e]))⟩

theorem isort_nil (a : Option Addr) (cap : Nat) (w : World) :
    Calls Try.prog 32 #[.slice a 0 cap] w fun e w' => e = .returned (.tuple #[]) ∧ w' = w := by
  go_enter Try.func32, Try.ntmps32
  go_wp2
  refine wp_loop_rounds 1 ?_
  rw [rounds_succ]
  go_wp2
  go_end0
  exact ⟨rfl, rfl⟩

set_option maxHeartbeats 2000000 in
theorem isort_any (g cap : Nat) (ss : List Str) (w : World) (hb : Blk w g 9 (ss.map encStr)) (hn : ss.length ≤ 100000) :
    Calls Try.prog 32 #[.slice (some ⟨g, 0, none⟩) ss.length cap] w fun e w' => e = .returned (.tuple #[]) ∧ (∃ ss' : List Str, ss'.Perm ss ∧ ss'.Pairwise (· ≤ ·) ∧ Blk w' g 9 (ss'.map encStr)) ∧ w.grownBy w' (some g) := by
  go_enter Try.func32, Try.ntmps32
  go_wp2
  go_loopw [2] (fun i wr => ∃ (k : Nat) (l : List Str), 1 ≤ k ∧ k ≤ ss.length + 1 ∧ i = .int .i64 k ∧ l.Perm ss ∧ Up l k ∧ Blk wr g 9 (l.map encStr) ∧ w.grownBy wr (some g)) (fun i _ => ss.length - (intOf i).toNat)
  case atStart => exact ⟨1, ss, by omega, by omega, rfl, List.Perm.refl _, Up.one _, hb, World.grownBy.refl _ _⟩
  case round =>
    clear hb
    obtain ⟨k, l, hk1, hk, rfl, hp, hup, hbk, hg⟩ := hrel
    have HP : Hid (l.Perm ss) := hp
    have HL : Hid (l.length = ss.length) := hp.length_eq
    have HU : Hid (Up l k) := hup
    clear hp hup
    by_cases hlt : k < ss.length
    · go_wp2
      go_loopw [3] (fun jv wr => ∃ (j : Nat) (l : List Str), j ≤ k ∧ jv = .int .i64 j ∧ l.Perm ss ∧ Ex l k j ∧ Blk wr g 9 (l.map encStr) ∧ w.grownBy wr (some g)) (fun jv _ => (intOf jv).toNat)
      case atStart => exact ⟨k, l, Nat.le_refl _, rfl, HP.out, HU.out.ex, hbk, hg⟩
      case round =>
        clear HP HL HU hbk hg
        obtain ⟨j, l, hj, rfl, hp, hex, hbk, hg⟩ := hrel
        have HP : Hid (l.Perm ss) := hp
        have HL : Hid (l.length = ss.length) := hp.length_eq
        have HE : Hid (Ex l k j) := hex
        clear hp hex
        by_cases hj0 : 0 < j
        · obtain ⟨m, rfl⟩ : ∃ m, j = m + 1 := ⟨j - 1, by omega⟩
          have hm1 : m + 1 < l.length := by rw [HL.out]; omega
          have hc1 := hbk.cell (i := m + 1) (by simpa using hm1)
          have hc0 := hbk.cell (i := m) (by simp; omega)
          rw [List.getElem_map] at hc1 hc0
          obtain ⟨x, hx⟩ : ∃ x, x = l[m + 1] := ⟨_, rfl⟩
          obtain ⟨y, hy⟩ : ∃ y, y = l[m] := ⟨_, rfl⟩
          rw [← hx] at hc1
          rw [← hy] at hc0
          have HX : Hid (x = l[m + 1]) := hx
          have HY : Hid (y = l[m]) := hy
          clear hx hy
          have f1 := hbk.free (m + 1)
          have f0 := hbk.free m
          have hjd : decide ((0 : Int) < ((m + 1 : Nat) : Int)) = true := decide_eq_true (by omega)
          have hji : ((m + 1 : Nat) : Int) < (ss.length : Int) := by omega
          have hji' : ((m + 1 : Nat) : Int) - 1 < (ss.length : Int) := by omega
          cases hl : Op.bytesLess x y
          · have HN : Hid (∀ h0 : 0 < m + 1, ¬ l[m + 1] < l[m + 1 - 1]) := by
              intro _
              rw [less_eq, HX.out, HY.out] at hl
              simpa using hl
            go_wp2
            go_quiet (fail)
            go_wp2
            go_roundw
            case rel => exact ⟨k + 1, l, by omega, by omega, by go_num, HP.out, HE.out.stop hm1 HN.out, hbk.drewN _, gtrans hg (grown_drewN _ _ _)⟩
            case measure => simp [intOf]; omega
          · have HN : Hid (l[m + 1] < l[m]) := by
              rw [less_eq, HX.out, HY.out] at hl
              simpa [Hid] using hl
            go_wp2
            go_quiet (fail)
            go_wp2
            go_roundw
            case rel =>
              refine ⟨m, swapL l m hm1, by omega, by go_num, (swapL_perm l m hm1).trans HP.out, HE.out.swap hm1 HN.out, ?_, gtrans (gtrans (gtrans hg (grown_drewN _ _ _)) (grown_setCell _ _ _ _)) (grown_setCell _ _ _ _)⟩
              have := ((hbk.drewN nq).set (m + 1) (encStr y)).set m (encStr x)
              rw [← List.map_set, ← List.map_set, HX.out, HY.out] at this
              rw [HX.out, HY.out]
              exact this
            case measure => simp [intOf]
        · obtain rfl : j = 0 := by omega
          have hjd : decide ((0 : Int) < ((0 : Nat) : Int)) = false := decide_eq_false (by omega)
          go_wp2
          go_quiet (fail)
          go_wp2
          go_roundw
          case rel => exact ⟨k + 1, l, by omega, by omega, by go_num, HP.out, HE.out.stop (by rw [HL.out]; omega) (fun h => absurd h (by omega)), hbk.drewN _, gtrans hg (grown_drewN _ _ _)⟩
          case measure => simp [intOf]; omega
    · go_wp2
      go_end0
      exact ⟨rfl, ⟨l, HP.out, HU.out.sorted (by rw [HL.out]; omega), hbk⟩, hg⟩
end Go.Proofs.Qxb6003793a
