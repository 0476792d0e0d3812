import Derived.Test.Qxb6003818aBtO
import Derived.Laws.BytesArg
namespace Go.Proofs.Qxb6003818a
open Go.ChangeShapes Go.WideShapes Go.ChangeAt Go.RowKit
set_option linter.unusedVariables false
set_option linter.unusedSimpArgs false

/-- Some string of twenty bytes at most; only new blocks. -/
def SomeStr (w : World) (e : Ending) (w' : World) : Prop := ∃ s : ByteArray, s.size ≤ 20 ∧ e = .returned (.string s) ∧ Upd w w' []
/-- Twenty bytes in a block. -/
def Bytes20 (w : World) (bb : Nat) : Prop := ∃ xs : List Int, Blk w bb 57 (xs.map (Value.int .u8)) ∧ xs.length = 20 ∧ ∀ x ∈ xs, 0 ≤ x ∧ x < 256
theorem Bytes20.set {w : World} {bb i : Nat} {y : Int} (h : Bytes20 w bb) (hy : 0 ≤ y ∧ y < 256) : Bytes20 (w.setCell ⟨bb, i, none⟩ (.int .u8 y)) bb := by
  obtain ⟨xs, h1, h2, h3⟩ := h
  refine ⟨xs.set i y, ?_, by simp [h2], fun x hx => ?_⟩
  · have := h1.set i (.int .u8 y)
    rw [List.map_set]
    exact this
  · rcases List.mem_or_eq_of_mem_set hx with hx | rfl
    · exact h3 x hx
    · exact hy

theorem conv20 {W : World} {bb i : Nat} (h : Bytes20 W bb) (hi : i ≤ 20) : ∃ s : ByteArray, s.size ≤ 20 ∧ ∀ cap, (convert 58 9 (.slice (some ⟨bb, i, none⟩) (20 - i) cap)).run Try.prog W = .ok (.string s) W := by
  obtain ⟨xs, h1, h2, h3⟩ := h
  refine ⟨strOfNums (xs.drop i), by rw [strOfNums_size, List.length_drop]; omega, fun cap => run_convert_bytes_arg (P := Try.prog) W 58 5 Try.underlying58 Try.underlying5 bb i (20 - i) cap (xs.drop i) (by rw [List.length_drop, h2]) (fun j hj => ?_) 9 Try.underlying9⟩
  have := h1.cell (i := i + j) (by simp; omega)
  rw [List.getElem_map] at this
  rw [this]
  congr 1
  rw [List.getD_eq_getElem?_getD, List.getElem?_drop, List.getElem?_eq_getElem (by omega)]
  rfl

set_option maxHeartbeats 4000000 in
set_option maxRecDepth 100000 in
/-- btUtoa. -/
theorem utoa22 (x : Int) (hx : 0 ≤ x ∧ x < 18446744073709551616) (w : World) : Calls Try.prog 22 #[.int .u64 x] w (SomeStr w) := by
  have hB : Bytes20 (w.alloc (.cells #[.int .u8 0, .int .u8 0, .int .u8 0, .int .u8 0, .int .u8 0, .int .u8 0, .int .u8 0, .int .u8 0, .int .u8 0, .int .u8 0, .int .u8 0, .int .u8 0, .int .u8 0, .int .u8 0, .int .u8 0, .int .u8 0, .int .u8 0, .int .u8 0, .int .u8 0, .int .u8 0] 57)) w.heap.size :=
    ⟨List.replicate 20 0, blk_new w _ 57, rfl, fun x hx => by simp at hx; omega⟩
  have hU := Upd.alloc w (.cells #[.int .u8 0, .int .u8 0, .int .u8 0, .int .u8 0, .int .u8 0, .int .u8 0, .int .u8 0, .int .u8 0, .int .u8 0, .int .u8 0, .int .u8 0, .int .u8 0, .int .u8 0, .int .u8 0, .int .u8 0, .int .u8 0, .int .u8 0, .int .u8 0, .int .u8 0, .int .u8 0] 57) []
  go_enter Try.func22, Try.ntmps22
  go_wp2
  go_loopg [0, 4] 20 (fun kx s0 s4 wr => ∃ (z : Int) (i : Nat), s0 = .int .u64 z ∧ s4 = .int .i64 i ∧ i ≤ 20 ∧ i ≤ kx ∧ (0 ≤ z ∧ z < 18446744073709551616) ∧ Bytes20 wr w.heap.size ∧ Upd w wr [] ∧ (i = 20 → kx = 20))
  case atStart => exact ⟨x, 20, rfl, rfl, Nat.le_refl _, Nat.le_refl _, hx, hB, hU, fun _ => rfl⟩
  case round =>
    clear hB hU
    obtain ⟨z, i, rfl, rfl, hi, hk, hz, hB, hU, h20⟩ := hrel
    obtain ⟨xs, h1, h2, h3⟩ := hB
    cases i with
    | zero =>
      obtain ⟨sv, hsv, hcv⟩ := conv20 (i := 0) ⟨xs, h1, h2, h3⟩ (by omega)
      have hcv' := hcv 20
      simp only [Nat.sub_zero] at hcv'
      go_wp2
      go_ret
      exact ⟨sv, hsv, rfl, hU⟩
    | succ i =>
      have hc : (wr.cell? ⟨w.heap.size, i, none⟩).isSome = true := blk_some h1 (by simp; omega)
      obtain ⟨u, hu⟩ := Option.isSome_iff_exists.1 hc
      have hf := h1.free i
      have hi1 : ((i : Int) + 1 - 1) = (i : Int) := by omega
      have hw1 : IntKind.i64.wrap (i : Int) = i := by rw [IntKind.wrap_i64]; omega
      have hi2 : (0 : Int) < (i : Int) + 1 := by omega
      have hi3 : (i : Int) < 20 := by omega
      have hBB : Bytes20 wr w.heap.size := ⟨xs, h1, h2, h3⟩
      have hB2 := hBB.set (i := i) (y := 48 + z % 10) (by omega)
      obtain ⟨sv, hsv, hcv⟩ := conv20 (i := i) hB2 (by omega)
      have hcv' := hcv (20 - i)
      have hU2 : Upd w (wr.setCell ⟨w.heap.size, i, none⟩ (.int .u8 (48 + z % 10))) [] := hU.own h1 (Nat.le_refl _) _
      have HH : Hid (Bytes20 (wr.setCell ⟨w.heap.size, i, none⟩ (.int .u8 (48 + z % 10))) w.heap.size ∧ Upd w (wr.setCell ⟨w.heap.size, i, none⟩ (.int .u8 (48 + z % 10))) []) := ⟨hB2, hU2⟩
      have hi5 : i ≤ 20 := by omega
      have hi6 : (i : Int) ≤ 20 := by omega
      have hi7 : ¬ 20 = i := by omega
      have hi8 : ¬ i = 20 := by omega
      clear hB2 hU2 hBB h1 hcv hc
      go_wp2
      · go_ret
        exact ⟨sv, hsv, rfl, HH.out.2⟩
      · go_roundg i
        case measure => omega
        case rel => exact ⟨z / 10, i, rfl, rfl, by omega, Nat.le_refl _, by omega, HH.out.1, HH.out.2, fun h => by omega⟩
end Go.Proofs.Qxb6003818a
