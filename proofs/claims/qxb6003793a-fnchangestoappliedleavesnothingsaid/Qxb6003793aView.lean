import Derived.Test.Qxb6003793aClone
namespace Go.Proofs.Qxb6003793a
open Go.ChangeShapes Go.WideShapes Go.ChangeAt Go.RowKit
open Pl
set_option linter.unusedVariables false

theorem Strs.setCell {w : World} {B g o b : Nat} {ss : List Str} (h : Strs w B (some ⟨g, o, none⟩) ss) (hne : g ≠ b) (i : Nat) (v : Value) : Strs (w.setCell ⟨b, i, none⟩ v) B (some ⟨g, o, none⟩) ss := by
  intro j hj
  obtain ⟨b', off', e, hlt, hc⟩ := h j hj
  cases e
  refine ⟨g, o, rfl, hlt, ?_⟩
  rw [← hc]
  exact World.cell?_of_block (Below.heap_setCell _ _ _ _ hne)

set_option maxHeartbeats 1000000 in
theorem view_any (a1 a2 a3 a4 : Option Addr) (c1 c2 c3 c4 : Nat) (s1 s2 s3 s4 : List Str) (B : Nat) (w : World) (h2 : Strs w B a2 s2) (h3 : Strs w B a3 s3) (h4 : Strs w B a4 s4) (hB : B ≤ w.heap.size)
    (n2 : s2.length ≤ 10000) (n3 : s3.length ≤ 10000) (n4 : s4.length ≤ 10000) :
    Calls Try.prog 21 #[.slice a1 s1.length c1, .slice a2 s2.length c2, .slice a3 s3.length c3, .slice a4 s4.length c4] w fun e w' =>
      (∃ g c', e = .returned (.agg #[.slice a1 s1.length c1, .slice (some ⟨g, 0, none⟩) (mergeL s2 (mergeL s3 s4)).length c', .slice a2 s2.length c2, .slice a3 s3.length c3, .slice a4 s4.length c4]) ∧ Strs w' w'.heap.size (some ⟨g, 0, none⟩) (mergeL s2 (mergeL s3 s4))) ∧ Below w.heap.size w w' := by
  have e34 : Hid ((mergeL s3 s4).length = s3.length + s4.length) := merge_len _ _
  go_enter Try.func21, Try.ntmps21
  go_wp2_with fail
  have b0 : ∀ o, Below w.heap.size w (w.alloc o) := fun o => (Below.refl _ w).alloc (Nat.le_refl _) o
  have X := merge_any a3 a4 c3 c4 s3 s4 B (w.alloc (.cells #[.slice none 0 0, .slice none 0 0, .slice none 0 0, .slice none 0 0, .slice none 0 0] 49)) (h3.below (b0 _) hB) (h4.below (b0 _) hB) (by simp; omega) (by omega) (by omega)
  refine X.mono ?_
  rintro e w5 ⟨rfl, hs5, hb5⟩
  have hs5' : Strs w5 w5.heap.size (some ⟨w.heap.size + 1, 0, none⟩) (mergeL s3 s4) := by simpa using hs5
  clear hs5
  have z5 : w.heap.size + 1 ≤ w5.heap.size := by have := hb5.size; simp at this; omega
  have b5 : Below w.heap.size w w5 := (b0 _).trans (hb5.mono (by simp))
  have hbk5 : Blk w5 w.heap.size 49 [.slice none 0 0, .slice none 0 0, .slice none 0 0, .slice none 0 0, .slice none 0 0] := (hb5.block _ (by simp)).trans (heap_alloc_new w _)
  go_wp2_with fail
  refine (merge_any a2 (some ⟨w.heap.size + 1, 0, none⟩) c2 (s3.length + s4.length) s2 (mergeL s3 s4) w5.heap.size _ ((h2.below b5 hB).mono (by omega)) hs5' (Nat.le_refl _) (by omega) (by rw [e34.out]; omega)).mono ?_
  rintro e w6 ⟨rfl, hs6, hb6⟩
  have z6 := hb6.size
  have b6 : Below w.heap.size w w6 := b5.trans (hb6.mono (by omega))
  have hbk6 := hbk5.below hb6 (by omega)
  clear hbk5
  have q0 := hbk6.cell (i := 0) (by decide)
  have q1 := hbk6.cell (i := 1) (by decide)
  have q2 := hbk6.cell (i := 2) (by decide)
  have q3 := hbk6.cell (i := 3) (by decide)
  have q4 := hbk6.cell (i := 4) (by decide)
  have f0 := hbk6.free 0
  have f1 := hbk6.free 1
  have f2 := hbk6.free 2
  have f3 := hbk6.free 3
  have f4 := hbk6.free 4
  simp only [List.getElem_cons_zero, List.getElem_cons_succ] at q0 q1 q2 q3 q4
  go_wp2_with fail
  have hs6' := ((((hs6.setCell (b := w.heap.size) (by omega) 0 (.slice a1 s1.length c1)).setCell (b := w.heap.size) (by omega) 1 (.slice (some ⟨w5.heap.size, 0, none⟩) (mergeL s2 (mergeL s3 s4)).length (s2.length + (mergeL s3 s4).length))).setCell (b := w.heap.size) (by omega) 2 (.slice a2 s2.length c2)).setCell (b := w.heap.size) (by omega) 3 (.slice a3 s3.length c3)).setCell (b := w.heap.size) (by omega) 4 (.slice a4 s4.length c4)
  refine bodyPost_ret (v := .agg #[.slice a1 s1.length c1, .slice (some ⟨w5.heap.size, 0, none⟩) (mergeL s2 (mergeL s3 s4)).length (s2.length + (mergeL s3 s4).length), .slice a2 s2.length c2, .slice a3 s3.length c3, .slice a4 s4.length c4]) (by simp [results, Try.results21, go_sem, q0, q1, q2, q3, q4]) rfl ⟨⟨_, _, rfl, by simpa using hs6'⟩, ?_⟩
  exact ((((b6.setCell (Nat.le_refl _) _).setCell (Nat.le_refl _) _).setCell (Nat.le_refl _) _).setCell (Nat.le_refl _) _).setCell (Nat.le_refl _) _
end Go.Proofs.Qxb6003793a
