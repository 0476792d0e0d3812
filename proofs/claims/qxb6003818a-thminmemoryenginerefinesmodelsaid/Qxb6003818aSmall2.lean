import Derived.Test.Qxb6003818aSmall
namespace Go.Proofs.Qxb6003818a
open Go.ChangeShapes Go.WideShapes Go.ChangeAt Go.RowKit
set_option linter.unusedVariables false
set_option linter.unusedSimpArgs false

def boxK (s e : Str) (t o : Bool) (T : TypeId) : Obj := .cells #[.string ⟨s.toArray⟩, .string ⟨e.toArray⟩, .bool t, .bool o] T (0, 0)
theorem newest {w : World} (l : List Value) (T : TypeId) : Blk (w.alloc (.cells l.toArray T (0, 0))) w.heap.size T l := heap_alloc_new w _
/-- The second of two new blocks. -/
theorem second {w : World} (a : Obj) (l : List Value) (T : TypeId) : Blk ((w.alloc a).alloc (.cells l.toArray T (0, 0))) (w.heap.size + 1) T l := by
  have := newest (w := w.alloc a) l T
  simpa using this
theorem third {w : World} (a b : Obj) (l : List Value) (T : TypeId) : Blk (((w.alloc a).alloc b).alloc (.cells l.toArray T (0, 0))) (w.heap.size + 2) T l := by
  have := newest (w := (w.alloc a).alloc b) l T
  simpa using this

/-- A block of four cells, cell by cell. -/
theorem Blk.four {w : World} {g : Nat} {T : TypeId} {x0 x1 x2 x3 : Value} (h : Blk w g T [x0, x1, x2, x3]) :
    w.cell? ⟨g, 0, none⟩ = some x0 ∧ w.cell? ⟨g, 1, none⟩ = some x1 ∧ w.cell? ⟨g, 2, none⟩ = some x2 ∧ w.cell? ⟨g, 3, none⟩ = some x3 ∧
    w.frozen? ⟨g, 0, none⟩ = false ∧ w.frozen? ⟨g, 1, none⟩ = false ∧ w.frozen? ⟨g, 2, none⟩ = false ∧ w.frozen? ⟨g, 3, none⟩ = false :=
  ⟨h.cell (i := 0) (by simp), h.cell (i := 1) (by simp), h.cell (i := 2) (by simp), h.cell (i := 3) (by simp), h.free 0, h.free 1, h.free 2, h.free 3⟩

set_option maxHeartbeats 1000000 in
theorem zzreadTo_any (s e : Str) (t o : Bool) (k : Str) (d : Bool) (w : World) : Calls Try.prog 7 #[aggK s e t o, .string ⟨k.toArray⟩, .bool d] w (Gives w (if d then aggK k e t o else aggK s k true false)) := by
  have hz := second (w := w) (boxK s e t o 24) [.string ⟨#[]⟩, .string ⟨#[]⟩, .bool false, .bool false] 24
  unfold boxK at hz
  cases d
  · go_enter Try.func7, Try.ntmps7
    go_wp2_with (first | (go_at_call 15; refine (to_any s e t o _).mono ?_; rintro en w1 ⟨rfl, hb1⟩) | (go_at_call 16; refine (readTo_any s e t o k false _).mono ?_; rintro en w2 ⟨rfl, hb2⟩) | (go_at_call 14; refine (from_any s k true false _).mono ?_; rintro en w3 ⟨rfl, hb3⟩; have hz3 := ((hz.below hb1 (by simp)).below hb2 (Blk.lt (hz.below hb1 (by simp)))).below hb3 (Blk.lt ((hz.below hb1 (by simp)).below hb2 (Blk.lt (hz.below hb1 (by simp))))); obtain ⟨q0, q1, q2, q3, f0, f1, f2, f3⟩ := hz3.four))
    have B1 := (b2 w _ _).trans (hb1.mono (by simp; omega))
    have B2 := B1.trans (hb2.mono B1.size)
    have B3 := B2.trans (hb3.mono B2.size)
    exact bodyPost_ret (v := aggK s k true false) (by simp [results, Try.results7, go_sem, *]) rfl ⟨rfl, (((B3.setCell (by simp) _).setCell (by simp) _).setCell (by simp) _).setCell (by simp) _⟩
  · go_enter Try.func7, Try.ntmps7
    go_wp2_with (first | (go_at_call 15; refine (to_any s e t o _).mono ?_; rintro en w1 ⟨rfl, hb1⟩) | (go_at_call 16; refine (readTo_any s e t o k true _).mono ?_; rintro en w2 ⟨rfl, hb2⟩) | (go_at_call 14; refine (from_any k e t o _).mono ?_; rintro en w3 ⟨rfl, hb3⟩; have hz3 := ((hz.below hb1 (by simp)).below hb2 (Blk.lt (hz.below hb1 (by simp)))).below hb3 (Blk.lt ((hz.below hb1 (by simp)).below hb2 (Blk.lt (hz.below hb1 (by simp))))); obtain ⟨q0, q1, q2, q3, f0, f1, f2, f3⟩ := hz3.four))
    have B1 := (b2 w _ _).trans (hb1.mono (by simp; omega))
    have B2 := B1.trans (hb2.mono B1.size)
    have B3 := B2.trans (hb3.mono B2.size)
    exact bodyPost_ret (v := aggK k e t o) (by simp [results, Try.results7, go_sem, *]) rfl ⟨rfl, (((B3.setCell (by simp) _).setCell (by simp) _).setCell (by simp) _).setCell (by simp) _⟩

def joinE (e : Str) (t o : Bool) (e2 : Str) (t2 o2 : Bool) : Str × Bool × Bool := if endsAfterK e2 t2 o2 e t o then (e2, t2, o2) else (e, t, o)
def joinV (s e : Str) (t o : Bool) (e2 : Str) (t2 o2 : Bool) : Value := aggK s (joinE e t o e2 t2 o2).1 (joinE e t o e2 t2 o2).2.1 (joinE e t o e2 t2 o2).2.2

set_option maxHeartbeats 4000000 in
theorem joined_any (s e : Str) (t o : Bool) (s2 e2 : Str) (t2 o2 : Bool) (w : World) : Calls Try.prog 29 #[aggK s e t o, aggK s2 e2 t2 o2] w (Gives w (joinV s e t o e2 t2 o2)) := by
  have hz0 := (((newest (w := w) [.string ⟨s.toArray⟩, .string ⟨e.toArray⟩, .bool t, .bool o] 38).below (b1 _ (boxK s2 e2 t2 o2 38)) (by simp))).below (b1 _ (.cells #[.string ⟨#[]⟩, .string ⟨#[]⟩, .bool false, .bool false] 38)) (by simp; omega)
  have hz1 := (second (w := w) (boxK s e t o 38) [.string ⟨s2.toArray⟩, .string ⟨e2.toArray⟩, .bool t2, .bool o2] 38).below (b1 _ (.cells #[.string ⟨#[]⟩, .string ⟨#[]⟩, .bool false, .bool false] 38)) (by simp)
  have hz2 := third (w := w) (boxK s e t o 38) (boxK s2 e2 t2 o2 38) [.string ⟨#[]⟩, .string ⟨#[]⟩, .bool false, .bool false] 38
  unfold boxK at hz0 hz1 hz2
  cases hE : endsAfterK e2 t2 o2 e t o
  · have HV : Hid (joinV s e t o e2 t2 o2 = aggK s e t o) := by simp [Hid, joinV, joinE, hE]
    rw [HV.out]
    go_enter Try.func29, Try.ntmps29
    go_wp2_with (go_at_call 40; refine (endsAfter_any s2 e2 t2 o2 s e t o _).mono ?_; rw [hE]; rintro en w1 ⟨rfl, hb1⟩; have hz0' := hz0.below hb1 (by simp; omega); have hz1' := hz1.below hb1 (by simp); have hz2' := hz2.below hb1 (by simp); obtain ⟨q0, q1, q2, q3, f0, f1, f2, f3⟩ := hz0'.four; obtain ⟨r0, r1, r2, r3, -, -, -, -⟩ := hz1'.four; obtain ⟨k0, k1, k2, k3, g0, g1, g2, g3⟩ := hz2'.four)
    have B1 := ((b2 w _ _).alloc (by simp; omega) _).trans (hb1.mono (by simp; omega))
    exact bodyPost_ret (v := aggK s e t o) (by simp [results, Try.results29, go_sem, *]) rfl ⟨rfl, (((B1.setCell (by simp; omega) _).setCell (by simp; omega) _).setCell (by simp; omega) _).setCell (by simp; omega) _⟩
  · have HV : Hid (joinV s e t o e2 t2 o2 = aggK s e2 t2 o2) := by simp [Hid, joinV, joinE, hE]
    rw [HV.out]
    go_enter Try.func29, Try.ntmps29
    go_wp2_with (go_at_call 40; refine (endsAfter_any s2 e2 t2 o2 s e t o _).mono ?_; rw [hE]; rintro en w1 ⟨rfl, hb1⟩; have hz0' := hz0.below hb1 (by simp; omega); have hz1' := hz1.below hb1 (by simp); have hz2' := hz2.below hb1 (by simp); obtain ⟨q0, q1, q2, q3, f0, f1, f2, f3⟩ := hz0'.four; obtain ⟨r0, r1, r2, r3, -, -, -, -⟩ := hz1'.four; obtain ⟨k0, k1, k2, k3, g0, g1, g2, g3⟩ := hz2'.four)
    go_region
    all_goals go_wp2
    have B1 := ((b2 w _ _).alloc (by simp; omega) _).trans (hb1.mono (by simp; omega))
    exact bodyPost_ret (v := aggK s e2 t2 o2) (by simp [results, Try.results29, go_sem, *]) rfl ⟨rfl, (((((((B1.setCell (by simp) _).setCell (by simp) _).setCell (by simp) _).setCell (by simp; omega) _).setCell (by simp; omega) _).setCell (by simp; omega) _).setCell (by simp; omega) _).drew⟩
end Go.Proofs.Qxb6003818a
