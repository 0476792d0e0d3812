import Derived.Test.Qxb6003818aDisjP
import Derived.Shelf.SlSortCmp.QuietGrown
namespace Go.Proofs.Qxb6003818a
open Go.ChangeShapes Go.WideShapes Go.ChangeAt Go.RowKit Go.Sort
set_option linter.unusedVariables false
set_option linter.unusedSimpArgs false

theorem startsPast_grow (s e : Str) (t o : Bool) (s2 e2 : Str) (t2 o2 : Bool) (w : World) : Calls Try.prog 28 #[aggK s e t o, aggK s2 e2 t2 o2] w fun en w' => en = .returned (.bool (startsPastK s e2 o2)) ∧ ∃ q os', w' = grow (w.drewN q) os' := by
  cases o2
  all_goals
    go_enter Try.func28, Try.ntmps28
    go_wp2
    go_ret
    exact ⟨by simp [startsPastK, bl, le_bl, gt_bl], 0, _, by rw [alloc_eq_grow, alloc_eq_grow, grow_grow]; rfl⟩
theorem below_drewN {B : Nat} {a w : World} (h : RowKit.Below B a w) (n : Nat) : RowKit.Below B a (w.drewN n) := ⟨h.os, h.tape, h.output, h.size, h.block⟩
theorem below_grow (w : World) (n : Nat) (os : Array Obj) : Below w.heap.size w (grow (w.drewN n) os) :=
  ⟨rfl, rfl, rfl, by simp [grow, World.drewN], fun k hk => by rw [heap_grow_old _ _ (by simpa using hk)]; rfl⟩
end Go.Proofs.Qxb6003818a
