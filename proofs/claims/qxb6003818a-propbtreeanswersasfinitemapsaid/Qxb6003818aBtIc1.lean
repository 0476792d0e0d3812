import Derived.Test.Qxb6003818aBtI
import Derived.Shelf.Spec.SlicesInsert
import Derived.Deep.RegionLaw
import Derived.Laws.NewBlocks
namespace Go.Proofs.Qxb6003818a
open Go.ChangeShapes Go.WideShapes Go.ChangeAt Go.RowKit Go.Shelf Go.Lib
set_option linter.unusedVariables false
set_option linter.unusedSimpArgs false


set_option maxHeartbeats 4000000 in
set_option maxRecDepth 100000 in
/-- Insert at the end. -/
theorem ins77_end (v : Value) (n vb : Nat) (xs vs : List Value) (w : World) (hown : w.ownsRow 0 59 1 v n xs) (hbig : n ≤ 100000)
    (hvb : Blk w vb 59 vs) (hvl : vs.length = 1) (h1v : ∀ v ∈ vs, v.oneCell' = true) :
    Calls Try.prog 77 #[v, .int .i64 n, .slice (some ⟨vb, 0, none⟩) 1 1] w (Ins w 59 1 (n + 1) v (xs ++ vs)) := by
  obtain ⟨i0, hi0, hz0, hzs, hzb⟩ := info_parts info59
  have hrun : ∀ ty, ∃ v' w', (Builtin.append_ #[63, 63] ty #[v, .slice (some ⟨vb, 0, none⟩) 1 1]).run Try.prog w = .ok v' w' ∧ Ins w 59 1 (n + 1) v (xs ++ vs) (.returned v') w' := fun ty => by
    obtain ⟨v', w', h1, h2, h3, h4⟩ := run_append_own' (P := Try.prog) w 63 ty 59 i0 _ 1 8 Try.underlying63 hi0 hz0 hzs hzb (by rfl) (by omega) v n xs hown ⟨vb, 0, none⟩ 1 1 vs (by omega) (fun j u hj => by
      rw [Addr.add_lit, Nat.zero_add]
      obtain ⟨q1, q2⟩ := List.getElem?_eq_some_iff.1 hj
      have := hvb.cell q1
      rw [q2] at this
      exact this) h1v (by unfold maxLen; omega) (by omega)
    exact ⟨v', w', h1, v', rfl, h2, h3, h4⟩
  have hnn : ((n : Int) == (n : Int)) = true := by simp
  have hsl : ∃ a c, v = .slice a n c ∧ n ≤ c ∧ (a = none → n = 0 ∧ c = 0) ∧ (∀ x, a = some x → ∃ g, x = ⟨g, 0, none⟩) := by
    rcases owns_cases hown with ⟨h1, h2, h3⟩ | ⟨g, cap, S, h1, _, h3, _⟩
    · exact ⟨none, 0, by rw [h1, h2], by omega, fun _ => ⟨h2, rfl⟩, fun x hx => by cases hx⟩
    · exact ⟨_, _, h1, h3, (fun h => by cases h), fun x hx => by cases hx; exact ⟨_, rfl⟩⟩
  obtain ⟨a, c, hv, hnc, ha, hx⟩ := hsl
  clear hown hvb
  obtain ⟨v', w', hr, F⟩ := hrun 63
  have FF := show Hid _ from F
  clear F hrun
  subst hv
  go_enter Try.func77, Try.ntmps77
  cases a with
  | none =>
    obtain ⟨rfl, rfl⟩ := ha rfl
    go_wp2_with (at_builtin; refine Lib.wpList_append_run _ rfl _ _ _ _ rfl _ _ rfl rfl _ _ hr ?_)
    go_ret
    exact FF.out
  | some x =>
    obtain ⟨g, rfl⟩ := hx x rfl
    go_wp2_with (at_builtin; refine Lib.wpList_append_run _ rfl _ _ _ _ rfl _ _ rfl rfl _ _ hr ?_)
    all_goals (go_ret; exact FF.out)

end Go.Proofs.Qxb6003818a
