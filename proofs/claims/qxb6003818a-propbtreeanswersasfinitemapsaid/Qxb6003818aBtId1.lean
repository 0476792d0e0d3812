import Derived.Test.Qxb6003818aBtIa1
import Derived.Test.Qxb6003818aBtIb1
import Derived.Test.Qxb6003818aBtIc1
import Derived.Shelf.Spec.SlicesInsert
import Derived.Deep.RegionLaw
import Derived.Laws.NewBlocks
namespace Go.Proofs.Qxb6003818a
open Go.ChangeShapes Go.WideShapes Go.ChangeAt Go.RowKit Go.Shelf Go.Lib
set_option linter.unusedVariables false
set_option linter.unusedSimpArgs false

/-- Insert. -/
theorem ins77 (v : Value) (n i vb : Nat) (xs vs : List Value) (w : World) (hown : w.ownsRow 0 59 1 v n xs) (hi : i ≤ n) (hbig : n ≤ 100000)
    (hvb : Blk w vb 59 vs) (hvl : vs.length = 1) (hne : (ownB v).count vb = 0) (h1c : ∀ v ∈ xs, v.oneCell' = true) (h1v : ∀ v ∈ vs, v.oneCell' = true) :
    Calls Try.prog 77 #[v, .int .i64 i, .slice (some ⟨vb, 0, none⟩) 1 1] w (Ins w 59 1 (n + 1) v (xs.take (i) ++ vs ++ xs.drop (i))) := by
  by_cases he : i = n
  · subst he
    have := ins77_end v i vb xs vs w hown hbig hvb hvl h1v
    have hx : xs.length = i := by have := hown.1; omega
    rw [List.take_of_length_le (by omega), List.drop_of_length_le (by omega), List.append_nil]
    exact this
  · rcases owns_cases hown with ⟨h1, h2, h3⟩ | ⟨g, cap, S, h1, h2, h3, h4, h5, h6, h7⟩
    · omega
    · subst h1
      have hvg : vb ≠ g := fun e => by subst e; rw [h6] at hne; simp at hne
      by_cases hr : n + 1 ≤ cap
      · refine (ins77_shift g n cap i vb xs S vs w h2 (by omega) hr h4 (by omega) (by omega) hvb hvl hvg h1c h1v).mono ?_
        rintro e w' ⟨rfl, rfl⟩
        have htl : (xs.take (i)).length = i := by rw [List.length_take, h7]; omega
        have hSl : 1 ≤ S.length := by rw [List.length_append, h7] at h5; omega
        have hsh := blk_shift (w := w.drew) (A := xs.take (i)) (D := xs.drop (i)) (S := S) (vs := vs) (k := 1) (by rw [List.take_append_drop]; exact h2) hvl hSl
        rw [htl, show i + 1 = (i + 1) by omega] at hsh
        refine ⟨_, rfl, owns_mk hsh ?_ hr h4 ?_, ?_, ?_⟩
        · rw [List.length_append, List.length_append, htl, hvl, List.length_drop, h7]; omega
        · rw [List.length_append, List.length_append, List.length_append, htl, hvl, List.length_drop, h7, List.length_drop]; rw [List.length_append, h7] at h5; omega
        · rw [h6]
          have hA := upd_setCells [g] (by simp) (xs.drop (i)) ((i + 1)) h2.drew
          have hB : Blk (w.drew.setCells g ((i + 1)) (xs.drop (i))) g 59 ((xs ++ S).take ((i + 1)) ++ (xs.drop (i) ++ ((xs ++ S).drop ((i + 1))).drop ((xs.drop (i)).length))) := by
            have hl : ((xs ++ S).take ((i + 1))).length = (i + 1) := by rw [List.length_take, List.length_append, h7]; omega
            have := blk_put (w := w.drew) (g := g) (T := 59) (xs.drop (i)) (X := (xs ++ S).take ((i + 1))) (Y := ((xs ++ S).drop ((i + 1))).take ((xs.drop (i)).length)) (Z := ((xs ++ S).drop ((i + 1))).drop ((xs.drop (i)).length)) (by rw [List.take_append_drop, List.take_append_drop]; exact h2) (by rw [List.length_take, List.length_drop, List.length_drop, List.length_append, h7]; omega)
            rw [hl] at this
            exact this
          exact ((Upd.drew w _).trans (hA.trans (upd_setCells [g] (by simp) vs (i) hB) (fun _ _ h => h)) (fun _ _ h => h))
        · exact fresh_same w _ (ownB_le _)
      · exact ins77_grow g n cap i vb xs S vs w h2 (by omega) h3 (by omega) hbig (by omega) hvb hvl h1c h1v
end Go.Proofs.Qxb6003818a
