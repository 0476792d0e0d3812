import Derived.Test.Qxb6003818aBtM2
import Derived.Test.Qxb6003818aBtG
namespace Go.Proofs.Qxb6003818a
open Go.ChangeShapes Go.WideShapes Go.ChangeAt Go.RowKit
set_option linter.unusedVariables false
set_option linter.unusedSimpArgs false

/-- From w to w' only the map at tb has turned: its blocks are F, now F'. -/
structure MapTurns (w w' : World) (tb : Nat) (F F' : List Nat) : Prop where
  upd : Upd w w' (tb :: F)
  fresh : Fresh w F F'
theorem root_lt {w : World} {root : Value} {fl : List Item} {ft : List Nat} (h : Root w root fl ft) (k : Nat) (hk : w.heap.size ≤ k) : ft.count k = 0 := by
  rcases h with ⟨_, _, rfl⟩ | ⟨h, t, _, h1, _, _, rfl⟩
  · simp
  · exact tree_lt h1 k hk
theorem MapAt.lt {w : World} {tb : Nat} {fl : List Item} {ft : List Nat} (H : MapAt w tb fl ft) (k : Nat) (hk : w.heap.size ≤ k) : ft.count k = 0 := by
  obtain ⟨root, _, hr⟩ := H.root
  exact root_lt hr k hk
theorem MapTurns.pre {w w1 w2 : World} {tb : Nat} {F F' : List Nat} (H : MapTurns w1 w2 tb F F') (hu : Upd w w1 []) (hlt : ∀ k, w.heap.size ≤ k → F.count k = 0) : MapTurns w w2 tb F F' := by
  refine ⟨hu.mono (fun _ _ _ => by simp) |>.trans H.upd (fun _ _ h => h), fun k => ⟨fun hk => (H.fresh k).1 (Nat.lt_of_lt_of_le hk hu.size), fun hk => ?_⟩⟩
  rcases Nat.lt_or_ge k w1.heap.size with h1 | h1
  · have := (H.fresh k).1 h1
    have := hlt k hk
    omega
  · exact (H.fresh k).2 h1
theorem MapTurns.trans {w w1 w2 : World} {tb : Nat} {F F1 F2 : List Nat} (h : MapTurns w w1 tb F F1) (h2 : MapTurns w1 w2 tb F1 F2) : MapTurns w w2 tb F F2 := by
  refine ⟨h.upd.trans h2.upd (fun k hk hc => ?_), fun k => ⟨fun hk => ?_, fun hk => ?_⟩⟩
  · have := (h.fresh k).1 hk
    rw [List.count_cons] at hc ⊢
    omega
  · have a := (h.fresh k).1 hk
    have b := (h2.fresh k).1 (Nat.lt_of_lt_of_le hk h.upd.size)
    omega
  · by_cases hk2 : k < w1.heap.size
    · have a := (h.fresh k).2 hk
      have b := (h2.fresh k).1 hk2
      omega
    · exact (h2.fresh k).2 (by omega)
end Go.Proofs.Qxb6003818a
