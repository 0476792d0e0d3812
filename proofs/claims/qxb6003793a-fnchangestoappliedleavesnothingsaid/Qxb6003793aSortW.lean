import Derived.Test.Qxb6003793aShelf
import Derived.Test.Qxb6003793aMap
import Derived.Test.Qxb6003793aStand
import Derived.Test.Qxb6003793aConcat
import Derived.Maps.RangeWalk
import Derived.Sort.OwnSorted
namespace Go.Proofs.Qxb6003793a
open Go.ChangeShapes Go.WideShapes Go.ChangeAt Go.RowKit Go.Maps
open Go.WideMaps Go.WideElems
open Pl
set_option linter.unusedVariables false

/-- slices.Sort of a slice of strings of the call's own. -/
theorem sort_any (base : Nat) (v : Value) (ss : List Str) (w : World) (hn : ss.length ≤ 1000000) (h : w.ownsRow base 9 1 v ss.length (ss.map encStr)) :
    Calls Try.prog 36 #[v] w fun e w' => e = .returned (.tuple #[]) ∧ w'.ownsRow base 9 1 v ss.length ((ss.mergeSort leB).map encStr) ∧ w.grownBy w' v.ownBlock := by
  rcases h.2 with ⟨rfl, h0⟩ | ⟨g, cap, cur, rfl, hbase, hb, h1, h2, h3, h4⟩
  · have : ss = [] := List.length_eq_zero_iff.1 h0
    subst this
    refine (Try.slices_Sort_string_none none 0 w).mono ?_
    rintro e w' ⟨rfl, rfl⟩
    exact ⟨rfl, by simpa using h, World.grownBy.refl _ _⟩
  · have hH : Sort.Holds encStr w g 0 ss.toArray := holds_of_block hb (by simpa using h4)
    refine (Try.slices_Sort_string g 0 cap ss w hH (Array.getElem?_eq_some_iff.1 hb).1 (by omega)).mono ?_
    rintro e w' ⟨rfl, n, os, rfl⟩
    exact ⟨rfl, ownsRow_sorted (by simp) hbase hb h1 h2 h3, grownBy_sorted _⟩

theorem MapIs.look {w : World} {b n : Nat} {ps : List (Str × Int)} (h : MapIs w b n ps) (x : Str) (hx : x.length ≤ maxLen) :
    (Instr.lookup 46 (.map (some b)) (.string ⟨x.toArray⟩) false).run Try.prog w = .ok (.int .u8 (heldF x ps)) w := by
  obtain ⟨D, hown, hat, hhas⟩ := h
  obtain ⟨c, hrun, hc, _⟩ := hown.lookup_int law9 Try.underlying46 Try.underlying52 (zero52 _) (keyOf9 hx)
  rw [hat x] at hc
  cases hc
  exact hrun

theorem size_le {w : World} {b n : Nat} {D : DataW Unit} (h : w.ownsMap Try.prog 9 (plainElem Try.prog 52) b n D) : Maps.size D ≤ n := by
  obtain ⟨es, clock, hb, F, hs, rfl⟩ := h
  rw [Maps.size_eq, length_sorted]
  simpa using hs

/-- A slice that the call owns, written out. -/
theorem owned_shape {w : World} {base n : Nat} {v : Value} {ss : List Str} (h : w.ownsRow base 9 1 v n (ss.map encStr)) : ∃ a cap, v = .slice a n cap ∧ Strs w w.heap.size a ss := by
  rcases h.2 with ⟨rfl, h0⟩ | ⟨g, cap, cur, rfl, hbase, hb, h1, h2, h3, h4⟩
  · subst h0
    have : ss = [] := by have := h.1; simpa using this
    subst this
    exact ⟨none, 0, rfl, Row.nil _ _ _⟩
  · exact ⟨_, cap, rfl, strs_of_owns h⟩
end Go.Proofs.Qxb6003793a
