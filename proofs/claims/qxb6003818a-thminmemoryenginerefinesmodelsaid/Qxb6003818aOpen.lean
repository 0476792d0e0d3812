import Derived.Test.Qxb6003818aSort
import Derived.Deep.SlicePairs
import Derived.OpenShut
import Derived.ShutString
import Derived.ChangeOld
import Derived.ChangeMaps5
namespace Go.Proofs.Qxb6003818a
open Go.ChangeShapes Go.WideShapes Go.ChangeAt Go.RowKit
set_option linter.unusedVariables false

theorem cells9 : Try.prog.cellsOf 9 = 1 := by kernel_rfl
theorem cells4 : Try.prog.cellsOf 4 = 1 := by kernel_rfl
theorem cells24 : Try.prog.cellsOf 24 = 4 := by kernel_rfl
theorem own : ownKnob Try.prog.godebug = none := by kernel_rfl
theorem laidOut : laidOutB Try.prog = true := by kernel_rfl

theorem four_of {W : World} {b o n : Nat} {q : Nat → KR}
    (h : ∀ i, i < n → W.cell? ⟨b, o + i * 4, none⟩ = some (.string ⟨(q i).1.toArray⟩) ∧ W.cell? ⟨b, o + (i * 4 + 1), none⟩ = some (.string ⟨(q i).2.1.toArray⟩) ∧ W.cell? ⟨b, o + (i * 4 + 2), none⟩ = some (.bool (q i).2.2.1) ∧ W.cell? ⟨b, o + (i * 4 + 3), none⟩ = some (.bool (q i).2.2.2)) :
    Row W W.heap.size (some ⟨b, o, none⟩) (((List.range n).map q).flatMap encK) := by
  intro t ht
  have ht' := ht
  rw [flat_len] at ht
  simp only [List.length_map, List.length_range] at ht
  obtain ⟨h0, h1, h2, h3⟩ := h (t / 4) (by omega)
  refine ⟨b, o, rfl, World.block_lt_of_cell? W _ h0, ?_⟩
  have e := flat_get ((List.range n).map q) t (by simpa using ht)
  rw [List.getElem?_eq_getElem ht'] at e
  rw [e]
  simp only [List.getElem_map, List.getElem_range]
  have hm : t % 4 < 4 := Nat.mod_lt _ (by omega)
  have ht4 : t = t / 4 * 4 + t % 4 := by omega
  have e0 : o + t = o + (t / 4 * 4 + t % 4) := by omega
  rw [e0]
  generalize t % 4 = j at hm
  match j, hm with
  | 0, _ => exact h0
  | 1, _ => exact h1
  | 2, _ => exact h2
  | 3, _ => exact h3

set_option maxRecDepth 100000 in
/-- A slice of ranges that came in. -/
theorem inK_open {H : Type} {enc : TypeId × Value → H} {W : World} {sp : Nat → Bool} {held : Bool} {a : Option Addr} {len cap : Nat} {d : DataW H} {p : List MemPlace}
    (h : DataW.Trod enc Try.prog W 0 sp held 22 (.slice a len cap) d p) : ∃ l : List KR, len = l.length ∧ Row W W.heap.size a (l.flatMap encK) ∧ l.length ≤ 9223372036854775807 := by
  obtain ⟨fuel, hf⟩ := h
  rcases Go.Deep.open_slice Try.underlying22 hf with ⟨hcs, _⟩ | ⟨x, l, c, m, n, D, Pl, hcs, _, hl, hmx, hm, _, hx⟩
  · simp [Value.cells] at hcs
    obtain ⟨rfl, rfl, rfl⟩ := hcs
    exact ⟨[], rfl, Row.nil _ _ _, by simp⟩
  · simp [Value.cells] at hcs
    obtain ⟨rfl, rfl, rfl⟩ := hcs
    have hlm : len ≤ m := by rw [hm]; split <;> omega
    obtain ⟨b, off, spot⟩ := x
    have each : ∀ i, i < len → ∃ r : KR, W.cell? ((⟨b, off, spot⟩ : Addr).add (i * 4)) = some (.string ⟨r.1.toArray⟩) ∧ W.cell? ((⟨b, off, spot⟩ : Addr).add (i * 4 + 1)) = some (.string ⟨r.2.1.toArray⟩) ∧ W.cell? ((⟨b, off, spot⟩ : Addr).add (i * 4 + 2)) = some (.bool r.2.2.1) ∧ W.cell? ((⟨b, off, spot⟩ : Addr).add (i * 4 + 3)) = some (.bool r.2.2.2) := by
      intro i hi
      obtain ⟨cs', h1, h2⟩ := hx i (by omega)
      rw [cells24] at h1
      obtain ⟨_, hlen, hcell⟩ := World.cells?_some h1
      obtain ⟨xs, k, hk, hxy, _, hxl, hfd⟩ := DataW.trod_struct Try.underlying24 h2
      match xs, hxl, cs', hlen with
      | [y0, y1, y2, y3], _, [v0, v1, v2, v3], _ =>
        have g0 := hfd 0 _ rfl
        have g1 := hfd 1 _ rfl
        have g2 := hfd 2 _ rfl
        have g3 := hfd 3 _ rfl
        simp [cells9, cells4] at g0 g1 g2 g3
        have e0 := hcell 0 (by omega)
        have e1 := hcell 1 (by omega)
        have e2 := hcell 2 (by omega)
        have e3 := hcell 3 (by omega)
        obtain ⟨s0, hs0, _⟩ := DataW.trod_string Try.underlying9 g0
        obtain ⟨s1, hs1, _⟩ := DataW.trod_string Try.underlying9 g1
        obtain ⟨b2, hb2, _⟩ := DataW.trod_bool Try.underlying4 g2
        obtain ⟨b3, hb3, _⟩ := DataW.trod_bool Try.underlying4 g3
        simp at hs0 hs1 hb2 hb3
        subst hs0 hs1 hb2 hb3
        refine ⟨(s0.data.toList, s1.data.toList, b2, b3), ?_, ?_, ?_, ?_⟩
        · rw [Go.Deep.add_add] at e0; simpa using e0
        · rw [Go.Deep.add_add] at e1; simpa using e1
        · rw [Go.Deep.add_add] at e2; simpa using e2
        · rw [Go.Deep.add_add] at e3; simpa using e3
    obtain ⟨q, hq⟩ := Go.Deep.choose_lt each
    refine ⟨(List.range len).map q, by simp, ?_, by simp; unfold maxLen at hmx; omega⟩
    by_cases h0 : len = 0
    · subst h0
      exact Row.nil _ _ _
    · have hspot : spot = none := by simpa [Addr.add] using World.cell?_spot (hq 0 (by omega)).1
      subst hspot
      refine four_of (fun i hi => ?_)
      have := hq i hi
      simp only [Addr.add_lit] at this
      exact this
end Go.Proofs.Qxb6003818a
