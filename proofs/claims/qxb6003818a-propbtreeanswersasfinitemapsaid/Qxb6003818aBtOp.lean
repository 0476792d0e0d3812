import Derived.Test.Qxb6003818aBtO
import Derived.Deep.SlicePairs
import Derived.OpenShut
import Derived.ShutString
import Derived.ChangeOld
import Derived.ChangeMaps5
namespace Go.Proofs.Qxb6003818a
open Go.ChangeShapes Go.WideShapes Go.ChangeAt Go.RowKit
set_option linter.unusedVariables false

theorem cells3 : Try.prog.cellsOf 3 = 1 := by kernel_rfl
theorem cells9 : Try.prog.cellsOf 9 = 1 := by kernel_rfl
theorem cells47 : Try.prog.cellsOf 47 = 3 := by kernel_rfl
theorem own : ownKnob Try.prog.godebug = none := by kernel_rfl
theorem laidOut : laidOutB Try.prog = true := by kernel_rfl

set_option maxRecDepth 100000 in
/-- A slice of steps that came in. -/
theorem inO_open {H : Type} {enc : TypeId × Value → H} {W : World} {sp : Nat → Bool} {held : Bool} {a : Option Addr} {len cap : Nat} {d : DataW H} {p : List MemPlace}
    (h : DataW.Trod enc Try.prog W 0 sp held 31 (.slice a len cap) d p) : ∃ l : List Op3, len = l.length ∧ Ops W W.heap.size a l ∧ l.length ≤ 9223372036854775807 := by
  obtain ⟨fuel, hf⟩ := h
  rcases Go.Deep.open_slice Try.underlying31 hf with ⟨hcs, _⟩ | ⟨x, l, c, m, n, D, Pl, hcs, _, hl, hmx, hm, _, hx⟩
  · simp [Value.cells] at hcs
    obtain ⟨rfl, rfl, rfl⟩ := hcs
    exact ⟨[], rfl, fun i hi => absurd hi (Nat.not_lt_zero _), by simp⟩
  · simp [Value.cells] at hcs
    obtain ⟨rfl, rfl, rfl⟩ := hcs
    have hlm : len ≤ m := by rw [hm]; split <;> omega
    obtain ⟨b, off, spot⟩ := x
    have each : ∀ i, i < len → ∃ r : Op3, W.cell? ((⟨b, off, spot⟩ : Addr).add (i * 3)) = some (.int .i64 r.1) ∧ W.cell? ((⟨b, off, spot⟩ : Addr).add (i * 3 + 1)) = some (.string ⟨r.2.1.toArray⟩) ∧ W.cell? ((⟨b, off, spot⟩ : Addr).add (i * 3 + 2)) = some (.int .i64 r.2.2) := by
      intro i hi
      obtain ⟨cs', h1, h2⟩ := hx i (by omega)
      rw [cells47] at h1
      obtain ⟨_, hlen, hcell⟩ := World.cells?_some h1
      obtain ⟨xs, k, hk, hxy, _, hxl, hfd⟩ := DataW.trod_struct Try.underlying47 h2
      match xs, hxl, cs', hlen with
      | [y0, y1, y2], _, [v0, v1, v2], _ =>
        have g0 := hfd 0 _ rfl
        have g1 := hfd 1 _ rfl
        have g2 := hfd 2 _ rfl
        simp [cells9, cells3] at g0 g1 g2
        have e0 := hcell 0 (by omega)
        have e1 := hcell 1 (by omega)
        have e2 := hcell 2 (by omega)
        obtain ⟨s0, hs0, _⟩ := DataW.trod_int Try.underlying3 g0
        obtain ⟨s1, hs1, _⟩ := DataW.trod_string Try.underlying9 g1
        obtain ⟨s2, hs2, _⟩ := DataW.trod_int Try.underlying3 g2
        simp at hs0 hs1 hs2
        subst hs0 hs1 hs2
        refine ⟨(s0, s1.data.toList, s2), ?_, ?_, ?_⟩
        · rw [Go.Deep.add_add] at e0; simpa using e0
        · rw [Go.Deep.add_add] at e1; simpa using e1
        · rw [Go.Deep.add_add] at e2; simpa using e2
    obtain ⟨q, hq⟩ := Go.Deep.choose_lt each
    refine ⟨(List.range len).map q, by simp, ?_, by simp; unfold maxLen at hmx; omega⟩
    intro i hi
    have hi' : i < len := by simpa using hi
    have hspot : spot = none := by simpa [Addr.add] using World.cell?_spot (hq 0 (by omega)).1
    subst hspot
    have h3 := hq i hi'
    simp only [Addr.add_lit] at h3
    obtain ⟨z0, z1, z2⟩ := h3
    refine ⟨b, off, rfl, World.block_lt_of_cell? W _ z0, ?_, ?_, ?_⟩
    · simp only [List.getElem_map, List.getElem_range]; exact z0
    · simp only [List.getElem_map, List.getElem_range]; rw [Nat.add_assoc]; exact z1
    · simp only [List.getElem_map, List.getElem_range]; rw [Nat.add_assoc]; exact z2
end Go.Proofs.Qxb6003818a
