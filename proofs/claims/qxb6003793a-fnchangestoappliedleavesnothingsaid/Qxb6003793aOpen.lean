import Derived.Test.Qxb6003793aLawA
import Derived.SliceStrings
import Derived.OpenShut
import Derived.ShutString
import Derived.ChangeOld
namespace Go.Proofs.Qxb6003793a
open Go.ChangeShapes Go.WideShapes Go.ChangeAt Go.RowKit
open Pl

theorem cells9 : Try.prog.cellsOf 9 = 1 := by kernel_rfl
theorem cells5 : Try.prog.cellsOf 5 = 1 := by kernel_rfl
theorem own : ownKnob Try.prog.godebug = none := by kernel_rfl
theorem laidOut : laidOutB Try.prog = true := by kernel_rfl

/-- A slice of strings that came in. -/
theorem inS_open {H : Type} {enc : TypeId × Value → H} {W : World} {sp : Nat → Bool} {held : Bool} {a : Option Addr} {len cap : Nat} {d : DataW H} {p : List MemPlace}
    (h : DataW.Trod enc Try.prog W 0 sp held 36 (.slice a len cap) d p) : ∃ ss : List Str, len = ss.length ∧ InS W a ss := by
  obtain ⟨fuel, hf⟩ := h
  rcases open_strings Try.underlying36 Try.underlying9 cells9 hf with ⟨hcs, _⟩ | ⟨x, l, c, ss, hcs, _, hl, hm, hz, _, hcell, hws⟩
  · simp [Value.cells] at hcs
    obtain ⟨rfl, rfl, rfl⟩ := hcs
    exact ⟨[], rfl, Row.nil _ _ _, fun _ => rfl, by simp, by simp⟩
  · simp [Value.cells] at hcs
    obtain ⟨rfl, rfl, rfl⟩ := hcs
    have hls : len ≤ ss.length := by rw [hz]; split <;> omega
    refine ⟨(ss.take len).map (fun s => s.data.toList), by simp; omega, fun i hi => ?_, (fun e => by cases e), ?_, ?_⟩
    · simp only [List.length_map, List.length_take] at hi
      have hc := hcell i (by omega)
      obtain ⟨b, off, spot⟩ := x
      have hspot : spot = none := by simpa [Addr.add] using World.cell?_spot (hcell 0 (by omega))
      subst hspot
      rw [Addr.add_lit] at hc
      refine ⟨b, off, rfl, World.block_lt_of_cell? W _ hc, ?_⟩
      rw [hc]
      simp [encStr, List.getD, List.getElem?_eq_getElem (show i < ss.length by omega)]
    · simp
      unfold maxLen at hm
      omega
    · intro y hy
      simp only [List.mem_map] at hy
      obtain ⟨s, hs, rfl⟩ := hy
      have := hws s (List.mem_of_mem_take hs)
      rw [Array.length_toList]
      exact this

/-- A slice of bytes that came in. -/
theorem inB_open {H : Type} {enc : TypeId × Value → H} {W : World} {sp : Nat → Bool} {held : Bool} {a : Option Addr} {len cap : Nat} {d : DataW H} {p : List MemPlace}
    (h : DataW.Trod enc Try.prog W 0 sp held 37 (.slice a len cap) d p) : ∃ vs : List Int, len = vs.length ∧ InB W a vs := by
  obtain ⟨fuel, hf⟩ := h
  rcases open_ints Try.underlying37 Try.underlying5 cells5 hf with ⟨hcs, _⟩ | ⟨x, l, c, zs, hcs, _, hl, hm, hz, _, hcell, hwz⟩
  · simp [Value.cells] at hcs
    obtain ⟨rfl, rfl, rfl⟩ := hcs
    exact ⟨[], rfl, Row.nil _ _ _, fun _ => rfl, by simp, by simp⟩
  · simp [Value.cells] at hcs
    obtain ⟨rfl, rfl, rfl⟩ := hcs
    have hls : len ≤ zs.length := by rw [hz]; split <;> omega
    refine ⟨zs.take len, by simp; omega, fun i hi => ?_, (fun e => by cases e), ?_, ?_⟩
    · simp only [List.length_map, List.length_take] at hi
      have hc := hcell i (by omega)
      obtain ⟨b, off, spot⟩ := x
      have hspot : spot = none := by simpa [Addr.add] using World.cell?_spot (hcell 0 (by omega))
      subst hspot
      rw [Addr.add_lit] at hc
      refine ⟨b, off, rfl, World.block_lt_of_cell? W _ hc, ?_⟩
      rw [hc]
      simp [List.getD, List.getElem?_eq_getElem (show i < zs.length by omega)]
    · simp
      unfold maxLen at hm
      omega
    · intro y hy
      exact bounds_u8 (hwz y (List.mem_of_mem_take hy))
end Go.Proofs.Qxb6003793a
