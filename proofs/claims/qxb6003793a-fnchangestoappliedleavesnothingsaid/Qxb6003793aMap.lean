import Derived.Test.Qxb6003793aIsort
import Derived.Maps.Own
import Derived.Maps.OwnOps
import Derived.Maps.Views
import Derived.Maps.OwnSet
namespace Go.Proofs.Qxb6003793a
open Go.ChangeShapes Go.WideShapes Go.ChangeAt Go.RowKit Go.Maps
open Go.WideMaps Go.WideElems
open Pl
set_option linter.unusedVariables false

theorem law9 : Keyed Try.prog 9 := string_keyed Try.underlying9
theorem zero52 (w : World) : (zeroValue 52).run Try.prog w = .ok (.int .u8 0) w := by kernel_rfl
theorem made46 (w : World) (n : Int) : (Instr.makeMap 46 (some (.int .i64 n))).run Try.prog w = .ok (.map (some w.heap.size)) (w.alloc (.map #[] 0)) := by
  simp [Instr.makeMap, run_underlying Try.underlying46, newObj]
  rfl

/-- Block b is a map of at most n entries that gives each id what the pairs give it. -/
def MapIs (w : World) (b n : Nat) (ps : List (Str × Int)) : Prop :=
  ∃ D : DataW Unit, w.ownsMap Try.prog 9 (plainElem Try.prog 52) b n D ∧ (∀ id, D.atKey (.string id) (.lit (.int .u8 0)) = .lit (.int .u8 (heldF id ps))) ∧ (∀ id, Maps.has D (.string id) = true ↔ id ∈ ps.map (·.1))

theorem keyOf9 {x : Str} (hx : x.length ≤ maxLen) : keyOf Try.prog 9 (.string ⟨x.toArray⟩) = some (.string x) := by
  have := WideMaps.keyOf_string_mk (P := Try.prog) (k := 9) Try.underlying9 (s := ⟨x.toArray⟩) (by simpa [ByteArray.size] using hx)
  simpa using this

theorem MapIs.start (w : World) : MapIs (w.alloc (.map #[] 0)) w.heap.size 0 [] :=
  ⟨.map [], World.ownsMap_made w _ _ _, fun id => rfl, fun id => by simp [Maps.has_eq]⟩
theorem MapIs.put {w : World} {b n : Nat} {ps : List (Str × Int)} (h : MapIs w b n ps) (hn : n < 1000000) (x : Str) (hx : x.length ≤ maxLen) (v : Int) (h0 : 0 ≤ v) (h1 : v ≤ 255) :
    ∃ w', (Instr.mapUpdate 46 (.map (some b)) (.string ⟨x.toArray⟩) (.int .u8 v)).run Try.prog w = .ok () w' ∧ MapIs w' b (n + 1) (ps ++ [(x, v)]) ∧ w.grownBy w' (some b) := by
  obtain ⟨D, hown, hat, hhas⟩ := h
  obtain ⟨w', hrun, hown', hg⟩ := hown.update law9 Try.underlying46 (by unfold maxLen; omega) (keyOf9 hx) (plainElem_int (a := v) Try.underlying52 (WalkArith.wf_u8 (by omega)))
  have hm : IsMap D := (hown.tidy law9).isMap
  refine ⟨w', hrun, ⟨_, hown', fun id => ?_, fun id => ?_⟩, hg⟩
  · rw [heldF_snoc]
    by_cases e : x = id
    · subst e
      rw [if_pos rfl, atKey_put_same (k := .string x) hm trivial]
    · rw [if_neg e, atKey_put_other (by simpa using fun h => e h.symm), hat id]
  · by_cases e : x = id
    · subst e
      rw [has_put_same (k := .string x) hm trivial]
      simp
    · rw [has_put_other (by simpa using fun h => e h.symm), hhas id]
      simp only [List.map_append, List.mem_append]
      simp
      exact fun h => absurd h.symm e
theorem MapIs.drew {w : World} {b n : Nat} {ps : List (Str × Int)} (h : MapIs w b n ps) : MapIs w.drew b n ps := by
  obtain ⟨D, hown, r⟩ := h
  exact ⟨D, hown.drew, r⟩
theorem MapIs.kept {w w' : World} {b n : Nat} {ps : List (Str × Int)} {row : Option Nat} (h : MapIs w b n ps) (hg : w.grownBy w' row) (hne : some b ≠ row) : MapIs w' b n ps := by
  obtain ⟨D, hown, r⟩ := h
  exact ⟨D, hown.kept hg hne, r⟩
theorem MapIs.lt {w : World} {b n : Nat} {ps : List (Str × Int)} (h : MapIs w b n ps) : b < w.heap.size := by
  obtain ⟨D, hown, r⟩ := h
  exact hown.lt
theorem MapIs.below {w w' : World} {b n B : Nat} {ps : List (Str × Int)} (h : MapIs w b n ps) (hb : Below B w w') (hB : b < B) : MapIs w' b n ps := by
  obtain ⟨D, ⟨es, clock, hh, F⟩, r⟩ := h
  exact ⟨D, ⟨es, clock, (hb.block b hB).trans hh, F⟩, r⟩

set_option maxHeartbeats 1000000 in
theorem heldMap_any (a1 a2 : Option Addr) (c1 c2 : Nat) (ss : List Str) (vs : List Int) (B : Nat) (w : World) (h1 : Strs w B a1 ss) (h2 : Row w B a2 (vs.map (Value.int .u8))) (hB : B ≤ w.heap.size) (hl : ss.length = vs.length) (hn : ss.length ≤ 1024)
    (hx : ∀ x ∈ ss, x.length ≤ maxLen) (hv : ∀ v ∈ vs, 0 ≤ v ∧ v ≤ 255) :
    Calls Try.prog 20 #[.slice a1 ss.length c1, .slice a2 vs.length c2] w fun e w' => e = .returned (.map (some w.heap.size)) ∧ MapIs w' w.heap.size ss.length (ss.zip vs) ∧ Below w.heap.size w w' := by
  have HL : Hid (ss.length = vs.length) := hl
  have hl' : ss.length ≤ vs.length := by omega
  clear hl
  have HX := show Hid _ from hx
  have HV := show Hid _ from hv
  clear hx hv
  have hmk := made46
  go_enter Try.func20, Try.ntmps20
  go_wp2
  go_loopw [6] (fun i wr => ∃ k : Nat, k ≤ ss.length ∧ i = .int .i64 k ∧ MapIs wr w.heap.size k ((ss.zip vs).take k) ∧ Below w.heap.size w wr) (fun i _ => ss.length - (intOf i).toNat)
  case atStart => exact ⟨0, Nat.zero_le _, rfl, MapIs.start w, (Below.refl _ _).alloc (Nat.le_refl _) _⟩
  case round =>
    obtain ⟨k, hk, rfl, hm, hbel⟩ := hrel
    by_cases hlt : k < ss.length
    · obtain ⟨b1, o1, rfl, hb1, hc1⟩ := (h1.below hbel hB).at hlt
      obtain ⟨b2, o2, rfl, hb2, hc2⟩ := (h2.below hbel hB) k (by simp; omega)
      rw [List.getElem_map] at hc2
      obtain ⟨x, hx⟩ : ∃ x, x = ss[k] := ⟨_, rfl⟩
      obtain ⟨v, hv⟩ : ∃ v, v = vs[k] := ⟨_, rfl⟩
      rw [← hx] at hc1
      rw [← hv] at hc2
      have hxl : x.length ≤ maxLen := by rw [hx]; exact HX.out _ (List.getElem_mem _)
      have hvb : 0 ≤ v ∧ v ≤ 255 := by rw [hv]; exact HV.out _ (List.getElem_mem _)
      have hz : Hid ((ss.zip vs).take (k + 1) = (ss.zip vs).take k ++ [(x, v)]) := by
        unfold Hid
        rw [take_succ _ k (by simp; omega), List.getElem_zip, hx, hv]
      clear hx hv h1 h2
      obtain ⟨w', hrun, hm', hg'⟩ := hm.drew.put (by omega) x hxl v hvb.1 hvb.2
      have hki : (k : Int) < (ss.length : Int) := by omega
      have hki' : (k : Int) < (vs.length : Int) := by omega
      go_wp2
      go_region
      all_goals go_wp2
      all_goals go_roundw
      case rel => exact ⟨k + 1, by omega, by go_num, by rw [hz.out]; exact hm', hbel.drew.grown hg' hbel.size (fun j e => by cases e; exact Nat.le_refl _)⟩
      case measure => simp [intOf]; omega
    · have e : Hid ((ss.zip vs).take k = ss.zip vs) := List.take_of_length_le (by simp; omega)
      have e2 : Hid (k = ss.length) := by unfold Hid; omega
      clear h1 h2
      go_wp2
      go_ret
      refine ⟨rfl, ?_, hbel⟩
      rw [e.out, e2.out] at hm
      exact hm
end Go.Proofs.Qxb6003793a
