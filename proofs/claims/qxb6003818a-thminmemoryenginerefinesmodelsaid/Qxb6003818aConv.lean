import Derived.Test.Qxb6003818aSort
import Derived.Maps.AppendAt
import Derived.OwnWalk
namespace Go.Proofs.Qxb6003818a
open Go.ChangeShapes Go.WideShapes Go.ChangeAt Go.RowKit
set_option linter.unusedVariables false
set_option linter.unusedSimpArgs false

theorem info24 : (Try.prog.info? 24).map (fun i => (i.zero, i.size, i.bytes)) = some (some (.agg #[.string ByteArray.empty, .string ByteArray.empty, .bool false, .bool false]), 4, 40) := by kernel_rfl
theorem info38 : (Try.prog.info? 38).map (fun i => (i.zero, i.size, i.bytes)) = some (some (.agg #[.string ByteArray.empty, .string ByteArray.empty, .bool false, .bool false]), 4, 40) := by kernel_rfl

/-- Four cells from i on, laid. -/
def upd4 (l : List Value) (i : Nat) (r : KR) : List Value := (((l.set i (.string ⟨r.1.toArray⟩)).set (i + 1) (.string ⟨r.2.1.toArray⟩)).set (i + 2) (.bool r.2.2.1)).set (i + 3) (.bool r.2.2.2)
theorem flat_set : ∀ (arr : List KR) (m : Nat) (r : KR), m < arr.length → upd4 (arr.flatMap encK) (m * 4) r = (arr.set m r).flatMap encK
  | [], m, r, h => by simp at h
  | x :: arr, 0, r, h => by simp [upd4, encK]
  | x :: arr, m + 1, r, h => by
    have ih := flat_set arr m r (by simpa using h)
    rw [List.set_cons_succ, List.flatMap_cons, List.flatMap_cons, ← ih]
    have e : (m + 1) * 4 = m * 4 + 4 := by omega
    rw [e]
    simp [upd4, encK]

def zK : KR := ([], [], false, false)
theorem made_flat (n : Nat) : (madeCells (Value.agg #[.string ByteArray.empty, .string ByteArray.empty, .bool false, .bool false]).cells (n * 4)).toList = (List.replicate n zK).flatMap encK := by
  apply List.ext_getElem?
  intro t
  by_cases h : t < n * 4
  · rw [flat_get _ t (by simpa using h)]
    have h4 : t % 4 < 4 := Nat.mod_lt _ (by omega)
    simp only [madeCells, Array.getElem?_toList, Array.getElem?_map, List.getElem_replicate, encK, zK, Value.cells]
    rw [Array.getElem?_range, if_pos h]
    simp only [Option.map_some]
    generalize t % 4 = j at h4
    match j, h4 with
    | 0, _ => rfl
    | 1, _ => rfl
    | 2, _ => rfl
    | 3, _ => rfl
  · rw [List.getElem?_eq_none (by simp [madeCells]; omega), List.getElem?_eq_none (by rw [flat_len]; simp; omega)]

/-- The cells of the k-th range. -/
theorem row_k {w : World} {B b o : Nat} {l : List KR} (h : Row w B (some ⟨b, o, none⟩) (l.flatMap encK)) {k : Nat} (hk : k < l.length) :
    w.cell? ⟨b, o + k * 4, none⟩ = some (.string ⟨l[k].1.toArray⟩) ∧ w.cell? ⟨b, o + k * 4 + 1, none⟩ = some (.string ⟨l[k].2.1.toArray⟩) ∧
    w.cell? ⟨b, o + k * 4 + 2, none⟩ = some (.bool l[k].2.2.1) ∧ w.cell? ⟨b, o + k * 4 + 3, none⟩ = some (.bool l[k].2.2.2) := by
  have key : ∀ j (hj : j < 4), w.cell? ⟨b, o + (k * 4 + j), none⟩ = (encK l[k])[j]? := by
    intro j hj
    have hl : k * 4 + j < (l.flatMap encK).length := by rw [flat_len]; omega
    obtain ⟨b', o', ea, _, hc⟩ := h _ hl
    cases ea
    rw [hc, ← List.getElem?_eq_getElem hl, flat_get l _ (by omega)]
    have e1 : (k * 4 + j) / 4 = k := by omega
    have e2 : (k * 4 + j) % 4 = j := by omega
    simp [e1, e2]
  have k0 := key 0 (by omega)
  have k1 := key 1 (by omega)
  have k2 := key 2 (by omega)
  have k3 := key 3 (by omega)
  rw [← Nat.add_assoc] at k1 k2 k3
  exact ⟨by simpa [encK] using k0, by simpa [encK] using k1, by simpa [encK] using k2, by simpa [encK] using k3⟩

/-- .. of a block of ranges, with what a store asks. -/
theorem blk_k {w : World} {g : Nat} {T : TypeId} {l : List KR} (h : Blk w g T (l.flatMap encK)) {k : Nat} (hk : k < l.length) :
    w.cell? ⟨g, k * 4, none⟩ = some (.string ⟨l[k].1.toArray⟩) ∧ w.cell? ⟨g, k * 4 + 1, none⟩ = some (.string ⟨l[k].2.1.toArray⟩) ∧
    w.cell? ⟨g, k * 4 + 2, none⟩ = some (.bool l[k].2.2.1) ∧ w.cell? ⟨g, k * 4 + 3, none⟩ = some (.bool l[k].2.2.2) := by
  have := row_k h.row hk
  simpa using this

theorem blk_of_owns {w : World} {base g n : Nat} {T : TypeId} {xs : List Value} (h : w.ownsRow base T 4 (.slice (some ⟨g, 0, none⟩) n n) n xs) : Blk w g T xs := by
  rcases h.2 with ⟨h0, _⟩ | ⟨g', cap', cur, hv, hb, hh, h1, h2, h3, h4⟩
  · cases h0
  · cases hv
    have e : cur.toList = xs := by rw [← h4, List.take_of_length_le (by simp; omega)]
    unfold Blk
    rw [hh, ← e]

theorem blk_set4 {w : World} {g : Nat} {T : TypeId} {l : List KR} (h : Blk w g T (l.flatMap encK)) {k : Nat} (hk : k < l.length) (r : KR) :
    Blk ((((w.setCell ⟨g, k * 4, none⟩ (.string ⟨r.1.toArray⟩)).setCell ⟨g, k * 4 + 1, none⟩ (.string ⟨r.2.1.toArray⟩)).setCell ⟨g, k * 4 + 2, none⟩ (.bool r.2.2.1)).setCell ⟨g, k * 4 + 3, none⟩ (.bool r.2.2.2)) g T ((l.set k r).flatMap encK) := by
  rw [← flat_set l k r hk]
  exact (((h.set _ _).set _ _).set _ _).set _ _

theorem take_set_k {l arr : List KR} {k : Nat} (hl : arr.length = l.length) (hk : k < l.length) (h : arr.take k = l.take k) : (arr.set k l[k]).take (k + 1) = l.take (k + 1) := by
  apply List.ext_getElem?
  intro i
  rw [List.getElem?_take, List.getElem?_take]
  by_cases hi : i < k + 1
  · rw [if_pos hi, if_pos hi]
    by_cases e : i = k
    · subst e; simp [hk, hl]
    · rw [List.getElem?_set_ne (by omega)]
      have : (arr.take k)[i]? = (l.take k)[i]? := by rw [h]
      rwa [List.getElem?_take, List.getElem?_take, if_pos (by omega), if_pos (by omega)] at this
  · rw [if_neg hi, if_neg hi]

set_option maxHeartbeats 2000000 in
theorem toRanges_any (b o c : Nat) (l : List KR) (B : Nat) (w : World) (hS : Row w B (some ⟨b, o, none⟩) (l.flatMap encK)) (hB : B ≤ w.heap.size) (hn : l.length ≤ 1000) :
    Calls Try.prog 20 #[.slice (some ⟨b, o, none⟩) l.length c] w fun e w' => e = .returned (.slice (some ⟨w.heap.size, 0, none⟩) l.length l.length) ∧ Blk w' w.heap.size 38 (l.flatMap encK) ∧ Below w.heap.size w w' := by
  have hnl := fun w => Lib.run_eql_slice_nil (P := Try.prog) w 22 24 (some ⟨b, o, none⟩) l.length c 0 0 Try.underlying22
  obtain ⟨i0, hi0, hz0, hz1, hz2⟩ := info_parts info38
  go_enter Try.func20, Try.ntmps20
  go_wp2_with (at_make; refine wpList_make_full _ rfl _ _ 43 rfl w.heap.size 38 i0 (.agg #[.string ByteArray.empty, .string ByteArray.empty, .bool false, .bool false]) 4 Try.underlying43 hi0 hz0 hz1 _ _ _ _ l.length rfl rfl rfl rfl (by rw [hz2]; omega) (by unfold maxLen; omega) (Nat.le_refl _) ?_; intro w1 hown1 hgrow1)
  rw [made_flat] at hown1
  have hb1 := blk_of_owns hown1
  go_loopw [4] (fun i wr => ∃ (k : Nat) (arr : List KR), k ≤ l.length ∧ i = .int .i64 k ∧ arr.length = l.length ∧ Blk wr w.heap.size 38 (arr.flatMap encK) ∧ arr.take k = l.take k ∧ Below w.heap.size w wr) (fun i _ => l.length - (intOf i).toNat)
  case atStart => exact ⟨0, _, Nat.zero_le _, rfl, by simp, hb1, by simp, (Below.refl _ _).grown hgrow1 (Nat.le_refl _) (fun k h => by cases h)⟩
  case round =>
    clear hown1 hb1 hgrow1
    obtain ⟨k, arr, hk, rfl, hcl, hbk, hcp, hbel⟩ := hrel
    have HL : Hid (arr.length = l.length) := hcl
    have HC : Hid (arr.take k = l.take k) := hcp
    clear hcl hcp
    by_cases hlt : k < l.length
    · obtain ⟨c0, c1, c2, c3⟩ := row_k (hS.below hbel hB) hlt
      have hka : k < arr.length := by rw [HL.out]; exact hlt
      have hbl := hbk.lt
      obtain ⟨r, hr⟩ : ∃ r, r = l[k] := ⟨_, rfl⟩
      rw [← hr] at c0 c1 c2 c3
      have HR : Hid (r = l[k]) := hr
      clear hr
      obtain ⟨s, e, t, o'⟩ := r
      simp only at c0 c1 c2 c3
      go_wp2_with (go_at_call 15; refine (to_any s e t o' _).mono ?_; rintro en w2 ⟨rfl, hb2⟩; have hbk2 := hbk.below hb2 hbl; obtain ⟨q0, q1, q2, q3⟩ := blk_k hbk2 hka; have f0 := hbk2.free (k * 4); have f1 := hbk2.free (k * 4 + 1); have f2 := hbk2.free (k * 4 + 2); have f3 := hbk2.free (k * 4 + 3))
      go_roundw
      case rel =>
        refine ⟨k + 1, arr.set k (s, e, t, o'), by omega, by go_num, by rw [List.length_set]; exact HL.out, blk_set4 hbk2 hka (s, e, t, o'), ?_, ((((hbel.trans (hb2.mono (Nat.le_of_lt hbl))).setCell (Nat.le_refl _) _).setCell (Nat.le_refl _) _).setCell (Nat.le_refl _) _).setCell (Nat.le_refl _) _⟩
        rw [HR.out]
        exact take_set_k HL.out hlt HC.out
      case measure => simp [intOf]; omega
    · go_wp2
      go_ret
      have e : arr = l := by
        have := HC.out
        rwa [List.take_of_length_le (by rw [HL.out]; omega), List.take_of_length_le (by omega)] at this
      subst e
      exact ⟨rfl, hbk, hbel⟩
set_option maxHeartbeats 2000000 in
theorem fromRanges_any (b o c : Nat) (l : List KR) (B : Nat) (w : World) (hS : Row w B (some ⟨b, o, none⟩) (l.flatMap encK)) (hB : B ≤ w.heap.size) (hn : l.length ≤ 1000) :
    Calls Try.prog 18 #[.slice (some ⟨b, o, none⟩) l.length c] w fun e w' => e = .returned (.slice (some ⟨w.heap.size, 0, none⟩) l.length l.length) ∧ Blk w' w.heap.size 24 (l.flatMap encK) ∧ Below w.heap.size w w' := by
  have hnl := fun w => Lib.run_eql_slice_nil (P := Try.prog) w 43 38 (some ⟨b, o, none⟩) l.length c 0 0 Try.underlying43
  obtain ⟨i0, hi0, hz0, hz1, hz2⟩ := info_parts info24
  go_enter Try.func18, Try.ntmps18
  go_wp2_with (at_make; refine wpList_make_full _ rfl _ _ 22 rfl w.heap.size 24 i0 (.agg #[.string ByteArray.empty, .string ByteArray.empty, .bool false, .bool false]) 4 Try.underlying22 hi0 hz0 hz1 _ _ _ _ l.length rfl rfl rfl rfl (by rw [hz2]; omega) (by unfold maxLen; omega) (Nat.le_refl _) ?_; intro w1 hown1 hgrow1)
  rw [made_flat] at hown1
  have hb1 := blk_of_owns hown1
  go_loopw [4] (fun i wr => ∃ (k : Nat) (arr : List KR), k ≤ l.length ∧ i = .int .i64 k ∧ arr.length = l.length ∧ Blk wr w.heap.size 24 (arr.flatMap encK) ∧ arr.take k = l.take k ∧ Below w.heap.size w wr) (fun i _ => l.length - (intOf i).toNat)
  case atStart => exact ⟨0, _, Nat.zero_le _, rfl, by simp, hb1, by simp, (Below.refl _ _).grown hgrow1 (Nat.le_refl _) (fun k h => by cases h)⟩
  case round =>
    clear hown1 hb1 hgrow1
    obtain ⟨k, arr, hk, rfl, hcl, hbk, hcp, hbel⟩ := hrel
    have HL : Hid (arr.length = l.length) := hcl
    have HC : Hid (arr.take k = l.take k) := hcp
    clear hcl hcp
    by_cases hlt : k < l.length
    · obtain ⟨c0, c1, c2, c3⟩ := row_k (hS.below hbel hB) hlt
      have hka : k < arr.length := by rw [HL.out]; exact hlt
      have hbl := hbk.lt
      obtain ⟨r, hr⟩ : ∃ r, r = l[k] := ⟨_, rfl⟩
      rw [← hr] at c0 c1 c2 c3
      have HR : Hid (r = l[k]) := hr
      clear hr
      obtain ⟨s, e, t, o'⟩ := r
      simp only at c0 c1 c2 c3
      go_wp2_with (go_at_call 14; refine (from_any s e t o' _).mono ?_; rintro en w2 ⟨rfl, hb2⟩; have hbk2 := hbk.below hb2 hbl; obtain ⟨q0, q1, q2, q3⟩ := blk_k hbk2 hka; have f0 := hbk2.free (k * 4); have f1 := hbk2.free (k * 4 + 1); have f2 := hbk2.free (k * 4 + 2); have f3 := hbk2.free (k * 4 + 3))
      go_roundw
      case rel =>
        refine ⟨k + 1, arr.set k (s, e, t, o'), by omega, by go_num, by rw [List.length_set]; exact HL.out, blk_set4 hbk2 hka (s, e, t, o'), ?_, ((((hbel.trans (hb2.mono (Nat.le_of_lt hbl))).setCell (Nat.le_refl _) _).setCell (Nat.le_refl _) _).setCell (Nat.le_refl _) _).setCell (Nat.le_refl _) _⟩
        rw [HR.out]
        exact take_set_k HL.out hlt HC.out
      case measure => simp [intOf]; omega
    · go_wp2
      go_ret
      have e : arr = l := by
        have := HC.out
        rwa [List.take_of_length_le (by rw [HL.out]; omega), List.take_of_length_le (by omega)] at this
      subst e
      exact ⟨rfl, hbk, hbel⟩
end Go.Proofs.Qxb6003818a
