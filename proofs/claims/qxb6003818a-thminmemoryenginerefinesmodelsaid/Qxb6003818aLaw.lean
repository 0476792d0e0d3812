import Derived.Test.Qxb6003818aZDisj
namespace Go.Proofs.Qxb6003818a
open Go.ChangeShapes Go.WideShapes Go.ChangeAt Go.RowKit
set_option linter.unusedVariables false
set_option linter.unusedSimpArgs false

theorem upd4_take {cur : List Value} {i : Nat} (r : KR) (h : i + 4 ≤ cur.length) : (upd4 cur i r).take (i + 4) = cur.take i ++ encK r := by
  apply List.ext_getElem?
  intro j
  rw [List.getElem?_take]
  by_cases h1 : j < i
  · rw [if_pos (by omega), List.getElem?_append_left (by simp; omega), List.getElem?_take, if_pos h1]
    unfold upd4
    rw [List.getElem?_set_ne (by omega), List.getElem?_set_ne (by omega), List.getElem?_set_ne (by omega), List.getElem?_set_ne (by omega)]
  · have e : (cur.take i).length = i := by simp; omega
    rw [List.getElem?_append_right (by omega), e]
    by_cases h2 : j < i + 4
    · rw [if_pos h2]
      obtain ⟨c, rfl⟩ : ∃ c, j = i + c := ⟨j - i, by omega⟩
      rw [Nat.add_sub_cancel_left]
      have hc : c < 4 := by omega
      unfold upd4 encK
      match c, hc with
      | 0, _ => simp [List.getElem?_set]; omega
      | 1, _ => simp [List.getElem?_set]; omega
      | 2, _ => simp [List.getElem?_set]; omega
      | 3, _ => simp [List.getElem?_set]; omega
    · rw [if_neg h2, List.getElem?_eq_none (by simp [encK]; omega)]
/-- How the slice of ranges stands after k appends. -/
structure Fill (l : List KR) (N k : Nat) (cur : List Value) : Prop where
  len : cur.length = N * 4
  le : k ≤ l.length
  tk : cur.take (k * 4) = (l.take k).flatMap encK
theorem Fill.push {l : List KR} {N k : Nat} {cur : List Value} (h : Fill l N k cur) (hk : k < l.length) (hN : k < N) : Fill l N (k + 1) (upd4 cur (k * 4) l[k]) := by
  refine ⟨by simp [upd4, h.len], hk, ?_⟩
  have e : (k + 1) * 4 = k * 4 + 4 := by omega
  rw [e, upd4_take _ (by rw [h.len]; omega), h.tk]
  have : l.take (k + 1) = l.take k ++ [l[k]] := by rw [List.take_add_one, List.getElem?_eq_getElem hk]; rfl
  rw [this, List.flatMap_append]
  simp
theorem Fill.done {l : List KR} {cur : List Value} (h : Fill l l.length l.length cur) : cur = l.flatMap encK := by
  have := h.tk
  rwa [List.take_of_length_le (by rw [h.len]; omega), List.take_length] at this
theorem blk_raw {w : World} {g : Nat} {T : TypeId} {cur : List Value} (h : Blk w g T cur) (i : Nat) (r : KR) : Blk (w.setCells g i (encK r)) g T (upd4 cur i r) :=
  (((h.set _ _).set _ _).set _ _).set _ _
theorem spare_raw {w : World} {g N k : Nat} {T : TypeId} {cur : List Value} (h : Blk w g T cur) (hl : cur.length = N * 4) (hk : k < N) (r : KR) : ∀ j, j < (encK r).length → (w.cell? ⟨g, 0 + k * 4 + j, none⟩).isSome = true ∧ w.frozen? ⟨g, 0 + k * 4 + j, none⟩ = false := by
  intro j hj
  have hj : j < 4 := hj
  rw [Nat.zero_add]
  exact ⟨by rw [h.cell (i := k * 4 + j) (by omega)]; rfl, h.free _⟩

theorem Blk.other {w : World} {g b : Nat} {T : TypeId} {l : List Value} (h : Blk w b T l) (hne : b ≠ g) (i : Nat) (v : Value) : Blk (w.setCell ⟨g, i, none⟩ v) b T l :=
  (Below.heap_setCell w ⟨g, i, none⟩ v b hne).trans h
theorem Fill.close {l : List KR} {cur : List Value} (h : Fill l (l.length + 1) l.length cur) (r : KR) : upd4 cur (l.length * 4) r = (l ++ [r]).flatMap encK := by
  have e := upd4_take (cur := cur) (i := l.length * 4) r (by rw [h.len]; omega)
  rw [List.take_of_length_le (by simp [upd4, h.len]; omega), h.tk, List.take_length] at e
  rw [e, List.flatMap_append]
  simp

/-- The covered interval. -/
def covK (s e : Str) (eo d st : Bool) (l : Str) : KR := if st then (if d then (l, e, false, eo) else (s, l, true, false)) else (s, e, false, eo)
theorem cover_law (s e : Str) (eo d st : Bool) (l k : Str) : (!bl k (covK s e eo d st l).1 && holdsK (covK s e eo d st l).2.1 (covK s e eo d st l).2.2.1 (covK s e eo d st l).2.2.2 k) = coversK s e eo d st l k := by
  unfold covK coversK inSpan holdsK
  cases st <;> cases d <;> cases eo <;> simp <;> (try cases bl k s <;> simp) <;> (try cases bl k l <;> simp)

theorem any_take {l : List KR} {k : Nat} (hk : k < l.length) (p : Str) : anyHas (l.take (k + 1)) p = (anyHas (l.take k) p || hasR l[k] p) := by
  have : l.take (k + 1) = l.take k ++ [l[k]] := by rw [List.take_add_one, List.getElem?_eq_getElem hk]; rfl
  unfold anyHas
  rw [this, List.any_append, List.any_cons, List.any_nil, Bool.or_false]
theorem sep_facts {s e : Str} {o : Bool} (h : startsPastK s e o = true) : o = false ∧ Op.bytesLess s e = false ∧ (s == e) = false := by
  unfold startsPastK bl at h
  cases o
  · simp at h
    have h' := h
    rw [less_eq] at h ⊢
    simp at h
    refine ⟨rfl, decide_eq_false (lt_asym h), ?_⟩
    rw [beq_eq_false_iff_ne]
    rintro rfl
    exact lt_irr _ h
  · simp at h
end Go.Proofs.Qxb6003818a
