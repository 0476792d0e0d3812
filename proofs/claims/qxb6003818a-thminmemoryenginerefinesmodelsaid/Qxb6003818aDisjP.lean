import Derived.Test.Qxb6003818aConv
import Derived.ArgAppend
import Derived.Deep.RegionLaw
namespace Go.Proofs.Qxb6003818a
open Go.ChangeShapes Go.WideShapes Go.ChangeAt Go.RowKit
set_option linter.unusedVariables false
set_option linter.unusedSimpArgs false

def joinK (p r : KR) : KR := (p.1, joinE p.2.1 p.2.2.1 p.2.2.2 r.2.1 r.2.2.1 r.2.2.2)
/-- One round of disjoint. -/
def stepK (m : List KR) (r : KR) : List KR :=
  match m.getLast? with
  | none => [r]
  | some p => if startsPastK r.1 p.2.1 p.2.2.2 then m ++ [r] else m.dropLast ++ [joinK p r]
theorem stepK_nil (r : KR) : stepK [] r = [r] := rfl
theorem stepK_past {m : List KR} {p r : KR} (h : m.getLast? = some p) (hs : startsPastK r.1 p.2.1 p.2.2.2 = true) : stepK m r = m ++ [r] := by
  unfold stepK
  rw [h]
  simp [hs]
theorem stepK_join {m : List KR} {p r : KR} (h : m.getLast? = some p) (hs : startsPastK r.1 p.2.1 p.2.2.2 = false) : stepK m r = m.dropLast ++ [joinK p r] := by
  unfold stepK
  rw [h]
  simp [hs]
theorem fold_succ {l : List KR} {k : Nat} (hk : k < l.length) : (l.take (k + 1)).foldl stepK [] = stepK ((l.take k).foldl stepK []) l[k] := by
  have : l.take (k + 1) = l.take k ++ [l[k]] := by rw [List.take_add_one, List.getElem?_eq_getElem hk]; rfl
  rw [this, List.foldl_append]
  rfl

/-- How the array stands after k rounds: the merged ranges lead, what is to come is as it was. -/
structure Arr (l : List KR) (k : Nat) (m arr : List KR) : Prop where
  hm : m = (l.take k).foldl stepK []
  le : m.length ≤ k
  len : arr.length = l.length
  tk : arr.take m.length = m
  dr : arr.drop k = l.drop k
theorem Arr.start (l : List KR) : Arr l 0 [] l := ⟨rfl, Nat.le_refl _, rfl, rfl, rfl⟩
section
variable {l m arr : List KR} {k : Nat}
theorem Arr.cur (h : Arr l k m arr) (hk : k < l.length) : arr[k]'(by rw [h.len]; exact hk) = l[k] := by
  have : (arr.drop k)[0]? = (l.drop k)[0]? := by rw [h.dr]
  rw [List.getElem?_drop, List.getElem?_drop, Nat.add_zero] at this
  rw [List.getElem?_eq_getElem (by rw [h.len]; exact hk), List.getElem?_eq_getElem hk] at this
  exact Option.some.inj this
theorem Arr.last (h : Arr l k m arr) (hk : k < l.length) (hm : 0 < m.length) : m.getLast? = some (arr[m.length - 1]'(by have := h.le; have := h.len; omega)) := by
  have := h.le; have := h.len
  rw [List.getLast?_eq_getElem?]
  have e : m[m.length - 1]? = (arr.take m.length)[m.length - 1]? := by rw [h.tk]
  rw [e, List.getElem?_take, if_pos (by omega), List.getElem?_eq_getElem]
theorem Arr.push (h : Arr l k m arr) (hk : k < l.length) (hs : stepK m l[k] = m ++ [l[k]]) : Arr l (k + 1) (m ++ [l[k]]) (arr.set m.length l[k]) := by
  have := h.le; have := h.len
  refine ⟨?_, by simp; omega, by simpa using h.len, ?_, ?_⟩
  · rw [fold_succ hk, ← h.hm, hs]
  · apply List.ext_getElem?
    intro i
    rw [List.getElem?_take]
    by_cases h1 : i < m.length
    · rw [if_pos (by simp; omega), List.getElem?_set_ne (by omega), List.getElem?_append_left h1]
      have e : (arr.take m.length)[i]? = m[i]? := by rw [h.tk]
      rwa [List.getElem?_take, if_pos h1] at e
    · by_cases h2 : i = m.length
      · subst h2
        rw [if_pos (by simp), List.getElem?_set_self (by omega), List.getElem?_append_right (Nat.le_refl _)]
        simp
      · rw [if_neg (by simp; omega), List.getElem?_eq_none (by simp; omega)]
  · rw [List.drop_set_of_lt (by omega)]
    have e : (arr.drop k).drop 1 = (l.drop k).drop 1 := by rw [h.dr]
    simpa [List.drop_drop, Nat.add_comm] using e
theorem Arr.join (h : Arr l k m arr) (hk : k < l.length) (hm : 0 < m.length) (q : KR) (hs : stepK m l[k] = m.dropLast ++ [q]) : Arr l (k + 1) (m.dropLast ++ [q]) (arr.set (m.length - 1) q) := by
  have := h.le; have := h.len
  have hlen : (m.dropLast ++ [q]).length = m.length := by simp; omega
  refine ⟨?_, by rw [hlen]; omega, by simpa using h.len, ?_, ?_⟩
  · rw [fold_succ hk, ← h.hm, hs]
  · rw [hlen]
    apply List.ext_getElem?
    intro i
    rw [List.getElem?_take]
    by_cases h1 : i < m.length - 1
    · rw [if_pos (by omega), List.getElem?_set_ne (by omega), List.getElem?_append_left (by simpa using h1), List.getElem?_dropLast, if_pos h1]
      have e : (arr.take m.length)[i]? = m[i]? := by rw [h.tk]
      rwa [List.getElem?_take, if_pos (by omega)] at e
    · by_cases h2 : i = m.length - 1
      · subst h2
        rw [if_pos (by omega), List.getElem?_set_self (by omega), List.getElem?_append_right (by simp)]
        simp
      · rw [if_neg (by omega), List.getElem?_eq_none (by simp; omega)]
  · rw [List.drop_set_of_lt (by omega)]
    have e : (arr.drop k).drop 1 = (l.drop k).drop 1 := by rw [h.dr]
    simpa [List.drop_drop, Nat.add_comm] using e
end

/-- append where there is room, in terms of cells. -/
theorem wpList_append_cells {P : Program} (w : World) {ops : Array Oper} {rest : List Oper} {o : Oper} {a : Act} {Q : Exit → Act → World → Prop}
    (hg : o.guard = none) (s x : Operand) (t : TypeId) (hop : o.op = Op.call { callee := Callee.builtin Builtin.append, args := #[s, x], argTypes := #[t, t] })
    (e : TypeId) (i : TypeInfo) (size : Nat) (h1 : P.underlying t = some (.slice e)) (h2 : P.info? e = some i) (h4 : i.size = size)
    (b off n cap : Nat) (hs : a.eval s = .slice (some ⟨b, off, none⟩) n cap)
    (ad : Addr) (m c : Nat) (news : List Value) (hx : a.eval x = .slice (some ad) m c) (hn : news.length = m * size) (hc : ∀ j u, news[j]? = some u → w.cell? (ad.add j) = some u) (h1c : ∀ u ∈ news, u.oneCell' = true)
    (hroom : n + m ≤ cap) (hspare : ∀ j, j < news.length → (w.cell? ⟨b, off + n * size + j, none⟩).isSome = true ∧ w.frozen? ⟨b, off + n * size + j, none⟩ = false)
    (hK : wpList P ops Q rest (a.put o.dst (.slice (some ⟨b, off, none⟩) (n + m) cap)) (w.setCells b (off + n * size) news)) :
    wpList P ops Q (o :: rest) a w := by
  refine wpList_plain hg fun K hK' => ?_
  subst h4
  have hrun := run_append_room_cells (P := P) w t o.type e i h1 h2 b off n cap ad m c news hn hc h1c hroom (fun j hj => (hspare j hj).1) (fun j hj => (hspare j hj).2)
  unfold Oper.wp
  simp [execOp, hop, resolve, invoke, builtin, hs, hx, hrun, Result.andThen]
  exact hK' _ _ hK

theorem encK_one (r : KR) : ∀ u ∈ encK r, u.oneCell' = true := by
  intro u hu
  simp [encK] at hu
  rcases hu with rfl | rfl | rfl | rfl <;> rfl
theorem four_new (w : World) (r : KR) (T : TypeId) : ∀ j u, (encK r)[j]? = some u → (w.alloc (.cells #[.string ⟨r.1.toArray⟩, .string ⟨r.2.1.toArray⟩, .bool r.2.2.1, .bool r.2.2.2] T)).cell? ((⟨w.heap.size, 0, none⟩ : Addr).add j) = some u := by
  intro j u hu
  have hj : j < 4 := (List.getElem?_eq_some_iff.1 hu).1
  have hb := newest (w := w) (encK r) T
  rw [Addr.add_lit, Nat.zero_add]
  have := hb.cell (i := j) hj
  rw [List.getElem?_eq_getElem hj] at hu
  cases hu
  exact this
theorem spare4 {w : World} {g : Nat} {T : TypeId} {arr : List KR} (h : Blk w g T (arr.flatMap encK)) {m : Nat} (hm : m < arr.length) (r : KR) : ∀ j, j < (encK r).length → (w.cell? ⟨g, 0 + m * 4 + j, none⟩).isSome = true ∧ w.frozen? ⟨g, 0 + m * 4 + j, none⟩ = false := by
  intro j hj
  have hj : j < 4 := hj
  rw [Nat.zero_add]
  exact ⟨by rw [h.cell (i := m * 4 + j) (by rw [flat_len]; omega)]; rfl, h.free _⟩
theorem blk_setCells {w : World} {g : Nat} {T : TypeId} {arr : List KR} (h : Blk w g T (arr.flatMap encK)) {m : Nat} (hm : m < arr.length) (r : KR) : Blk (w.setCells g (0 + m * 4) (encK r)) g T ((arr.set m r).flatMap encK) := by
  rw [Nat.zero_add]
  exact blk_set4 h hm r
theorem blk_setCells' {w : World} {g : Nat} {T : TypeId} {arr : List KR} (h : Blk w g T (arr.flatMap encK)) {m : Nat} (hm : m < arr.length) (r : KR) : Blk (w.setCells g (m * 4) (encK r)) g T ((arr.set m r).flatMap encK) :=
  blk_set4 h hm r
theorem below_setCells {B : Nat} {a w : World} (h : Below B a w) {g : Nat} (hg : B ≤ g) (o : Nat) (r : KR) : Below B a (w.setCells g o (encK r)) :=
  (((h.setCell (p := ⟨g, o, none⟩) hg _).setCell (p := ⟨g, o + 1, none⟩) hg _).setCell (p := ⟨g, o + 1 + 1, none⟩) hg _).setCell (p := ⟨g, o + 1 + 1 + 1, none⟩) hg _
end Go.Proofs.Qxb6003818a
