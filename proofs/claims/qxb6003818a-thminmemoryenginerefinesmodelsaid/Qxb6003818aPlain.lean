import Derived.Test.Qxb6003818aDisjP
namespace Go.Proofs.Qxb6003818a
open Go.ChangeShapes Go.WideShapes Go.ChangeAt Go.RowKit
set_option linter.unusedVariables false
set_option linter.unusedSimpArgs false

def hasR (r : KR) (k : Str) : Bool := hasK r.1 r.2.1 r.2.2.1 r.2.2.2 k
def anyHas (l : List KR) (k : Str) : Bool := l.any (fun r => hasR r k)
/-- k lies below the end. -/
def BelowE (e : Str) (t o : Bool) (k : Str) : Prop := o = true ∨ (t = true ∧ ¬ e < k) ∨ (t = false ∧ k < e)
theorem hasK_iff (s e : Str) (t o : Bool) (k : Str) : hasK s e t o k = true ↔ ¬ k < s ∧ BelowE e t o k := by
  unfold hasK BelowE bl
  rw [less_eq, less_eq, less_eq]
  by_cases h : k < s <;> cases o <;> cases t <;> simp [h]
theorem lt_of_not {a b c : Str} (h : ¬ b < a) (k : b < c) : a < c := by
  rcases lt_tri a b with h1 | rfl | h1
  · exact List.lt_trans h1 k
  · exact k
  · exact absurd h1 h
theorem lt_of_lt_not {a b c : Str} (h : a < b) (k : ¬ c < b) : a < c := by
  rcases lt_tri b c with h1 | rfl | h1
  · exact List.lt_trans h h1
  · exact h
  · exact absurd h1 k
theorem below_of_lt {e k : Str} {t o : Bool} (h : k < e) : BelowE e t o k := by
  cases t
  · exact .inr (.inr ⟨rfl, h⟩)
  · exact .inr (.inl ⟨rfl, lt_asym h⟩)
theorem ends_true {e e2 : Str} {t o t2 o2 : Bool} (h : endsAfterK e2 t2 o2 e t o = true) {k : Str} (hb : BelowE e t o k) : BelowE e2 t2 o2 k := by
  unfold endsAfterK bl at h
  rw [less_eq] at h
  cases o
  · cases o2
    · by_cases he : e2 = e
      · subst he
        simp at h
        obtain ⟨rfl, rfl⟩ := h
        rcases hb with h1 | ⟨h1, _⟩ | ⟨_, h1⟩
        · cases h1
        · cases h1
        · exact below_of_lt h1
      · simp [he] at h
        rcases hb with h1 | ⟨_, h1⟩ | ⟨_, h1⟩
        · cases h1
        · exact below_of_lt (lt_of_not h1 h)
        · exact below_of_lt (List.lt_trans h1 h)
    · exact .inl rfl
  · simp at h
theorem ends_false {e e2 : Str} {t o t2 o2 : Bool} (h : endsAfterK e2 t2 o2 e t o = false) {k : Str} (hb : BelowE e2 t2 o2 k) : BelowE e t o k := by
  unfold endsAfterK bl at h
  rw [less_eq] at h
  cases o
  · cases o2
    · by_cases he : e2 = e
      · subst he
        simp at h
        rcases hb with h1 | ⟨h1, h2⟩ | ⟨_, h1⟩
        · cases h1
        · have := h h1
          subst this
          exact .inr (.inl ⟨rfl, h2⟩)
        · exact below_of_lt h1
      · simp [he] at h
        have hlt : e2 < e := by
          rcases lt_tri e2 e with h1 | h1 | h1
          · exact h1
          · exact absurd h1 he
          · exact absurd h1 (List.not_lt.2 h)
        rcases hb with h1 | ⟨_, h1⟩ | ⟨_, h1⟩
        · cases h1
        · exact below_of_lt (lt_of_not h1 hlt)
        · exact below_of_lt (List.lt_trans h1 hlt)
    · simp at h
  · exact .inl rfl

/-- The joined range holds what the two hold. -/
theorem join_has (p r : KR) (k : Str) (hs : ¬ r.1 < p.1) (hp : startsPastK r.1 p.2.1 p.2.2.2 = false) : hasR (joinK p r) k = (hasR p k || hasR r k) := by
  obtain ⟨s, e, t, o⟩ := p
  obtain ⟨s2, e2, t2, o2⟩ := r
  simp only at hs hp
  have hC : k < s2 → BelowE e t o k := by
    intro h
    unfold startsPastK bl at hp
    rw [less_eq] at hp
    cases o
    · simp at hp
      exact below_of_lt (lt_of_lt_not h (List.not_lt.2 hp))
    · exact .inl rfl
  have hS : ¬ k < s2 → ¬ k < s := fun h h1 => h (lt_of_lt_not h1 hs)
  unfold hasR joinK joinE
  rw [Bool.eq_iff_iff, Bool.or_eq_true]
  cases hE : endsAfterK e2 t2 o2 e t o
  · simp only [hE, Bool.false_eq_true, if_false]
    rw [hasK_iff, hasK_iff]
    constructor
    · exact .inl
    · rintro (h | ⟨h1, h2⟩)
      · exact h
      · exact ⟨hS h1, ends_false hE h2⟩
  · simp only [hE, if_true]
    rw [hasK_iff, hasK_iff, hasK_iff]
    constructor
    · rintro ⟨h1, h2⟩
      by_cases h : k < s2
      · exact .inl ⟨h1, hC h⟩
      · exact .inr ⟨h, h2⟩
    · rintro (⟨h1, h2⟩ | ⟨h1, h2⟩)
      · exact ⟨h1, ends_true hE h2⟩
      · exact ⟨hS h1, h2⟩

/-- Each range starts past the end of the one before. -/
def Sep (m : List KR) : Prop := ∀ i (h : i + 1 < m.length), startsPastK m[i + 1].1 m[i].2.1 m[i].2.2.2 = true
theorem sep_snoc {m : List KR} {r : KR} (h : Sep m) (hl : ∀ p, m.getLast? = some p → startsPastK r.1 p.2.1 p.2.2.2 = true) : Sep (m ++ [r]) := by
  intro i hi
  simp at hi
  by_cases h1 : i + 1 < m.length
  · rw [List.getElem_append_left h1, List.getElem_append_left (by omega)]
    exact h i h1
  · have e : i + 1 = m.length := by omega
    rw [List.getElem_append_left (show i < m.length by omega), List.getElem_append_right (by omega)]
    simp only [List.getElem_singleton]
    refine hl _ ?_
    rw [List.getLast?_eq_getElem?, show m.length - 1 = i by omega, List.getElem?_eq_getElem]
theorem sep_join {m : List KR} {p q : KR} (h : Sep m) (hl : m.getLast? = some p) (hq : q.1 = p.1) : Sep (m.dropLast ++ [q]) := by
  intro i hi
  have hm : 0 < m.length := by cases m with | nil => simp at hl | cons a b => simp
  simp at hi
  by_cases h1 : i + 1 < m.length - 1
  · rw [List.getElem_append_left (by simpa using h1), List.getElem_append_left (by simp; omega), List.getElem_dropLast, List.getElem_dropLast]
    exact h i (by omega)
  · have e : i + 1 = m.length - 1 := by omega
    rw [List.getElem_append_left (show i < m.dropLast.length by simp; omega), List.getElem_append_right (by simp; omega), List.getElem_dropLast]
    simp only [List.getElem_singleton]
    rw [hq]
    have := h i (by omega)
    rw [List.getLast?_eq_getElem?, ← e, List.getElem?_eq_getElem (by omega)] at hl
    rw [Option.some.inj hl] at this
    exact this

theorem merge_law : ∀ (l m : List KR), (∀ p ∈ m, ∀ r ∈ l, ¬ r.1 < p.1) → l.Pairwise (fun a b => ¬ b.1 < a.1) → Sep m → Sep (l.foldl stepK m) ∧ ∀ k, anyHas (l.foldl stepK m) k = (anyHas m k || anyHas l k)
  | [], m, _, _, hs => ⟨hs, fun k => by simp [anyHas]⟩
  | r :: l, m, hm, hp, hs => by
    rw [List.foldl_cons]
    have hp' := List.pairwise_cons.1 hp
    cases hl : m.getLast? with
    | none =>
      have : m = [] := by simpa using hl
      subst this
      rw [stepK_nil]
      have ih := merge_law l [r] (fun p hpm x hx => by simp at hpm; subst hpm; exact hp'.1 x hx) hp'.2 (fun i h => by simp at h)
      exact ⟨ih.1, fun k => by rw [ih.2]; simp [anyHas]⟩
    | some p =>
      have hpm : p ∈ m := List.mem_of_getLast? hl
      have hrp : ¬ r.1 < p.1 := hm p hpm r (by simp)
      cases hsp : startsPastK r.1 p.2.1 p.2.2.2
      · rw [stepK_join hl hsp]
        have ih := merge_law l (m.dropLast ++ [joinK p r]) (fun q hq x hx => by
          rcases List.mem_append.1 hq with h | h
          · exact hm q (List.dropLast_subset m h) x (by simp [hx])
          · simp at h
            subst h
            exact hm p hpm x (by simp [hx])) hp'.2 (sep_join hs hl rfl)
        refine ⟨ih.1, fun k => ?_⟩
        rw [ih.2]
        have e : anyHas m k = (anyHas m.dropLast k || hasR p k) := by
          have e1 : m = m.dropLast ++ [p] := by
            have hne : m ≠ [] := fun e => by subst e; simp at hl
            have := List.dropLast_concat_getLast hne
            rw [List.getLast?_eq_some_getLast hne] at hl
            rw [Option.some.inj hl] at this
            exact this.symm
          calc anyHas m k = anyHas (m.dropLast ++ [p]) k := by rw [← e1]
            _ = _ := by simp [anyHas]
        rw [e]
        simp only [anyHas, List.any_append, List.any_cons, List.any_nil, Bool.or_false]
        rw [join_has p r k hrp hsp]
        simp only [Bool.or_assoc]
      · rw [stepK_past hl hsp]
        have ih := merge_law l (m ++ [r]) (fun q hq x hx => by
          rcases List.mem_append.1 hq with h | h
          · exact hm q h x (by simp [hx])
          · simp at h
            subst h
            exact hp'.1 x hx) hp'.2 (sep_snoc hs (fun p' h => by rw [hl] at h; cases h; exact hsp))
        refine ⟨ih.1, fun k => ?_⟩
        rw [ih.2]
        simp [anyHas, Bool.or_assoc]
theorem any_perm {l l' : List KR} (h : l'.Perm l) (k : Str) : anyHas l' k = anyHas l k := by
  unfold anyHas
  exact h.any_eq
/-- What disjoint gives. -/
theorem merged_law {l l' : List KR} (hp : l'.Perm l) (hu : l'.Pairwise (fun a b => ¬ b.1 < a.1)) : Sep (l'.foldl stepK []) ∧ ∀ k, anyHas (l'.foldl stepK []) k = anyHas l k := by
  have := merge_law l' [] (fun p h => by cases h) hu (fun i h => by simp at h)
  exact ⟨this.1, fun k => by rw [this.2, any_perm hp]; simp [anyHas]⟩
end Go.Proofs.Qxb6003818a
