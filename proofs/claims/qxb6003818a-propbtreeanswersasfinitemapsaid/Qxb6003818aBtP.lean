import Derived.Test.Qxb6003818aBase
namespace Go.Proofs.Qxb6003818a
set_option linter.unusedVariables false
set_option linter.unusedSimpArgs false

/-- A key with its value. -/
abbrev Item := Str × KR
def encI (x : Item) : List Value := .string ⟨x.1.toArray⟩ :: encK x.2
def Asc (l : List Item) : Prop := l.Pairwise (fun a b => a.1 < b.1)
def AllLt (key : Str) (l : List Item) : Prop := ∀ x ∈ l, x.1 < key
def AllGt (key : Str) (l : List Item) : Prop := ∀ x ∈ l, key < x.1
def AllGe (key : Str) (l : List Item) : Prop := ∀ x ∈ l, ¬ x.1 < key
def loL (key : Str) (l : List Item) : List Item := l.filter (fun x => decide (x.1 < key))
def hiL (key : Str) (l : List Item) : List Item := l.filter (fun x => decide (key < x.1))
def putL (key : Str) (v : KR) (l : List Item) : List Item := loL key l ++ (key, v) :: hiL key l
def delL (key : Str) (l : List Item) : List Item := l.filter (fun x => !decide (x.1 = key))
def hasL (key : Str) (l : List Item) : Bool := l.any (fun x => decide (x.1 = key))

theorem ne_of_lt' {a b : Str} (h : a < b) : a ≠ b := fun e => by subst e; exact lt_irr _ h

theorem loL_lt {key : Str} {l : List Item} (h : AllLt key l) : loL key l = l := List.filter_eq_self.2 (fun x hx => by simpa using h x hx)
theorem loL_gt {key : Str} {l : List Item} (h : AllGt key l) : loL key l = [] := List.filter_eq_nil_iff.2 (fun x hx => by simpa using lt_asym (h x hx))
theorem hiL_gt {key : Str} {l : List Item} (h : AllGt key l) : hiL key l = l := List.filter_eq_self.2 (fun x hx => by simpa using h x hx)
theorem hiL_lt {key : Str} {l : List Item} (h : AllLt key l) : hiL key l = [] := List.filter_eq_nil_iff.2 (fun x hx => by simpa using lt_asym (h x hx))
theorem delL_lt {key : Str} {l : List Item} (h : AllLt key l) : delL key l = l := List.filter_eq_self.2 (fun x hx => by simpa using ne_of_lt' (h x hx))
theorem delL_gt {key : Str} {l : List Item} (h : AllGt key l) : delL key l = l := List.filter_eq_self.2 (fun x hx => by simpa using (ne_of_lt' (h x hx)).symm)
theorem hasL_lt {key : Str} {l : List Item} (h : AllLt key l) : hasL key l = false := List.any_eq_false.2 (fun x hx => by simpa using ne_of_lt' (h x hx))
theorem hasL_gt {key : Str} {l : List Item} (h : AllGt key l) : hasL key l = false := List.any_eq_false.2 (fun x hx => by simpa using (ne_of_lt' (h x hx)).symm)

theorem putL_mid {key : Str} {P Q : List Item} (v : KR) (m : List Item) (hP : AllLt key P) (hQ : AllGt key Q) : putL key v (P ++ m ++ Q) = P ++ putL key v m ++ Q := by
  have a1 := loL_lt hP; have a2 := hiL_lt hP; have a3 := loL_gt hQ; have a4 := hiL_gt hQ
  unfold loL at a1 a3
  unfold hiL at a2 a4
  unfold putL loL hiL
  simp [List.filter_append, a1, a2, a3, a4]
theorem putL_new {key : Str} {P Q : List Item} (v : KR) (hP : AllLt key P) (hQ : AllGt key Q) : putL key v (P ++ Q) = P ++ (key, v) :: Q := by
  have := putL_mid v [] hP hQ
  simpa [putL, loL, hiL] using this
theorem putL_hit {key : Str} {P Q : List Item} (v u : KR) (hP : AllLt key P) (hQ : AllGt key Q) : putL key v (P ++ (key, u) :: Q) = P ++ (key, v) :: Q := by
  have := putL_mid v [(key, u)] hP hQ
  simpa [putL, loL, hiL, lt_irr] using this
theorem delL_mid {key : Str} {P Q : List Item} (m : List Item) (hP : AllLt key P) (hQ : AllGt key Q) : delL key (P ++ m ++ Q) = P ++ delL key m ++ Q := by
  have a1 := delL_lt hP; have a2 := delL_gt hQ
  unfold delL at a1 a2
  unfold delL
  simp [List.filter_append, a1, a2]
theorem delL_hit {key : Str} {P Q : List Item} (u : KR) (hP : AllLt key P) (hQ : AllGt key Q) : delL key (P ++ (key, u) :: Q) = P ++ Q := by
  have := delL_mid [(key, u)] hP hQ
  simpa [delL] using this
theorem delL_new {key : Str} {P Q : List Item} (hP : AllLt key P) (hQ : AllGt key Q) : delL key (P ++ Q) = P ++ Q := by
  have := delL_mid [] hP hQ
  simpa [delL] using this
theorem hasL_mid {key : Str} {P Q : List Item} (m : List Item) (hP : AllLt key P) (hQ : AllGt key Q) : hasL key (P ++ m ++ Q) = hasL key m := by
  have a1 := hasL_lt hP; have a2 := hasL_gt hQ
  unfold hasL at a1 a2
  unfold hasL
  rw [List.any_append, List.any_append, a1, a2, Bool.false_or, Bool.or_false]
theorem hasL_new {key : Str} {P Q : List Item} (hP : AllLt key P) (hQ : AllGt key Q) : hasL key (P ++ Q) = false := by
  have := hasL_mid [] hP hQ
  simpa [hasL] using this
theorem hasL_hit {key : Str} {P Q : List Item} (u : KR) : hasL key (P ++ (key, u) :: Q) = true := by
  simp [hasL]
theorem hasL_iff {key : Str} {l : List Item} : hasL key l = true ↔ ∃ u, (key, u) ∈ l := by
  unfold hasL
  rw [List.any_eq_true]
  constructor
  · rintro ⟨⟨a, u⟩, h1, h2⟩
    simp at h2
    subst h2
    exact ⟨u, h1⟩
  · rintro ⟨u, h⟩
    exact ⟨_, h, by simp⟩

theorem asc_app {P Q : List Item} : Asc (P ++ Q) ↔ Asc P ∧ Asc Q ∧ ∀ a ∈ P, ∀ b ∈ Q, a.1 < b.1 := List.pairwise_append
theorem asc_cons {x : Item} {Q : List Item} : Asc (x :: Q) ↔ (∀ b ∈ Q, x.1 < b.1) ∧ Asc Q := List.pairwise_cons
theorem asc_put {key : Str} {v : KR} {l : List Item} (h : Asc l) : Asc (putL key v l) := by
  unfold putL
  refine asc_app.2 ⟨h.filter _, asc_cons.2 ⟨fun b hb => ?_, h.filter _⟩, ?_⟩
  · have := (List.mem_filter.1 hb).2
    simpa using this
  · intro a ha b hb
    have h1 : a.1 < key := by simpa using (List.mem_filter.1 ha).2
    rcases List.mem_cons.1 hb with rfl | hb
    · exact h1
    · have h2 : key < b.1 := by simpa using (List.mem_filter.1 hb).2
      exact List.lt_trans h1 h2
theorem asc_del {key : Str} {l : List Item} (h : Asc l) : Asc (delL key l) := h.filter _
theorem perm_put (key : Str) (v : KR) (l : List Item) : (putL key v l).Perm ((key, v) :: delL key l) := by
  unfold putL
  refine List.perm_middle.trans (List.Perm.cons _ ?_)
  induction l with
  | nil => exact List.Perm.refl _
  | cons x l ih =>
    unfold loL hiL delL at *
    rcases lt_tri x.1 key with h | h | h
    · have h1 := lt_asym h; have h2 := ne_of_lt' h
      simpa [h, h1, h2] using ih
    · have h1 : ¬ x.1 < key := by rw [h]; exact lt_irr _
      have h2 : ¬ key < x.1 := by rw [h]; exact lt_irr _
      simpa [h, h1, h2, lt_irr] using ih
    · have h1 := lt_asym h; have h2 := (ne_of_lt' h).symm
      simp only [List.filter_cons, h, h1, h2, decide_true, decide_false, Bool.not_false, if_true, Bool.false_eq_true, if_false]
      exact List.perm_middle.trans (List.Perm.cons _ ih)

/-- The items of a node between its children's. -/
def mix : List (List Item) → List Item → List Item
  | [], xs => xs
  | k :: ks, [] => k ++ mix ks []
  | k :: ks, x :: xs => k ++ x :: mix ks xs
theorem mix_cons (k : List Item) (B : List (List Item)) (J : List Item) : mix (k :: B) J = k ++ mix ([] :: B) J := by
  cases J <;> simp [mix]
theorem mix_append : ∀ (A : List (List Item)) (I : List Item) (K : List (List Item)) (J : List Item), A.length = I.length → mix (A ++ K) (I ++ J) = mix A I ++ mix K J
  | [], [], K, J, _ => rfl
  | a :: A, x :: I, K, J, h => by
    have := mix_append A I K J (by simpa using h)
    simp [mix, this]
theorem mix_at {A : List (List Item)} {I : List Item} (h : A.length = I.length) (k : List Item) (B : List (List Item)) (J : List Item) :
    mix (A ++ k :: B) (I ++ J) = mix A I ++ k ++ mix ([] :: B) J := by
  rw [mix_append A I _ J h, mix_cons, List.append_assoc]
/-- Two nodes and the item between them. -/
theorem mix_join : ∀ (I : List Item) (A K : List (List Item)) (x : Item) (J : List Item), A.length = I.length + 1 → mix (A ++ K) (I ++ x :: J) = mix A I ++ x :: mix K J
  | [], [a], K, x, J, _ => by simp [mix]
  | y :: I, a :: A, K, x, J, h => by
    have := mix_join I A K x J (by simpa using h)
    simp [mix, this]
theorem mem_mix_right : ∀ (A : List (List Item)) (I : List Item) (x : Item), x ∈ I → x ∈ mix A I
  | [], I, x, h => h
  | a :: A, y :: I, x, h => by
    rcases List.mem_cons.1 h with rfl | h
    · simp [mix]
    · have := mem_mix_right A I x h
      simp [mix, this]
theorem asc_right : ∀ {A : List (List Item)} {I : List Item}, Asc (mix A I) → Asc I
  | [], I, h => h
  | a :: A, [], h => List.Pairwise.nil
  | a :: A, y :: I, h => by
    simp only [mix] at h
    have h2 := asc_cons.1 (asc_app.1 h).2.1
    exact asc_cons.2 ⟨fun b hb => h2.1 b (mem_mix_right A I b hb), asc_right h2.2⟩
/-- Left of the place all is less. -/
theorem mix_lt {key : Str} : ∀ {A : List (List Item)} {I : List Item}, A.length = I.length → Asc (mix A I) → AllLt key I → AllLt key (mix A I)
  | [], [], _, _, h => h
  | a :: A, y :: I, hl, ha, h => by
    simp only [mix] at ha ⊢
    have h1 := asc_app.1 ha
    have h2 := asc_cons.1 h1.2.1
    have hy := h y (by simp)
    have ih := mix_lt (key := key) (by simpa using hl) h2.2 (fun x hx => h x (by simp [hx]))
    intro x hx
    rcases List.mem_append.1 hx with hx | hx
    · exact List.lt_trans (h1.2.2 x hx y (by simp)) hy
    · rcases List.mem_cons.1 hx with rfl | hx
      · exact hy
      · exact ih x hx
/-- Right of the place all is more. -/
theorem mix_gt {key : Str} {B : List (List Item)} {J : List Item} (hl : B.length = J.length) (ha : Asc (mix ([] :: B) J)) (h : AllGt key J) : AllGt key (mix ([] :: B) J) := by
  cases J with
  | nil =>
    have : B = [] := List.eq_nil_of_length_eq_zero (by simpa using hl)
    subst this
    intro x hx
    simp [mix] at hx
  | cons y J =>
    simp only [mix, List.nil_append] at ha ⊢
    have h2 := asc_cons.1 ha
    have hy := h y (by simp)
    intro x hx
    rcases List.mem_cons.1 hx with rfl | hx
    · exact hy
    · exact List.lt_trans hy (h2.1 x hx)
theorem gt_of_cons {key : Str} {u : KR} {Q : List Item} (h : Asc ((key, u) :: Q)) : AllGt key Q := fun x hx => (asc_cons.1 h).1 x hx
theorem lt_of_snoc {x : Item} {P Q : List Item} (h : Asc (P ++ x :: Q)) : AllLt x.1 P := fun y hy => (asc_app.1 h).2.2 y hy x (by simp)

/-- The place of a key: how many items lie ahead of it. -/
def posL (key : Str) (l : List Item) : Nat := (l.takeWhile (fun x => decide (x.1 < key))).length
theorem pos_split (key : Str) : ∀ {l : List Item}, Asc l → AllLt key (l.take (posL key l)) ∧ AllGe key (l.drop (posL key l))
  | [], _ => ⟨fun x hx => by simp at hx, fun x hx => by simp at hx⟩
  | y :: l, h => by
    have h2 := asc_cons.1 h
    by_cases hy : y.1 < key
    · have ih := pos_split key h2.2
      have e : posL key (y :: l) = posL key l + 1 := by simp [posL, List.takeWhile_cons, hy]
      rw [e]
      refine ⟨fun x hx => ?_, fun x hx => ih.2 x (by simpa using hx)⟩
      rcases List.mem_cons.1 (by simpa using hx : x ∈ y :: l.take (posL key l)) with rfl | hx
      · exact hy
      · exact ih.1 x hx
    · have e : posL key (y :: l) = 0 := by simp [posL, List.takeWhile_cons, hy]
      rw [e]
      refine ⟨fun x hx => by simp at hx, fun x hx => ?_⟩
      rcases List.mem_cons.1 (by simpa using hx : x ∈ y :: l) with rfl | hx
      · exact hy
      · intro hlt
        exact hy (List.lt_trans (h2.1 x hx) hlt)
theorem pos_le (key : Str) (l : List Item) : posL key l ≤ l.length := by
  unfold posL
  induction l with
  | nil => simp
  | cons y l ih => rw [List.takeWhile_cons]; split <;> simp <;> omega
theorem pos_of {key : Str} : ∀ {I J : List Item}, AllLt key I → AllGe key J → posL key (I ++ J) = I.length
  | [], [], _, _ => rfl
  | [], y :: J, _, h => by
    have := h y (by simp)
    simp [posL, List.takeWhile_cons, this]
  | x :: I, J, h1, h2 => by
    have := h1 x (by simp)
    have ih := pos_of (key := key) (I := I) (J := J) (fun y hy => h1 y (by simp [hy])) h2
    unfold posL at ih ⊢
    simp [List.takeWhile_cons, this, ih]
/-- Whether the item at the key's place bears the key. -/
def hitL (key : Str) (l : List Item) : Bool := match l[posL key l]? with
  | some x => decide (x.1 = key)
  | none => false
theorem ge_gt {key : Str} {J : List Item} (h : AllGe key J) (ha : Asc J) (hne : ∀ x, J[0]? = some x → x.1 ≠ key) : AllGt key J := by
  cases J with
  | nil => intro x hx; simp at hx
  | cons y J =>
    have hy := h y (by simp)
    have hn := hne y rfl
    have hk : key < y.1 := by
      rcases lt_tri y.1 key with h1 | h1 | h1
      · exact absurd h1 hy
      · exact absurd h1 hn
      · exact h1
    intro x hx
    rcases List.mem_cons.1 hx with rfl | hx
    · exact hk
    · exact List.lt_trans hk ((asc_cons.1 ha).1 x hx)
end Go.Proofs.Qxb6003818a
