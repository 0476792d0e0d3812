import Derived.Test.Qxb6003818aBtF
namespace Go.Proofs.Qxb6003818a
open Go.RowKit
set_option linter.unusedVariables false
set_option linter.unusedSimpArgs false

theorem pos_cases (key : Str) {its : List Item} (ha : Asc its) :
    ∃ I J, its = I ++ J ∧ I.length = posL key its ∧ AllLt key I ∧ ((hitL key its = false ∧ AllGt key J) ∨ (∃ u J', J = (key, u) :: J' ∧ hitL key its = true)) := by
  obtain ⟨h1, h2⟩ := pos_split key ha
  refine ⟨its.take (posL key its), its.drop (posL key its), (List.take_append_drop _ _).symm, by rw [List.length_take]; have := pos_le key its; omega, h1, ?_⟩
  have hJ : Asc (its.drop (posL key its)) := by
    have := ha
    rw [← List.take_append_drop (posL key its) its] at this
    exact (asc_app.1 this).2.1
  have h0 : (its.drop (posL key its))[0]? = its[posL key its]? := by rw [List.getElem?_drop, Nat.add_zero]
  cases hx : its[posL key its]? with
  | none => exact .inl ⟨by simp [hitL, hx], ge_gt h2 hJ (fun x hx' => by rw [h0, hx] at hx'; cases hx')⟩
  | some x =>
    by_cases e : x.1 = key
    · refine .inr ?_
      rw [hx] at h0
      cases hd : its.drop (posL key its) with
      | nil => rw [hd] at h0; simp at h0
      | cons y J' =>
        rw [hd] at h0
        simp at h0
        subst h0
        obtain ⟨yk, yu⟩ := y
        simp only at e
        subst e
        exact ⟨yu, J', rfl, by simp [hitL, hx]⟩
    · exact .inl ⟨by simp [hitL, hx, e], ge_gt h2 hJ (fun y hy => by rw [h0, hx] at hy; cases hy; exact e)⟩
theorem split_at {its : List Item} {ks : List Kid} (hl : ks.length = its.length + 1) {p : Nat} (hp : p ≤ its.length) :
    ∃ I J A k B, its = I ++ J ∧ ks = A ++ k :: B ∧ I.length = p ∧ A.length = p ∧ B.length = J.length :=
  ⟨its.take p, its.drop p, ks.take p, ks[p]'(by omega), ks.drop (p + 1), (List.take_append_drop _ _).symm, by rw [List.getElem_cons_drop, List.take_append_drop], by rw [List.length_take]; omega, by rw [List.length_take]; omega, by rw [List.length_drop, List.length_drop]; omega⟩
theorem split_ks {I J : List Item} {ks : List Kid} (hl : ks.length = (I ++ J).length + 1) : ∃ A k B, ks = A ++ k :: B ∧ A.length = I.length ∧ B.length = J.length := by
  rw [List.length_append] at hl
  exact ⟨ks.take I.length, ks[I.length]'(by omega), ks.drop (I.length + 1), by rw [List.getElem_cons_drop, List.take_append_drop], by rw [List.length_take]; omega, by rw [List.length_drop]; omega⟩
/-- What lies left and right of a child. -/
def lefts (A : List Kid) (I : List Item) : List Item := mix (A.map Kid.fl) I
def rights (B : List Kid) (J : List Item) : List Item := mix ([] :: B.map Kid.fl) J
theorem flat_at {A : List Kid} {I : List Item} (h : A.length = I.length) (k : Kid) (B : List Kid) (J : List Item) : flat (I ++ J) (A ++ k :: B) = lefts A I ++ k.fl ++ rights B J := by
  unfold flat lefts rights
  rw [List.map_append, List.map_cons]
  exact mix_at (by simpa using h) _ _ _
theorem flat_leaf (its : List Item) : flat its [] = its := rfl
theorem lefts_lt {key : Str} {A : List Kid} {I : List Item} (h : A.length = I.length) (ha : Asc (lefts A I)) (hI : AllLt key I) : AllLt key (lefts A I) := mix_lt (by simpa using h) ha hI
theorem rights_gt {key : Str} {B : List Kid} {J : List Item} (h : B.length = J.length) (ha : Asc (rights B J)) (hJ : AllGt key J) : AllGt key (rights B J) := mix_gt (by simpa using h) ha hJ
theorem asc_its {its : List Item} {ks : List Kid} (h : Asc (flat its ks)) : Asc its := asc_right h
theorem asc_mid {P m Q : List Item} (h : Asc (P ++ m ++ Q)) : Asc P ∧ Asc m ∧ Asc Q := ⟨(asc_app.1 (asc_app.1 h).1).1, (asc_app.1 (asc_app.1 h).1).2.1, (asc_app.1 h).2.1⟩
theorem its_le : ∀ (A : List (List Item)) (I : List Item), I.length ≤ (mix A I).length
  | [], I => Nat.le_refl _
  | a :: A, [] => Nat.zero_le _
  | a :: A, x :: I => by
    have := its_le A I
    simp [mix]; omega
theorem its_le_flat (its : List Item) (ks : List Kid) : its.length ≤ (flat its ks).length := its_le _ _

section
variable {w w' : World} {h lo : Nat} {t : Kid} {v c : Value} {its : List Item} {ks : List Kid}
theorem nt_upd {F : List Nat} (N : NT w (Below1 w h) h lo t v c its ks) (hu : Upd w w' F) (hF : ∀ k, 0 < t.ft.count k → F.count k = 0) : NT w' (Below1 w' h) h lo t v c its ks := by
  have hc := nt_count N
  refine ⟨N.blk.upd hu (hF _ (by rw [hc, if_pos rfl]; omega)), owns_upd N.row hu (fun k hk => hF k (by rw [hc]; omega)), owns_upd N.krow hu (fun k hk => hF k (by rw [hc]; omega)), N.lo, N.leaf, N.inner, ?_, N.fl, N.ft⟩
  intro x hx
  exact below1_upd hu (N.kids x hx) (fun k hk => hF k (by have := count_mem hx k; rw [hc]; omega))
theorem nt_upd0 (N : NT w (Below1 w h) h lo t v c its ks) (hu : Upd w w' []) : NT w' (Below1 w' h) h lo t v c its ks := nt_upd N hu (fun k _ => by simp)
theorem ptrs_take (ks : List Kid) (i : Nat) : (ks.map (fun k => ptr k.g)).take i = (ks.take i).map (fun k => ptr k.g) := by rw [List.map_take]
theorem ptrs_one (ks : List Kid) : ∀ u ∈ ks.map (fun k => ptr k.g), u.oneCell' = true := by
  intro u hu
  obtain ⟨x, _, rfl⟩ := List.mem_map.1 hu
  rfl
theorem row_kid (hr : w.ownsRow 0 59 1 c ks.length (ks.map (fun k => ptr k.g))) {i : Nat} (hi : i < ks.length) :
    ∃ r cap, c = .slice (some ⟨r, 0, none⟩) ks.length cap ∧ ks.length ≤ cap ∧ cap ≤ 9223372036854775807 ∧ ownB c = [r] ∧ r < w.heap.size ∧ w.cell? ⟨r, i, none⟩ = some (ptr ks[i].g) ∧ ∀ j, w.frozen? ⟨r, j, none⟩ = false := by
  rcases owns_cases hr with ⟨_, h2, _⟩ | ⟨r, cap, S, h1, hb, h3, h4, h5, h6, h7⟩
  · omega
  refine ⟨r, cap, h1, h3, h4, h6, hb.lt, ?_, fun j => hb.free j⟩
  have := hb.cell (i := i) (by rw [List.length_append]; simp; omega)
  rw [List.getElem_append_left (by simpa using hi), List.getElem_map] at this
  exact this
theorem row_slice (hr : w.ownsRow 0 105 5 v its.length (its.flatMap encI)) : ∃ a cap, v = .slice a its.length cap := by
  rcases owns_cases hr with ⟨h1, h2, _⟩ | ⟨r, cap, S, h1, _⟩
  · exact ⟨none, 0, by rw [h1, h2]⟩
  · exact ⟨_, _, h1⟩
end
abbrev aggI (x : Item) : Value := .agg #[strV x.1, strV x.2.1, strV x.2.2.1, .bool x.2.2.2.1, .bool x.2.2.2.2]
end Go.Proofs.Qxb6003818a
