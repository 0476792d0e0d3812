import Derived.Test.Qxb6003818aBtR2
namespace Go.Proofs.Qxb6003818a
set_option linter.unusedVariables false
set_option linter.unusedSimpArgs false

theorem pw_mono {α : Type} {R S : α → α → Prop} (h : ∀ a b, R a b → S a b) : ∀ {l : List α}, l.Pairwise R → l.Pairwise S
  | [], _ => List.Pairwise.nil
  | a :: l, hp => List.pairwise_cons.2 ⟨fun b hb => h a b ((List.pairwise_cons.1 hp).1 b hb), pw_mono h (List.pairwise_cons.1 hp).2⟩
/-- What an entry of the model map stands for. -/
def fv (vals : List KR) (p : Str × Nat) : Item := (p.1, vals.getD p.2 ([], [], false, false))
/-- The model map (keys, and for each the step whose value it holds) agrees with the items of the tree. -/
structure Model (fl : List Item) (L : List (Str × Nat)) (vals : List KR) : Prop where
  perm : fl.Perm (L.map (fv vals))
  lt : ∀ p ∈ L, p.2 < vals.length
variable {fl : List Item} {L X Y : List (Str × Nat)} {vals : List KR} {key : Str} {t i : Nat}
theorem Model.start (vals : List KR) : Model [] [] vals := ⟨List.Perm.refl _, fun p hp => by simp at hp⟩
theorem Model.len (M : Model fl L vals) : fl.length = L.length := by rw [M.perm.length_eq, List.length_map]
theorem Model.nodup (M : Model fl L vals) (ha : Asc fl) : (L.map Prod.fst).Nodup := by
  have h1 : (fl.map Prod.fst).Nodup := by
    unfold Asc at ha
    rw [List.Nodup, List.pairwise_map]
    exact pw_mono (fun a b h e => ne_of_lt' h e) ha
  have h2 := (M.perm.map Prod.fst).nodup_iff.1 h1
  rw [List.map_map] at h2
  exact h2
theorem del_map {L : List (Str × Nat)} (h : key ∉ L.map Prod.fst) : delL key (L.map (fv vals)) = L.map (fv vals) := by
  unfold delL
  refine List.filter_eq_self.2 (fun x hx => ?_)
  obtain ⟨p, hp, rfl⟩ := List.mem_map.1 hx
  have : p.1 ≠ key := fun e => h (by rw [← e]; exact List.mem_map.2 ⟨p, hp, rfl⟩)
  simpa [fv] using this
theorem apart (hn : ((X ++ (key, t) :: Y).map Prod.fst).Nodup) : key ∉ X.map Prod.fst ∧ key ∉ Y.map Prod.fst := by
  rw [List.map_append, List.map_cons] at hn
  have h1 := List.nodup_append.1 hn
  refine ⟨fun hx => h1.2.2 key hx key (by simp) rfl, (List.nodup_cons.1 h1.2.1).1⟩
theorem del_at (hn : ((X ++ (key, t) :: Y).map Prod.fst).Nodup) : delL key ((X ++ (key, t) :: Y).map (fv vals)) = (X ++ Y).map (fv vals) := by
  obtain ⟨h1, h2⟩ := apart hn
  have a1 := del_map (vals := vals) h1
  have a2 := del_map (vals := vals) h2
  unfold delL at a1 a2 ⊢
  rw [List.map_append, List.map_cons, List.filter_append, List.filter_cons, a1, a2]
  simp [fv]
theorem del_perm {l m : List Item} (h : l.Perm m) : (delL key l).Perm (delL key m) := h.filter _
theorem Model.has (M : Model fl L vals) : hasL key fl = true ↔ key ∈ L.map Prod.fst := by
  rw [hasL_iff]
  constructor
  · rintro ⟨u, hu⟩
    obtain ⟨p, hp, e⟩ := List.mem_map.1 (M.perm.mem_iff.1 hu)
    exact List.mem_map.2 ⟨p, hp, by have := congrArg Prod.fst e; exact this⟩
  · intro h
    obtain ⟨p, hp, e⟩ := List.mem_map.1 h
    subst e
    exact ⟨_, M.perm.mem_iff.2 (List.mem_map.2 ⟨p, hp, rfl⟩)⟩
theorem Model.mem (M : Model fl L vals) {p : Str × Nat} (hp : p ∈ L) : fv vals p ∈ fl := M.perm.mem_iff.2 (List.mem_map.2 ⟨p, hp, rfl⟩)
/-- A set of a key that is there. -/
theorem Model.setOld (M : Model fl (X ++ (key, t) :: Y) vals) (ha : Asc fl) (hi : i < vals.length) : Model (putL key (vals.getD i ([], [], false, false)) fl) (X ++ (key, i) :: Y) vals := by
  refine ⟨?_, fun p hp => ?_⟩
  · refine (perm_put _ _ _).trans ?_
    refine (List.Perm.cons _ ((del_perm M.perm).trans (by rw [del_at (M.nodup ha)]))).trans ?_
    rw [List.map_append, List.map_append, List.map_cons]
    exact List.perm_middle.symm
  · rcases List.mem_append.1 hp with h | h
    · exact M.lt p (by simp [h])
    · rcases List.mem_cons.1 h with rfl | h
      · exact hi
      · exact M.lt p (by simp [h])
/-- A set of a new key. -/
theorem Model.setNew (M : Model fl L vals) (hk : key ∉ L.map Prod.fst) (hi : i < vals.length) : Model (putL key (vals.getD i ([], [], false, false)) fl) (L ++ [(key, i)]) vals := by
  refine ⟨?_, fun p hp => ?_⟩
  · refine (perm_put _ _ _).trans ?_
    refine (List.Perm.cons _ ((del_perm M.perm).trans (by rw [del_map hk]))).trans ?_
    rw [List.map_append]
    exact (List.perm_append_comm (l₁ := [fv vals (key, i)]) (l₂ := L.map (fv vals)))
  · rcases List.mem_append.1 hp with h | h
    · exact M.lt p h
    · simp at h; subst h; exact hi
/-- A delete of a key that is there: any order of the rest. -/
theorem Model.del (M : Model fl (X ++ (key, t) :: Y) vals) (ha : Asc fl) {L' : List (Str × Nat)} (hL : (X ++ Y).Perm L') : Model (delL key fl) L' vals := by
  refine ⟨?_, fun p hp => ?_⟩
  · refine ((del_perm M.perm).trans (by rw [del_at (M.nodup ha)])).trans (hL.map _)
  · have h1 := hL.mem_iff.2 hp
    rcases List.mem_append.1 h1 with h | h
    · exact M.lt p (by simp [h])
    · exact M.lt p (by simp [h])
theorem Model.delNone (M : Model fl L vals) (hk : key ∉ L.map Prod.fst) : delL key fl = fl ∧ hasL key fl = false := by
  have h : hasL key fl = false := by
    cases h : hasL key fl with
    | false => rfl
    | true => exact absurd (M.has.1 h) hk
  exact ⟨del_none h, h⟩
/-- The last entry takes the place of the j-th. -/
theorem swap_perm (L : List (Str × Nat)) (j : Nat) (hj : j < L.length) : ∃ X Y p, L = X ++ p :: Y ∧ X.length = j ∧ (X ++ Y).Perm ((L.set j (L.getLast (List.ne_nil_of_length_pos (by omega)))).dropLast) := by
  refine ⟨L.take j, L.drop (j + 1), L[j], by rw [List.getElem_cons_drop, List.take_append_drop], by rw [List.length_take]; omega, ?_⟩
  have hL : L = L.take j ++ L[j] :: L.drop (j + 1) := by rw [List.getElem_cons_drop, List.take_append_drop]
  have hlt : (L.take j).length = j := by rw [List.length_take]; omega
  rcases List.eq_nil_or_concat (L.drop (j + 1)) with h | ⟨Y, z, h⟩
  · have e : L.set j (L.getLast (List.ne_nil_of_length_pos (by omega))) = L.take j ++ [L.getLast (List.ne_nil_of_length_pos (by omega))] := by
      generalize L.getLast _ = g
      have e0 : L.set j g = (L.take j ++ L[j] :: L.drop (j + 1)).set j g := by rw [← hL]
      rw [e0, List.set_append_right _ _ (by omega), hlt, Nat.sub_self, List.set_cons_zero, h]
    rw [e, h, List.dropLast_concat, List.append_nil]
  · rw [List.concat_eq_append] at h
    have hg : L.getLast (List.ne_nil_of_length_pos (by omega)) = z := by
      have : L.getLast? = some z := by
        rw [hL, h, show L.take j ++ L[j] :: (Y ++ [z]) = (L.take j ++ L[j] :: Y) ++ [z] by simp, List.getLast?_concat]
      rw [List.getLast?_eq_some_getLast (List.ne_nil_of_length_pos (by omega))] at this
      exact Option.some.inj this
    have e : L.set j (L.getLast (List.ne_nil_of_length_pos (by omega))) = (L.take j ++ z :: Y) ++ [z] := by
      rw [hg]
      have e0 : L.set j z = (L.take j ++ L[j] :: L.drop (j + 1)).set j z := by rw [← hL]
      rw [e0, List.set_append_right _ _ (by omega), hlt, Nat.sub_self, List.set_cons_zero, h]
      simp
    rw [e, h, List.dropLast_concat]
    exact (List.Perm.append_left _ (List.perm_append_comm (l₁ := Y) (l₂ := [z])))
end Go.Proofs.Qxb6003818a
