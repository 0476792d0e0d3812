import Derived.Test.Qxb6003793aPlain
namespace Go.Proofs.Qxb6003793a.Pl
open Go

/-- What changesTo sorts: the view's ids, and of the ids of held those that the view does not place. -/
def subj (vw met : List Str) (st : Str → Int) : List Str := vw ++ met.filter (fun x => st x == 0)
theorem subj_snoc_no {vw met : List Str} {st : Str → Int} {x : Str} (h : (st x == 0) = false) : subj vw (met ++ [x]) st = subj vw met st := by
  simp only [subj, List.filter_append, List.filter_cons, h]
  simp
theorem subj_snoc_yes {vw met : List Str} {st : Str → Int} {x : Str} (h : (st x == 0) = true) : subj vw (met ++ [x]) st = subj vw met st ++ [x] := by
  simp only [subj, List.filter_append, List.filter_cons, h]
  simp
theorem subj_nil (vw : List Str) (st : Str → Int) : subj vw [] st = vw := by simp [subj]
theorem subj_le (vw met : List Str) (st : Str → Int) : (subj vw met st).length ≤ vw.length + met.length := by
  have := List.length_filter_le (fun x => st x == 0) met
  simp [subj]
  omega

/-- Sorted, it is strictly ascending, and holds just the ids of the view and of held. -/
theorem subj_sorted {vw met : List Str} {st : Str → Int} (h1 : vw.Nodup) (h2 : met.Nodup) (hst : ∀ x, st x = 0 ↔ x ∉ vw) :
    ((subj vw met st).mergeSort leB).Pairwise (· < ·) ∧ ∀ x, x ∈ (subj vw met st).mergeSort leB ↔ x ∈ vw ∨ x ∈ met := by
  have nd : (subj vw met st).Nodup := by
    rw [subj, List.nodup_append]
    refine ⟨h1, h2.filter _, fun a ha b hb e => ?_⟩
    subst e
    have := (List.mem_filter.1 hb).2
    exact (hst a).1 (by simpa using this) ha
  have perm := List.mergeSort_perm (subj vw met st) leB
  have tr : ∀ a b c : Str, leB a b = true → leB b c = true → leB a c = true := fun a b c h1 h2 => by simp only [leB, decide_eq_true_eq] at *; exact List.le_trans h1 h2
  have to : ∀ a b : Str, (leB a b || leB b a) = true := fun a b => by simp only [leB, Bool.or_eq_true, decide_eq_true_eq]; exact List.le_total a b
  have hp := List.pairwise_mergeSort tr to (subj vw met st)
  have nd' := perm.nodup_iff.2 nd
  constructor
  · refine pw_mono (hp.and nd') fun h => ?_
    exact lt_of_le_ne (by simpa using h.1) h.2
  · intro x
    rw [perm.mem_iff, subj, List.mem_append, List.mem_filter]
    constructor
    · rintro (h | h)
      · exact .inl h
      · exact .inr h.1
    · rintro (h | h)
      · exact .inl h
      · by_cases hv : x ∈ vw
        · exact .inl hv
        · exact .inr ⟨h, by simpa using (hst x).2 hv⟩

/-- A change of one id, if there is one. -/
def chgOf (h st : Str → Int) (x : Str) : Option (Str × Int × Int) := if h x = st x then none else some (x, h x, st x)
def chgs (h st : Str → Int) (us : List Str) : List (Str × Int × Int) := us.filterMap (chgOf h st)
theorem chgs_same {h st : Str → Int} {us : List Str} {k : Nat} (hk : k < us.length) (e : h us[k] = st us[k]) : chgs h st (us.take (k + 1)) = chgs h st (us.take k) := by
  rw [take_succ us k hk, chgs, List.filterMap_append]
  simp [chgs, chgOf, e]
theorem chgs_diff {h st : Str → Int} {us : List Str} {k : Nat} (hk : k < us.length) (e : h us[k] ≠ st us[k]) : chgs h st (us.take (k + 1)) = chgs h st (us.take k) ++ [(us[k], h us[k], st us[k])] := by
  rw [take_succ us k hk, chgs, List.filterMap_append]
  simp [chgs, chgOf, e]
theorem chgs_le (h st : Str → Int) (us : List Str) : (chgs h st us).length ≤ us.length := List.length_filterMap_le _ _

end Go.Proofs.Qxb6003793a.Pl
