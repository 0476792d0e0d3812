import Derived.Test.Qxb6003793aPlain
namespace Go.Proofs.Qxb6003793a.Pl
open Go

/-- Ascending up to i, but for what lies ahead of place j. -/
def Ex (l : List Str) (i j : Nat) : Prop := ∀ a b (hb : b < l.length) (hab : a < b), b ≤ i → b ≠ j → l[a]'(Nat.lt_trans hab hb) ≤ l[b]
/-- Ascending ahead of i. -/
def Up (l : List Str) (i : Nat) : Prop := ∀ a b (hb : b < l.length) (hab : a < b), b < i → l[a]'(Nat.lt_trans hab hb) ≤ l[b]

theorem Up.one (l : List Str) : Up l 1 := fun a b hb hab h => by omega
theorem Up.ex {l : List Str} {i : Nat} (h : Up l i) : Ex l i i := fun a b hb hab h1 h2 => h a b hb hab (by omega)
theorem Ex.stop {l : List Str} {i j : Nat} (h : Ex l i j) (hj : j < l.length) (hs : ∀ h0 : 0 < j, ¬ l[j] < l[j - 1]) : Up l (i + 1) := by
  intro a b hb hab hbi
  by_cases e : b = j
  · subst e
    have h1 : l[b - 1] ≤ l[b] := List.not_lt.1 (hs (by omega))
    by_cases e2 : a = b - 1
    · subst e2; exact h1
    · exact List.le_trans (h a (b - 1) (by omega) (by omega) (by omega) (by omega)) h1
  · exact h a b hb hab (by omega) e

def swapL (l : List Str) (j : Nat) (h : j + 1 < l.length) : List Str := (l.set (j + 1) l[j]).set j l[j + 1]
theorem swapL_perm (l : List Str) (j : Nat) (h : j + 1 < l.length) : (swapL l j h).Perm l := List.set_set_perm h (by omega)
theorem swapL_len (l : List Str) (j : Nat) (h : j + 1 < l.length) : (swapL l j h).length = l.length := by simp [swapL]
theorem swapL_get (l : List Str) (j : Nat) (h : j + 1 < l.length) (k : Nat) (hk : k < l.length) : (swapL l j h)[k]'(by rw [swapL_len]; exact hk) = if k = j then l[j + 1] else if k = j + 1 then l[j] else l[k] := by
  simp only [swapL, List.getElem_set]
  by_cases e1 : j = k
  · simp [e1]
  · by_cases e2 : j + 1 = k
    · subst e2; simp
    · rw [if_neg e1, if_neg e2, if_neg (fun e => e1 e.symm), if_neg (fun e => e2 e.symm)]
theorem Ex.swap {l : List Str} {i j : Nat} (h : Ex l i (j + 1)) (hj : j + 1 < l.length) (hlt : l[j + 1] < l[j]) : Ex (swapL l j hj) i j := by
  intro a b hb hab hbi hne
  have hb' : b < l.length := by rw [swapL_len] at hb; exact hb
  rw [swapL_get l j hj a (by omega), swapL_get l j hj b hb']
  rw [if_neg hne]
  by_cases e : b = j + 1
  · rw [if_pos e]
    by_cases ea : a = j
    · rw [if_pos ea]; exact lt_le hlt
    · rw [if_neg ea, if_neg (by omega)]
      exact h a j (by omega) (by omega) (by omega) (by omega)
  · rw [if_neg e]
    by_cases ea : a = j
    · rw [if_pos ea]
      exact h (j + 1) b hb' (by omega) hbi e
    · rw [if_neg ea]
      by_cases ea2 : a = j + 1
      · rw [if_pos ea2]
        exact h j b hb' (by omega) hbi e
      · rw [if_neg ea2]
        exact h a b hb' hab hbi e
theorem Up.sorted {l : List Str} {i : Nat} (h : Up l i) (hi : l.length ≤ i) : l.Pairwise (· ≤ ·) :=
  List.pairwise_iff_getElem.2 fun a b ha hb hab => h a b hb hab (by omega)

/-! ### none twice -/
/-- What has been kept of the first k. -/
structure Kept (m us : List Str) (k : Nat) : Prop where
  up : us.Pairwise (· < ·)
  mem : ∀ x, x ∈ us ↔ x ∈ m.take k
  le : us.length ≤ k
theorem Kept.start (m : List Str) : Kept m [] 0 := ⟨by simp, by simp, Nat.le_refl _⟩
theorem Kept.add {m us : List Str} {k : Nat} (h : Kept m us k) (hm : m.Pairwise (· ≤ ·)) (hk : k < m.length) (hne : ∀ h0 : 0 < k, m[k] ≠ m[k - 1]) : Kept m (us ++ [m[k]]) (k + 1) := by
  refine ⟨?_, fun x => ?_, by simp; exact h.le⟩
  · rw [List.pairwise_append]
    refine ⟨h.up, by simp, fun a ha b hb => ?_⟩
    simp at hb
    subst hb
    obtain ⟨i, hi, rfl⟩ := List.mem_iff_getElem.1 ((h.mem a).1 ha)
    simp only [List.length_take] at hi
    rw [List.getElem_take]
    have hp := List.pairwise_iff_getElem.1 hm
    have h1 : m[k - 1] < m[k] := lt_of_le_ne (hp (k - 1) k (by omega) hk (by omega)) (fun e => hne (by omega) e.symm)
    by_cases e : i = k - 1
    · subst e; exact h1
    · exact lt_of_le_lt (hp i (k - 1) (by omega) (by omega) (by omega)) h1
  · rw [take_succ m k hk, List.mem_append, List.mem_append, h.mem x]
theorem Kept.skip {m us : List Str} {k : Nat} (h : Kept m us k) (hk : k < m.length) (h0 : 0 < k) (he : m[k] = m[k - 1]) : Kept m us (k + 1) := by
  refine ⟨h.up, fun x => ?_, by have := h.le; omega⟩
  rw [take_succ m k hk, List.mem_append, h.mem x]
  constructor
  · exact .inl
  · rintro (h | h)
    · exact h
    · simp at h
      subst h
      rw [he]
      refine List.mem_iff_getElem.2 ⟨k - 1, by simp; omega, by simp⟩

end Go.Proofs.Qxb6003793a.Pl
