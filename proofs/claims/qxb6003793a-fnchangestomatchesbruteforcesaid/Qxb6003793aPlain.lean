import Derived.Sort.KeysCollected
namespace Go.Proofs.Qxb6003793a.Pl
open Go

/-- A string, as the list of its bytes. -/
abbrev Str := List UInt8

theorem lt_le {a b : Str} (h : a < b) : a ≤ b := List.le_of_lt h
theorem lt_of_lt_le {a b c : Str} (h : a < b) (k : b ≤ c) : a < c := by
  by_cases e : b = c
  · subst e; exact h
  · by_cases hlt : b < c
    · exact List.lt_trans h hlt
    · exact absurd (List.le_antisymm k (List.not_lt.1 hlt)) e
theorem lt_of_le_lt {a b c : Str} (h : a ≤ b) (k : b < c) : a < c := List.lt_of_le_of_lt h k
theorem lt_of_le_ne {a b : Str} (h : a ≤ b) (k : a ≠ b) : a < b := by
  rcases List.le_total b a with h2 | h2
  · exact absurd (List.le_antisymm h h2) k
  · by_cases hlt : a < b
    · exact hlt
    · exact absurd (List.le_antisymm h (List.not_lt.1 hlt)) k

/-- A weaker relation holds too. -/
theorem pw_mono {α : Type} {R S : α → α → Prop} {l : List α} (hp : l.Pairwise R) (h : ∀ {a b}, R a b → S a b) : l.Pairwise S := by
  rw [List.pairwise_iff_getElem] at *
  intro i j hi hj hij
  exact h (hp i j hi hj hij)

/-- Two strictly ascending lists with the same members are one. -/
theorem eq_of_sorted {l l' : List Str} (h : l.Pairwise (· < ·)) (h' : l'.Pairwise (· < ·)) (hm : ∀ x, x ∈ l ↔ x ∈ l') : l = l' := by
  have nd : ∀ {m : List Str}, m.Pairwise (· < ·) → m.Nodup := fun hp => pw_mono hp (fun hlt e => by subst e; exact List.lt_irrefl _ hlt)
  refine List.Perm.eq_of_pairwise (le := (· < ·)) (fun a b _ _ h1 h2 => ?_) h h' ((List.perm_ext_iff_of_nodup (nd h) (nd h')).2 hm)
  exact absurd (List.lt_trans h1 h2) (List.lt_irrefl _)

theorem nodup_of_sorted {m : List Str} (hp : m.Pairwise (· < ·)) : m.Nodup := pw_mono hp (fun hlt e => by subst e; exact List.lt_irrefl _ hlt)
theorem le_of_sorted {m : List Str} (hp : m.Pairwise (· < ·)) : m.Pairwise (· ≤ ·) := pw_mono hp lt_le

theorem take_succ {α : Type} (l : List α) (k : Nat) (h : k < l.length) : l.take (k + 1) = l.take k ++ [l[k]] := List.take_succ_eq_append_getElem h

/-- The check of neighbours, one step on. -/
theorem sorted_step {l : List Str} {k : Nat} (h0 : 1 ≤ k) (h : k < l.length) (hp : (l.take k).Pairwise (· < ·)) (hlt : l[k - 1] < l[k]) : (l.take (k + 1)).Pairwise (· < ·) := by
  rw [take_succ l k h, List.pairwise_append]
  refine ⟨hp, by simp, fun a ha b hb => ?_⟩
  simp at hb
  subst hb
  obtain ⟨i, hi, rfl⟩ := List.mem_iff_getElem.1 ha
  simp only [List.length_take] at hi
  rw [List.getElem_take]
  by_cases e : i = k - 1
  · subst e; exact hlt
  · have := List.pairwise_iff_getElem.1 hp i (k - 1) (by simp; omega) (by simp; omega) (by omega)
    rw [List.getElem_take, List.getElem_take] at this
    exact List.lt_trans this hlt
theorem sorted_one {l : List Str} : (l.take 1).Pairwise (· < ·) := by
  cases l <;> simp

/-! ### merging -/
def mergeL (a b : List Str) : List Str := List.merge a b leB
theorem merge_perm (a b : List Str) : (mergeL a b).Perm (a ++ b) := List.merge_perm_append _
theorem merge_len (a b : List Str) : (mergeL a b).length = a.length + b.length := by
  rw [(merge_perm a b).length_eq, List.length_append]
theorem merge_sorted {a b : List Str} (ha : a.Pairwise (· ≤ ·)) (hb : b.Pairwise (· ≤ ·)) : (mergeL a b).Pairwise (· ≤ ·) := by
  have tr : ∀ a b c : Str, leB a b = true → leB b c = true → leB a c = true := fun a b c h1 h2 => by simp only [leB, decide_eq_true_eq] at *; exact List.le_trans h1 h2
  have to : ∀ a b : Str, (leB a b || leB b a) = true := fun a b => by simp only [leB, Bool.or_eq_true, decide_eq_true_eq]; exact List.le_total a b
  have := List.pairwise_merge (le := leB) tr to a b (pw_mono ha (fun h => by simpa using h)) (pw_mono hb (fun h => by simpa using h))
  exact pw_mono this (fun h => by simpa using h)
theorem mem_merge {a b : List Str} {x : Str} : x ∈ mergeL a b ↔ x ∈ a ∨ x ∈ b := by
  rw [(merge_perm a b).mem_iff, List.mem_append]
theorem merge_nil_left (b : List Str) : mergeL [] b = b := by simp [mergeL]
theorem merge_nil_right (a : List Str) : mergeL a [] = a := by simp [mergeL]
theorem merge_left {x y : Str} {a b : List Str} (h : x ≤ y) : mergeL (x :: a) (y :: b) = x :: mergeL a (y :: b) := by
  simp [mergeL, h]
theorem merge_right {x y : Str} {a b : List Str} (h : ¬ x ≤ y) : mergeL (x :: a) (y :: b) = y :: mergeL (x :: a) b := by
  simp [mergeL, h]

theorem merge_stepA {sa sb dn m : List Str} {i j : Nat} (h : dn ++ mergeL (sa.drop i) (sb.drop j) = m) (hi : i < sa.length) (hj : j < sb.length) (hle : sa[i] ≤ sb[j]) : (dn ++ [sa[i]]) ++ mergeL (sa.drop (i + 1)) (sb.drop j) = m := by
  rw [← h, List.drop_eq_getElem_cons hi, List.drop_eq_getElem_cons hj, merge_left hle]
  simp
theorem merge_stepB {sa sb dn m : List Str} {i j : Nat} (h : dn ++ mergeL (sa.drop i) (sb.drop j) = m) (hi : i < sa.length) (hj : j < sb.length) (hle : ¬ sa[i] ≤ sb[j]) : (dn ++ [sb[j]]) ++ mergeL (sa.drop i) (sb.drop (j + 1)) = m := by
  rw [← h, List.drop_eq_getElem_cons hi, List.drop_eq_getElem_cons hj, merge_right hle]
  simp
theorem merge_endA {sa sb dn m : List Str} {i j : Nat} (h : dn ++ mergeL (sa.drop i) (sb.drop j) = m) (hi : i < sa.length) (hj : sb.length ≤ j) : (dn ++ [sa[i]]) ++ mergeL (sa.drop (i + 1)) (sb.drop j) = m := by
  rw [← h, List.drop_eq_nil_of_le hj, merge_nil_right, merge_nil_right, List.drop_eq_getElem_cons hi]
  simp
theorem merge_endB {sa sb dn m : List Str} {i j : Nat} (h : dn ++ mergeL (sa.drop i) (sb.drop j) = m) (hi : sa.length ≤ i) (hj : j < sb.length) : (dn ++ [sb[j]]) ++ mergeL (sa.drop i) (sb.drop (j + 1)) = m := by
  rw [← h, List.drop_eq_nil_of_le hi, merge_nil_left, merge_nil_left, List.drop_eq_getElem_cons hj]
  simp
theorem merge_end {sa sb dn m : List Str} {i j : Nat} (h : dn ++ mergeL (sa.drop i) (sb.drop j) = m) (hi : sa.length ≤ i) (hj : sb.length ≤ j) : dn = m := by
  rw [← h, List.drop_eq_nil_of_le hi, List.drop_eq_nil_of_le hj, merge_nil_left]
  simp

/-! ### the standings -/
def stand (id : Str) (i f d c : List Str) : Int := if id ∈ i then 1 else if id ∈ f then 2 else if id ∈ d then 3 else if id ∈ c then 4 else 0
theorem stand_zero {id : Str} {i f d c : List Str} : stand id i f d c = 0 ↔ id ∉ i ∧ id ∉ f ∧ id ∉ d ∧ id ∉ c := by
  unfold stand
  by_cases h1 : id ∈ i <;> by_cases h2 : id ∈ f <;> by_cases h3 : id ∈ d <;> by_cases h4 : id ∈ c <;> simp [h1, h2, h3, h4]
theorem stand_bd (id : Str) (i f d c : List Str) : 0 ≤ stand id i f d c ∧ stand id i f d c ≤ 4 := by
  unfold stand
  split
  · omega
  · split
    · omega
    · split
      · omega
      · split <;> omega

/-- What the pairs give id: the last wins; 0 where none names it. -/
def heldF (id : Str) (ps : List (Str × Int)) : Int := ps.foldl (fun acc p => if p.1 = id then p.2 else acc) 0
theorem heldF_snoc (id : Str) (ps : List (Str × Int)) (p : Str × Int) : heldF id (ps ++ [p]) = if p.1 = id then p.2 else heldF id ps := by
  simp [heldF]
theorem heldF_none {id : Str} : ∀ (ps : List (Str × Int)), (∀ p ∈ ps, p.1 ≠ id) → heldF id ps = 0 := by
  intro ps h
  unfold heldF
  suffices ∀ acc : Int, ps.foldl (fun acc p => if p.1 = id then p.2 else acc) acc = acc from this 0
  intro acc
  induction ps generalizing acc with
  | nil => rfl
  | cons p ps ih =>
    rw [List.foldl_cons, if_neg (h p (by simp))]
    exact ih (fun q hq => h q (by simp [hq])) acc
theorem heldF_append (id : Str) (ps qs : List (Str × Int)) (h : ∀ p ∈ qs, p.1 ≠ id) : heldF id (ps ++ qs) = heldF id ps := by
  unfold heldF
  rw [List.foldl_append]
  generalize ps.foldl (fun acc p => if p.1 = id then p.2 else acc) 0 = acc
  induction qs generalizing acc with
  | nil => rfl
  | cons p qs ih =>
    rw [List.foldl_cons, if_neg (h p (by simp))]
    exact ih (fun q hq => h q (by simp [hq])) acc
/-- At the last place that names it. -/
theorem heldF_hit {id : Str} {ps : List (Str × Int)} {i : Nat} (hi : i < ps.length) (he : ps[i].1 = id) (hl : ∀ j (h : j < ps.length), i < j → ps[j].1 ≠ id) : heldF id ps = ps[i].2 := by
  have e : heldF id ps = heldF id (ps.take (i + 1) ++ ps.drop (i + 1)) := by rw [List.take_append_drop]
  rw [e, heldF_append, take_succ ps i hi, heldF_snoc, if_pos he]
  · intro p hp
    obtain ⟨j, hj, rfl⟩ := List.mem_iff_getElem.1 hp
    rw [List.getElem_drop]
    exact hl _ _ (by omega)

end Go.Proofs.Qxb6003793a.Pl
