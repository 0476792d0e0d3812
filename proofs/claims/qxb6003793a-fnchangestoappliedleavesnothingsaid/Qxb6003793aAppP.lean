import Derived.Test.Qxb6003793aChgP
namespace Go.Proofs.Qxb6003793a.Pl
open Go

/-- The pairs that the changes lay upon held. -/
def laidOn (ps : List (Str × Int)) (cs : List (Str × Int × Int)) : List (Str × Int) := ps ++ cs.map (fun c => (c.1, c.2.2))
theorem laidOn_nil (ps : List (Str × Int)) : laidOn ps [] = ps := by simp [laidOn]
theorem laidOn_snoc (ps : List (Str × Int)) (cs : List (Str × Int × Int)) (c : Str × Int × Int) : laidOn ps (cs ++ [c]) = laidOn ps cs ++ [(c.1, c.2.2)] := by simp [laidOn]

theorem mem_chgs {h st : Str → Int} {us : List Str} {c : Str × Int × Int} : c ∈ chgs h st us ↔ c.1 ∈ us ∧ h c.1 ≠ st c.1 ∧ c.2.1 = h c.1 ∧ c.2.2 = st c.1 := by
  obtain ⟨x, f, t⟩ := c
  simp only [chgs, List.mem_filterMap, chgOf]
  constructor
  · rintro ⟨y, hy, e⟩
    split at e
    · cases e
    · rename_i hne
      simp only [Option.some.injEq, Prod.mk.injEq] at e
      obtain ⟨rfl, rfl, rfl⟩ := e
      exact ⟨hy, hne, rfl, rfl⟩
  · rintro ⟨h1, h2, rfl, rfl⟩
    exact ⟨x, h1, by rw [if_neg h2]⟩

theorem heldF_all {id : Str} {v : Int} : ∀ (qs ps : List (Str × Int)), (∃ p ∈ qs, p.1 = id) → (∀ p ∈ qs, p.1 = id → p.2 = v) → heldF id (ps ++ qs) = v := by
  intro qs ps hex hall
  unfold heldF
  rw [List.foldl_append]
  generalize ps.foldl (fun acc p => if p.1 = id then p.2 else acc) 0 = acc
  induction qs generalizing acc with
  | nil => obtain ⟨p, hp, _⟩ := hex; cases hp
  | cons q qs ih =>
    rw [List.foldl_cons]
    by_cases h2 : ∃ p ∈ qs, p.1 = id
    · exact ih h2 (fun p hp => hall p (by simp [hp])) _
    · have hq : q.1 = id := by
        obtain ⟨p, hp, he⟩ := hex
        rcases List.mem_cons.1 hp with rfl | h
        · exact he
        · exact absurd ⟨p, h, he⟩ h2
      rw [if_pos hq, hall q (by simp) hq]
      have : ∀ (qs : List (Str × Int)) (acc : Int), (∀ p ∈ qs, p.1 ≠ id) → qs.foldl (fun acc p => if p.1 = id then p.2 else acc) acc = acc := by
        intro qs
        induction qs with
        | nil => intro acc _; rfl
        | cons r rs ih2 =>
          intro acc hn
          rw [List.foldl_cons, if_neg (hn r (by simp))]
          exact ih2 acc (fun p hp => hn p (by simp [hp]))
      exact this qs v (fun p hp e => h2 ⟨p, hp, e⟩)

/-- Held with the changes laid upon it gives each id what the view gives it. -/
theorem laid_eq {ps : List (Str × Int)} {st : Str → Int} {us : List Str} {x : Str} (hx : x ∈ us) : heldF x (laidOn ps (chgs (fun x => heldF x ps) st us)) = st x := by
  by_cases e : heldF x ps = st x
  · unfold laidOn
    rw [heldF_append, e]
    intro p hp he
    obtain ⟨c, hc, rfl⟩ := List.mem_map.1 hp
    have := mem_chgs.1 hc
    simp only at he
    rw [he] at this
    exact this.2.1 e
  · refine heldF_all _ _ ?_ ?_
    · refine ⟨(x, st x), List.mem_map.2 ⟨(x, heldF x ps, st x), mem_chgs.2 ⟨hx, e, rfl, rfl⟩, rfl⟩, rfl⟩
    · intro p hp he
      obtain ⟨c, hc, rfl⟩ := List.mem_map.1 hp
      have := mem_chgs.1 hc
      simp only at he ⊢
      rw [this.2.2.2, he]
theorem laid_keys {ps : List (Str × Int)} {cs : List (Str × Int × Int)} {x : Str} : x ∈ (laidOn ps cs).map (·.1) ↔ x ∈ ps.map (·.1) ∨ x ∈ cs.map (·.1) := by
  simp [laidOn, List.map_append, Function.comp_def]

theorem chgs_none {h st : Str → Int} {us : List Str} (he : ∀ x ∈ us, h x = st x) : chgs h st us = [] := by
  unfold chgs
  rw [List.filterMap_eq_nil_iff]
  intro x hx
  simp [chgOf, he x hx]

/-- The subjects come in strictly ascending order. -/
theorem chgs_up {h st : Str → Int} {us : List Str} (hp : us.Pairwise (· < ·)) : ((chgs h st us).map (·.1)).Pairwise (· < ·) := by
  have : ((chgs h st us).map (·.1)).Sublist us := by
    unfold chgs
    induction us with
    | nil => simp
    | cons x us ih =>
      have ih' := ih (List.Pairwise.of_cons hp)
      rw [List.filterMap_cons]
      by_cases e : h x = st x
      · simp only [chgOf, e, if_true]
        exact List.Sublist.cons _ ih'
      · simp only [chgOf, e, if_false, List.map_cons]
        exact List.Sublist.cons_cons _ ih'
  exact hp.sublist this

end Go.Proofs.Qxb6003793a.Pl
