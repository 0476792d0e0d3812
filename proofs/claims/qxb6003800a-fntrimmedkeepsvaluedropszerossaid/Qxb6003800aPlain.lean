namespace Go.Proofs.Qxb6003800a.Plain

/-- What 'trimmed' does, with fuel. -/
def trimF : Nat → Int → Int → Int × Int
  | 0, u, s => (u, s)
  | f + 1, u, s => if 0 < s ∧ u.tmod 10 = 0 then trimF f (u.tdiv 10) (s - 1) else (u, s)
def trim (u s : Int) : Int × Int := trimF s.toNat u s

theorem trim_stop {u s : Int} (h : ¬ (0 < s ∧ u.tmod 10 = 0)) : trim u s = (u, s) := by
  unfold trim
  cases s.toNat with
  | zero => rfl
  | succ n => rw [trimF, if_neg h]
theorem trim_step {u s : Int} (h : 0 < s) (h' : u.tmod 10 = 0) : trim u s = trim (u.tdiv 10) (s - 1) := by
  unfold trim
  obtain ⟨n, hn⟩ : ∃ n, s.toNat = n + 1 := ⟨s.toNat - 1, by omega⟩
  have : (s - 1).toNat = n := by omega
  rw [hn, this, trimF, if_pos ⟨h, h'⟩]

theorem trimF_spec (f : Nat) : ∀ (u s : Int), 0 ≤ s → s.toNat ≤ f →
    0 ≤ (trimF f u s).2 ∧ (trimF f u s).2 ≤ s ∧ ((trimF f u s).2 ≠ 0 → (trimF f u s).1.tmod 10 ≠ 0) ∧
    u = (trimF f u s).1 * 10 ^ (s - (trimF f u s).2).toNat ∧ ((trimF f u s).1.natAbs ≤ u.natAbs) := by
  induction f with
  | zero =>
    intro u s h0 h1
    have : s = 0 := by omega
    subst this
    simp [trimF]
  | succ f ih =>
    intro u s h0 h1
    rw [trimF]
    by_cases h : 0 < s ∧ u.tmod 10 = 0
    · rw [if_pos h]
      obtain ⟨a, b, c, d, e⟩ := ih (u.tdiv 10) (s - 1) (by omega) (by omega)
      refine ⟨a, by omega, c, ?_, ?_⟩
      · have hu : u = u.tdiv 10 * 10 := by
          have := Int.mul_tdiv_add_tmod u 10
          rw [h.2] at this
          omega
        generalize (trimF f (u.tdiv 10) (s - 1)).1 = t at *
        generalize (trimF f (u.tdiv 10) (s - 1)).2 = r at *
        have he : (s - r).toNat = (s - 1 - r).toNat + 1 := by omega
        rw [he, Int.pow_succ, ← Int.mul_assoc, ← d]
        exact hu
      · refine Nat.le_trans e ?_
        rw [Int.natAbs_tdiv]
        exact Nat.div_le_self _ _
    · rw [if_neg h]
      refine ⟨h0, Int.le_refl _, fun hs hm => h ⟨by simp at hs; omega, hm⟩, by simp, Nat.le_refl _⟩

theorem trim_spec (u s : Int) (h : 0 ≤ s) : 0 ≤ (trim u s).2 ∧ (trim u s).2 ≤ s ∧ ((trim u s).2 ≠ 0 → (trim u s).1.tmod 10 ≠ 0) ∧
    u = (trim u s).1 * 10 ^ (s - (trim u s).2).toNat ∧ (trim u s).1.natAbs ≤ u.natAbs := trimF_spec _ _ _ h (Nat.le_refl _)

theorem trim_again (u s : Int) (h : 0 ≤ s) : trim (trim u s).1 (trim u s).2 = trim u s := by
  obtain ⟨a, b, c, _⟩ := trim_spec u s h
  rw [trim_stop]
  rintro ⟨p, q⟩
  exact c (by omega) q

theorem tdiv10_bd (u : Int) : (0 ≤ u → 0 ≤ u.tdiv 10 ∧ u.tdiv 10 ≤ u) ∧ (u ≤ 0 → u ≤ u.tdiv 10 ∧ u.tdiv 10 ≤ 0) := by
  have e := Int.mul_tdiv_add_tmod u 10
  constructor
  · intro h
    have := Int.tmod_nonneg 10 h
    have := Int.tmod_lt_of_pos u (b := 10) (by omega)
    omega
  · intro h
    have := Int.tmod_nonneg 10 (show 0 ≤ -u by omega)
    have := Int.tmod_lt_of_pos (-u) (b := 10) (by omega)
    rw [Int.neg_tmod] at *
    omega

theorem mul_pos_bd (x p : Int) (hp : 1 ≤ p) : (0 ≤ x → x ≤ x * p) ∧ (x ≤ 0 → x * p ≤ x) := by
  constructor
  · intro h
    have := Int.mul_le_mul_of_nonneg_left hp h
    omega
  · intro h
    have := Int.mul_le_mul_of_nonneg_left hp (show 0 ≤ -x by omega)
    rw [Int.neg_mul, Int.neg_mul] at this
    omega

/-- Of a number u that is t * 10 ^ k every t * 10 ^ i, i at most k, lies between 0 and u. -/
theorem pow_bd {u t : Int} {i k : Nat} (hu : u = t * 10 ^ k) (h : i ≤ k) : (0 ≤ u → 0 ≤ t * 10 ^ i ∧ t * 10 ^ i ≤ u) ∧ (u ≤ 0 → u ≤ t * 10 ^ i ∧ t * 10 ^ i ≤ 0) := by
  obtain ⟨m, rfl⟩ : ∃ m, k = i + m := ⟨k - i, by omega⟩
  rw [Int.pow_add, ← Int.mul_assoc] at hu
  have hp : (1 : Int) ≤ 10 ^ m := by
    have : (0 : Int) < 10 ^ m := Int.pow_pos (by decide)
    omega
  have := mul_pos_bd (t * 10 ^ i) (10 ^ m) hp
  generalize t * 10 ^ i = x at *
  rw [← hu] at this
  by_cases hx : 0 ≤ x
  · have h1 := this.1 hx
    refine ⟨fun _ => ⟨hx, h1⟩, fun h0 => ?_⟩
    omega
  · have h1 := this.2 (by omega)
    refine ⟨fun h0 => ?_, fun _ => ⟨h1, by omega⟩⟩
    omega

end Go.Proofs.Qxb6003800a.Plain
