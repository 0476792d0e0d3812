import Derived.Lib.Strings
namespace Go.Proofs.Qxb6003800a.Skip

/-- Where a parser stands that goes from k over the bytes that p holds of. -/
def skip (p : UInt8 → Bool) (s : ByteArray) (k : Nat) : Nat := k + ((s.data.toList.drop k).takeWhile p).length

theorem drop_cons (s : ByteArray) (k : Nat) (h : k < s.size) : s.data.toList.drop k = s[k] :: s.data.toList.drop (k + 1) := by
  rw [List.drop_eq_getElem_cons (by simpa using h)]
  rfl

theorem skip_step {p : UInt8 → Bool} {s : ByteArray} {k : Nat} (h : k < s.size) (hp : p s[k] = true) : skip p s (k + 1) = skip p s k := by
  unfold skip
  rw [drop_cons s k h, List.takeWhile_cons, if_pos hp]
  simp
  omega

theorem skip_stop {p : UInt8 → Bool} {s : ByteArray} {k : Nat} (h : k < s.size) (hp : p s[k] = false) : skip p s k = k := by
  unfold skip
  rw [drop_cons s k h, List.takeWhile_cons, if_neg (by simp [hp])]
  rfl

theorem skip_end {p : UInt8 → Bool} {s : ByteArray} {k : Nat} (h : s.size ≤ k) : skip p s k = k := by
  unfold skip
  rw [List.drop_eq_nil_of_le (by simpa using h)]
  rfl

/-- All that the laws ask of it. -/
theorem skip_spec (p : UInt8 → Bool) (s : ByteArray) (n : Nat) : ∀ k, k ≤ s.size → s.size - k = n →
    k ≤ skip p s k ∧ skip p s k ≤ s.size ∧ (∀ i (h : i < s.size), k ≤ i → i < skip p s k → p s[i] = true) ∧ (∀ h : skip p s k < s.size, p s[skip p s k] = false) := by
  induction n with
  | zero =>
    intro k hk hn
    have : skip p s k = k := skip_end (by omega)
    rw [this]
    exact ⟨Nat.le_refl _, hk, fun i h h1 h2 => by omega, fun h => by omega⟩
  | succ n ih =>
    intro k hk hn
    have hlt : k < s.size := by omega
    by_cases hp : p s[k] = true
    · have e := skip_step hlt hp
      obtain ⟨a, b, c, d⟩ := ih (k + 1) (by omega) (by omega)
      rw [e] at a b c
      refine ⟨by omega, b, fun i h h1 h2 => ?_, ?_⟩
      · by_cases hi : i = k
        · subst hi; exact hp
        · exact c i h (by omega) h2
      · rw [← e]; exact d
    · have hp' : p s[k] = false := by simpa using hp
      have e : skip p s k = k := skip_stop hlt hp'
      refine ⟨by omega, by omega, fun i h h1 h2 => by omega, ?_⟩
      rw [e]
      exact fun _ => hp'

theorem skip_mono {p q : UInt8 → Bool} (h : ∀ c, p c = true → q c = true) (s : ByteArray) (k : Nat) : skip p s k ≤ skip q s k := by
  unfold skip
  generalize s.data.toList.drop k = l
  have : (l.takeWhile p).length ≤ (l.takeWhile q).length := by
    induction l with
    | nil => simp
    | cons c l ih =>
      simp only [List.takeWhile_cons]
      by_cases hp : p c = true
      · rw [if_pos hp, if_pos (h c hp)]
        simpa using ih
      · rw [if_neg hp]
        simp
  omega

theorem extract_list (s : ByteArray) (k : Nat) : (s.extract k s.size).data.toList = s.data.toList.drop k := by
  rw [Lib.extract_data, List.take_of_length_le]
  rw [List.length_drop, Array.length_toList]
  exact Nat.le_refl _

theorem skip_extract (p : UInt8 → Bool) (s : ByteArray) (k : Nat) : skip p (s.extract k s.size) 0 + k = skip p s k := by
  unfold skip
  rw [extract_list s k]
  simp
  omega

end Go.Proofs.Qxb6003800a.Skip
