import Derived.Test.Qxb6003800aSkipWraps
namespace Go.Proofs.Qxb6003800a
open Go.ChangeShapes Go.WideShapes Go.ChangeAt Go.RowKit
open Skip
set_option linter.unusedVariables false

theorem digLaw_long (s : ByteArray) (p : Int) (w : World) (h : 1048576 < s.size) (hm : s.size ≤ 9223372036854775807) :
    Calls Try.prog 5 #[.string s, .int .i64 p] w fun e w' => e = .returned (.bool true) ∧ Below w.heap.size w w' := by
  go_enter Try.func5, Try.ntmps5
  go_wp2
  go_ret
  exact ⟨rfl, Below.refl _ _⟩
theorem digLaw_out (s : ByteArray) (p : Int) (w : World) (h : s.size ≤ 1048576) (hp : p < 0 ∨ (s.size : Int) < p) :
    Calls Try.prog 5 #[.string s, .int .i64 p] w fun e w' => e = .returned (.bool true) ∧ Below w.heap.size w w' := by
  rcases hp with hp | hp
  · go_enter Try.func5, Try.ntmps5
    go_wp2
    go_ret
    exact ⟨rfl, Below.refl _ _⟩
  · have hp0 : 0 ≤ p := by omega
    go_enter Try.func5, Try.ntmps5
    go_wp2
    go_ret
    exact ⟨rfl, Below.refl _ _⟩

set_option maxHeartbeats 1000000 in
theorem digLaw_in (s : ByteArray) (k : Nat) (w : World) (hs : s.size ≤ 1048576) (hk : k ≤ s.size) :
    Calls Try.prog 5 #[.string s, .int .i64 k] w fun e w' => e = .returned (.bool true) ∧ Below w.heap.size w w' := by
  obtain ⟨q1, q2, q3, q4⟩ := skip_spec isDig s _ k hk rfl
  have hq0 : Hid (skip isDig (s.extract k s.size) 0 + k = skip isDig s k) := skip_extract isDig s k
  have hqq : Hid (skip isDig s (skip isDig s k) = skip isDig s k) := by
    by_cases h : skip isDig s k < s.size
    · exact skip_stop h (q4 h)
    · exact skip_end (by omega)
  generalize hq : skip isDig s k = q at *
  have HQ : Hid (skip isDig s k = q) := hq
  have he : (s.extract k s.size).size = s.size - k := by simp
  have HE : Hid ((s.extract k s.size).size = s.size - k) := he
  clear hq he
  have hd : ∀ j (h : j < s.size), k ≤ j → j < q → 48 ≤ (s[j].toNat : Int) ∧ (s[j].toNat : Int) ≤ 57 := fun j h h1 h2 => isDig_t (q3 j h h1 h2)
  have hst : ∀ (h : q < s.size), (s[q].toNat : Int) < 48 ∨ 57 < (s[q].toNat : Int) := fun h => isDig_f (by rw [q4 h]; simp)
  have HD := show Hid _ from hd
  have HST := show Hid _ from hst
  clear hd hst q3 q4
  go_enter Try.func5, Try.ntmps5
  go_wp2_with (first | (go_at_call 8; refine (zzParserAt _ _ _).mono ?_; rintro e w1 ⟨rfl, hA1, hg1⟩) | (go_at_call 15; go_in))
  refine (zzSkipDigits _ s k _ hA1 hk hs).mono ?_
  rintro e w2 ⟨rfl, hA2, hg2⟩
  rw [HQ.out] at hA2
  go_wp2_with (go_at_call 10; refine (zzPos _ s q _ hA2).mono ?_; rintro e w3 ⟨rfl, rfl⟩)
  go_loop [7] (fun i => ∃ j : Nat, k ≤ j ∧ j ≤ q ∧ i = .int .i64 j) (fun i => q - (intOf i).toNat)
  case atStart => exact ⟨k, Nat.le_refl _, q1, rfl⟩
  case round =>
    obtain ⟨j, hj1, hj2, rfl⟩ := hrel
    by_cases hlt : j < q
    · have hjs : j < s.size := by omega
      obtain ⟨d1, d2⟩ := HD.out j hjs hj1 hlt
      go_wp2
      go_round
      case rel => exact ⟨j + 1, by omega, by omega, by go_num⟩
      case measure => simp [intOf]; omega
    · have hcs : (∃ hqs : q < s.size, (s[q].toNat : Int) < 48) ∨ (∃ hqs : q < s.size, 57 < (s[q].toNat : Int)) ∨ s.size ≤ q := by
        by_cases hqs : q < s.size
        · exact (HST.out hqs).elim (fun h => .inl ⟨hqs, h⟩) (fun h => .inr (.inl ⟨hqs, h⟩))
        · exact .inr (.inr (by omega))
      have hsz2 := hg1.size
      have hsz3 := hg2.size
      rcases hcs with ⟨hqs, hc⟩ | ⟨hqs, hc⟩ | hqs
      all_goals
        go_wp2_with (go_at_call 16; refine (zzSkipDigits _ s q _ hA2 q2 hs).mono ?_; rintro e w4 ⟨rfl, hA4, hg4⟩; rw [hqq.out] at hA4)
        refine (zzPos _ s q _ hA4).mono ?_
        rintro e w5 ⟨rfl, rfl⟩
        go_wp2_with (go_at_call 8; refine (zzParserAt _ 0 _).mono ?_; rintro e w6 ⟨rfl, hA6, hg6⟩)
        refine (zzSkipDigits _ _ 0 _ hA6 (Nat.zero_le _) (by rw [HE.out]; omega)).mono ?_
        rintro e w7 ⟨rfl, hA7, hg7⟩
        obtain ⟨r, hr⟩ : ∃ r, r = skip isDig (s.extract k s.size) 0 := ⟨_, rfl⟩
        rw [← hr] at hA7
        have hrk : r + k = q := by rw [hr]; exact hq0.out
        clear hr
        have hrb : ((r : Int) == (q : Int) - (k : Int)) = true := by simp; omega
        clear hrk
        go_wp2_with (go_at_call 10; refine (zzPos _ _ r _ hA7).mono ?_; rintro e w8 ⟨rfl, rfl⟩)
        go_ret
        refine ⟨rfl, ?_⟩
        have b1 := below_none (Below.refl w.heap.size w) (Nat.le_refl _) hg1
        have b2 := below_some b1 hg1.size (Nat.le_refl _) hg2
        have b4 := below_some b2 (by omega) (Nat.le_refl _) hg4
        have z4 := hg4.size
        have z6 := hg6.size
        have b6 := below_none b4 (by omega) hg6
        exact below_some b6 (by omega) (by omega) hg7
theorem digLaw (s : ByteArray) (p : Int) (w : World) (hm : s.size ≤ 9223372036854775807) :
    Calls Try.prog 5 #[.string s, .int .i64 p] w fun e w' => e = .returned (.bool true) ∧ Below w.heap.size w w' := by
  by_cases h : s.size ≤ 1048576
  · by_cases hp : p < 0 ∨ (s.size : Int) < p
    · exact digLaw_out s p w h hp
    · obtain ⟨k, rfl⟩ : ∃ k : Nat, p = k := ⟨p.toNat, by omega⟩
      exact digLaw_in s k w h (by omega)
  · exact digLaw_long s p w (by omega) hm
end Go.Proofs.Qxb6003800a
