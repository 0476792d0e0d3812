import Derived.Test.Qxb6003800aSkipWraps
namespace Go.Proofs.Qxb6003800a
open Go.ChangeShapes Go.WideShapes Go.ChangeAt Go.RowKit
open Skip
set_option linter.unusedVariables false

theorem spLaw_long (s : ByteArray) (p : Int) (w : World) (h : 1048576 < s.size) (hm : s.size ≤ 9223372036854775807) :
    Calls Try.prog 3 #[.string s, .int .i64 p] w fun e w' => e = .returned (.bool true) ∧ Below w.heap.size w w' := by
  go_enter Try.func3, Try.ntmps3
  go_wp2
  go_ret
  exact ⟨rfl, Below.refl _ _⟩
theorem spLaw_out (s : ByteArray) (p : Int) (w : World) (h : s.size ≤ 1048576) (hp : p < 0 ∨ (s.size : Int) < p) :
    Calls Try.prog 3 #[.string s, .int .i64 p] w fun e w' => e = .returned (.bool true) ∧ Below w.heap.size w w' := by
  rcases hp with hp | hp
  · go_enter Try.func3, Try.ntmps3
    go_wp2
    go_ret
    exact ⟨rfl, Below.refl _ _⟩
  · have hp0 : 0 ≤ p := by omega
    go_enter Try.func3, Try.ntmps3
    go_wp2
    go_ret
    exact ⟨rfl, Below.refl _ _⟩

theorem isSP_f {c : UInt8} (h : isSP c = false) : ((c.toNat : Int) == 32) = false := by
  cases hb : ((c.toNat : Int) == 32)
  · rfl
  · rw [isSP_t.2 hb] at h; cases h
theorem isSP_n {c : UInt8} (h : isSP c = true) : ((c.toNat : Int) != 32) = false := by
  have := isSP_t.1 h
  simp only [bne, this]
  rfl

set_option maxHeartbeats 1000000 in
theorem spLaw_in (s : ByteArray) (k : Nat) (w : World) (hs : s.size ≤ 1048576) (hk : k ≤ s.size) :
    Calls Try.prog 3 #[.string s, .int .i64 k] w fun e w' => e = .returned (.bool true) ∧ Below w.heap.size w w' := by
  obtain ⟨q1, q2, q3, q4⟩ := skip_spec isSP s _ k hk rfl
  have hq0 : Hid (skip isSP (s.extract k s.size) 0 + k = skip isSP s k) := skip_extract isSP s k
  have hqq : Hid (skip isSP s (skip isSP s k) = skip isSP s k) := by
    by_cases h : skip isSP s k < s.size
    · exact skip_stop h (q4 h)
    · exact skip_end (by omega)
  generalize hq : skip isSP s k = q at *
  have HQ : Hid (skip isSP s k = q) := hq
  have he : (s.extract k s.size).size = s.size - k := by simp
  have HE : Hid ((s.extract k s.size).size = s.size - k) := he
  clear hq he
  have HD : Hid (∀ j (h : j < s.size), k ≤ j → j < q → ((s[j].toNat : Int) != 32) = false) := fun j h h1 h2 => isSP_n (q3 j h h1 h2)
  have HST : Hid (∀ (h : q < s.size), ((s[q].toNat : Int) == 32) = false) := fun h => isSP_f (q4 h)
  clear q3 q4
  go_enter Try.func3, Try.ntmps3
  go_wp2_with (first | (go_at_call 8; refine (zzParserAt _ _ _).mono ?_; rintro e w1 ⟨rfl, hA1, hg1⟩) | (go_at_call 7; go_in))
  refine (zzSkipSP _ s k _ hA1 hk hs).mono ?_
  rintro e w2 ⟨rfl, hA2, hg2⟩
  rw [HQ.out] at hA2
  go_wp2_with (go_at_call 10; refine (zzPos _ s q _ hA2).mono ?_; rintro e w3 ⟨rfl, rfl⟩)
  go_loop [7] (fun i => ∃ j : Nat, k ≤ j ∧ j ≤ q ∧ i = .int .i64 j) (fun i => q - (intOf i).toNat)
  case atStart => exact ⟨k, Nat.le_refl _, q1, rfl⟩
  case round =>
    obtain ⟨j, hj1, hj2, rfl⟩ := hrel
    have hsz2 := hg1.size
    have hsz3 := hg2.size
    by_cases hlt : j < q
    · have hjs : j < s.size := by omega
      have d1 := HD.out j hjs hj1 hlt
      go_wp2
      go_round
      case rel => exact ⟨j + 1, by omega, by omega, by go_num⟩
      case measure => simp [intOf]; omega
    · by_cases hqs : q < s.size
      · have hc := HST.out hqs
        have hqi : (q : Int) < (s.size : Int) := by omega
        go_wp2_with fail
        go_quiet ((go_at_call 11; exact Calls.quiet_of (zzPeek_in _ s q _ (hA2.drewN _) hqs hs)))
        go_wp2_with fail
        have hB := hA2.drewN nq
        refine (zzSkipSP _ s q _ hB q2 hs).mono ?_
        rintro e w4 ⟨rfl, hA4, hg4⟩
        rw [hqq.out] at hA4
        go_wp2_with (go_at_call 10; refine (zzPos _ s q _ hA4).mono ?_; rintro e w5 ⟨rfl, rfl⟩)
        refine (zzNewParser _ _ (by rw [HE.out]; omega)).mono ?_
        rintro e w6 ⟨rfl, hA6, hg6⟩
        obtain ⟨r, hr⟩ : ∃ r, r = skip isSP (s.extract k s.size) 0 := ⟨_, rfl⟩
        rw [← hr] at hA6
        have hrk : r + k = q := by rw [hr]; exact hq0.out
        clear hr
        have hrb : ((r : Int) == (q : Int) - (k : Int)) = true := by simp; omega
        clear hrk
        go_wp2_with (go_at_call 10; refine (zzPos _ _ r _ hA6).mono ?_; rintro e w7 ⟨rfl, rfl⟩)
        go_ret
        refine ⟨rfl, ?_⟩
        have b1 := below_none (Below.refl w.heap.size w) (Nat.le_refl _) hg1
        have b2 := below_some b1 hg1.size (Nat.le_refl _) hg2
        have b3 := below_none b2 (by omega) (grown_drewN _ nq _)
        have z3 : w.heap.size ≤ (w3.drewN nq).heap.size := by show w.heap.size ≤ w3.heap.size; omega
        have b4 := below_some b3 z3 (Nat.le_refl _) hg4
        have z4 := hg4.size
        exact below_none b4 (by omega) hg6
      · have hqe : Hid (q = s.size) := by unfold Hid; omega
        go_wp2_with (go_at_call 11; refine (zzPeek_end _ s _ (hqe.out ▸ hA2) hs).mono ?_; rintro e w4 ⟨rfl, n, rfl⟩)
        have hB := hA2.drewN n
        refine (zzSkipSP _ s q _ hB q2 hs).mono ?_
        rintro e w4 ⟨rfl, hA4, hg4⟩
        rw [hqq.out] at hA4
        go_wp2_with (go_at_call 10; refine (zzPos _ s q _ hA4).mono ?_; rintro e w5 ⟨rfl, rfl⟩)
        refine (zzNewParser _ _ (by rw [HE.out]; omega)).mono ?_
        rintro e w6 ⟨rfl, hA6, hg6⟩
        obtain ⟨r, hr⟩ : ∃ r, r = skip isSP (s.extract k s.size) 0 := ⟨_, rfl⟩
        rw [← hr] at hA6
        have hrk : r + k = q := by rw [hr]; exact hq0.out
        clear hr
        have hrb : ((r : Int) == (q : Int) - (k : Int)) = true := by simp; omega
        clear hrk
        go_wp2_with (go_at_call 10; refine (zzPos _ _ r _ hA6).mono ?_; rintro e w7 ⟨rfl, rfl⟩)
        go_ret
        refine ⟨rfl, ?_⟩
        have b1 := below_none (Below.refl w.heap.size w) (Nat.le_refl _) hg1
        have b2 := below_some b1 hg1.size (Nat.le_refl _) hg2
        have b3 := below_none b2 (by omega) (grown_drewN _ n _)
        have z3 : w.heap.size ≤ (w3.drewN n).heap.size := by show w.heap.size ≤ w3.heap.size; omega
        have b4 := below_some b3 z3 (Nat.le_refl _) hg4
        have z4 := hg4.size
        exact below_none b4 (by omega) hg6
theorem spLaw (s : ByteArray) (p : Int) (w : World) (hm : s.size ≤ 9223372036854775807) :
    Calls Try.prog 3 #[.string s, .int .i64 p] w fun e w' => e = .returned (.bool true) ∧ Below w.heap.size w w' := by
  by_cases h : s.size ≤ 1048576
  · by_cases hp : p < 0 ∨ (s.size : Int) < p
    · exact spLaw_out s p w h hp
    · obtain ⟨k, rfl⟩ : ∃ k : Nat, p = k := ⟨p.toNat, by omega⟩
      exact spLaw_in s k w h (by omega)
  · exact spLaw_long s p w (by omega) hm
end Go.Proofs.Qxb6003800a
