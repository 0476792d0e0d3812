import Derived.Test.Qxb6003800aTrimWalks
namespace Go.Proofs.Qxb6003800a
open Go.ChangeShapes Go.WideShapes Go.ChangeAt Go.RowKit
open Plain

theorem zztrimmed_is (u s t r : Int) (h : trim u s = (t, r)) (w : World) (hs : s ≤ 65536) (hu : -9223372036854775808 ≤ u) (hu' : u ≤ 9223372036854775807) (hs0 : -9223372036854775808 ≤ s) :
    Calls Try.prog 17 #[.int .i64 u, .int .i64 s] w fun e w' => e = .returned (.tuple #[.int .i64 t, .int .i64 r]) ∧ Below w.heap.size w w' := by
  have := zztrimmed_any u s w hs hu hu' hs0
  rw [h] at this
  exact this

set_option maxHeartbeats 400000 in
theorem trimLaw_neg (u s : Int) (w : World) (hs : s ≤ 0) (hu : -9223372036854775808 ≤ u) (hu' : u ≤ 9223372036854775807) (hs0 : -9223372036854775808 ≤ s) :
    Calls Try.prog 6 #[.int .i64 u, .int .i64 s] w fun e w' => e = .returned (.bool true) ∧ Below w.heap.size w w' := by
  have hH : Hid (trim u s = (u, s)) := trim_stop (fun h => by omega)
  go_enter Try.func6, Try.ntmps6
  go_wp2_with (go_at_call 17; refine (zztrimmed_is _ _ _ _ hH.out _ (by omega) hu hu' hs0).mono ?_; rintro e w1 ⟨rfl, hb⟩)
  go_ret
  exact ⟨rfl, hb⟩

theorem trimLaw_big (u s : Int) (w : World) (hs : 65536 < s) :
    Calls Try.prog 6 #[.int .i64 u, .int .i64 s] w fun e w' => e = .returned (.bool true) ∧ Below w.heap.size w w' := by
  go_enter Try.func6, Try.ntmps6
  go_wp2_with fail
  go_ret
  exact ⟨rfl, Below.refl _ _⟩

set_option maxHeartbeats 400000 in
theorem trimLaw_mid (u s : Int) (w : World) (hs : 0 < s) (hs1 : s ≤ 65536) (hu : -9223372036854775808 ≤ u) (hu' : u ≤ 9223372036854775807) :
    Calls Try.prog 6 #[.int .i64 u, .int .i64 s] w fun e w' => e = .returned (.bool true) ∧ Below w.heap.size w w' := by
  obtain ⟨t, r, htr⟩ : ∃ t r, trim u s = (t, r) := ⟨_, _, rfl⟩
  obtain ⟨r0, r1, c, d, b⟩ := trim_spec u s (by omega)
  have ag := trim_again u s (by omega)
  rw [htr] at r0 r1 c d b ag
  have H1 : Hid (trim u s = (t, r)) := htr
  have H2 : Hid (trim t r = (t, r)) := ag
  have HD : Hid (u = t * 10 ^ (s - r).toNat) := d
  clear htr ag d
  simp only at r0 r1 c b
  have tb : -9223372036854775808 ≤ t ∧ t ≤ 9223372036854775807 := by
    have := pow_bd (i := 0) HD.out (Nat.zero_le _)
    simp only [Int.pow_zero, Int.mul_one] at this
    omega
  obtain ⟨tl, th⟩ := tb
  clear b
  have c' : ((r != 0) = true ∧ (t.tmod 10 == 0) = false) ∨ (r != 0) = false := by
    by_cases h : r = 0
    · exact .inr (by simpa using h)
    · exact .inl ⟨by simpa using h, by simpa using c h⟩
  clear c
  rcases c' with ⟨hr, hc⟩ | hr
  all_goals
    go_enter Try.func6, Try.ntmps6
    go_wp2_with (go_at_call 17; refine (zztrimmed_is _ _ _ _ H1.out _ (by omega) hu hu' (by omega)).mono ?_; rintro e w1 ⟨rfl, hb⟩)
    go_loop [7, 8] (fun v i => ∃ k : Nat, (k : Int) ≤ s - r ∧ i = .int .i64 k ∧ v = .int .i64 (t * 10 ^ k)) (fun _ i => (s - r).toNat - (intOf i).toNat)
    case atStart => exact ⟨0, by omega, rfl, by simp⟩
    case round =>
      obtain ⟨k, hk, rfl, rfl⟩ := hrel
      by_cases hlt : (k : Int) < s - r
      · have hx := pow_bd (i := k + 1) HD.out (by omega)
        have hy : Hid (t * 10 ^ (k + 1) = t * 10 ^ k * 10) := by rw [Hid, Int.pow_succ, Int.mul_assoc]
        rw [hy.out] at hx
        go_wp2
        go_round
        case rel => exact ⟨k + 1, by omega, by go_num, by rw [hy.out]⟩
        case measure => simp [intOf]; omega
      · have hx : (t * 10 ^ k != u) = false := by
          have : t * 10 ^ k = u := by rw [HD.out]; congr 2; omega
          simpa using this
        go_wp2_with (go_at_call 17; refine (zztrimmed_is _ _ _ _ H2.out _ (by omega) tl th (by omega)).mono ?_; rintro e w2 ⟨rfl, hb2⟩)
        go_ret
        exact ⟨rfl, hb.trans (hb2.mono hb.size)⟩

theorem trimLaw (u s : Int) (w : World) (hu : -9223372036854775808 ≤ u) (hu' : u ≤ 9223372036854775807) (hs0 : -9223372036854775808 ≤ s) :
    Calls Try.prog 6 #[.int .i64 u, .int .i64 s] w fun e w' => e = .returned (.bool true) ∧ Below w.heap.size w w' := by
  by_cases h1 : s ≤ 0
  · exact trimLaw_neg u s w h1 hu hu' hs0
  · by_cases h2 : s ≤ 65536
    · exact trimLaw_mid u s w (by omega) h2 hu hu'
    · exact trimLaw_big u s w (by omega)
end Go.Proofs.Qxb6003800a
