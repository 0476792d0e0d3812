import Derived.Test.Qxb6003800aSkipWraps
namespace Go.Proofs.Qxb6003800a
open Go.ChangeShapes Go.WideShapes Go.ChangeAt Go.RowKit
open Skip
set_option linter.unusedVariables false

theorem owsLaw_long (s : ByteArray) (p : Int) (w : World) (h : 1048576 < s.size) (hm : s.size ≤ 9223372036854775807) :
    Calls Try.prog 4 #[.string s, .int .i64 p] w fun e w' => e = .returned (.bool true) ∧ Below w.heap.size w w' := by
  go_enter Try.func4, Try.ntmps4
  go_wp2
  go_ret
  exact ⟨rfl, Below.refl _ _⟩
theorem owsLaw_out (s : ByteArray) (p : Int) (w : World) (h : s.size ≤ 1048576) (hp : p < 0 ∨ (s.size : Int) < p) :
    Calls Try.prog 4 #[.string s, .int .i64 p] w fun e w' => e = .returned (.bool true) ∧ Below w.heap.size w w' := by
  rcases hp with hp | hp
  · go_enter Try.func4, Try.ntmps4
    go_wp2
    go_ret
    exact ⟨rfl, Below.refl _ _⟩
  · have hp0 : 0 ≤ p := by omega
    go_enter Try.func4, Try.ntmps4
    go_wp2
    go_ret
    exact ⟨rfl, Below.refl _ _⟩

theorem isOWS_f {c : UInt8} (h : isOWS c = false) : ((c.toNat : Int) == 32) = false ∧ ((c.toNat : Int) == 9) = false ∧ isSP c = false := by
  unfold isOWS at h
  simp only [Bool.or_eq_false_iff, beq_eq_false_iff_ne] at h
  exact ⟨by simpa using mt is32_t.2 h.1, by simpa using mt is9_t.2 h.2, by simpa [isSP] using h.1⟩
theorem isOWS_t {c : UInt8} (h : isOWS c = true) : ((c.toNat : Int) != 32) = false ∨ (((c.toNat : Int) != 32) = true ∧ ((c.toNat : Int) != 9) = false) := by
  unfold isOWS at h
  simp only [Bool.or_eq_true, beq_iff_eq] at h
  by_cases h1 : c = 32
  · exact .inl (by subst h1; rfl)
  · rcases h with h | h
    · exact absurd h h1
    · exact .inr (by subst h; exact ⟨rfl, rfl⟩)

set_option maxHeartbeats 1000000 in
theorem owsLaw_in (s : ByteArray) (k : Nat) (w : World) (hs : s.size ≤ 1048576) (hk : k ≤ s.size) :
    Calls Try.prog 4 #[.string s, .int .i64 k] w fun e w' => e = .returned (.bool true) ∧ Below w.heap.size w w' := by
  obtain ⟨q1, q2, q3, q4⟩ := skip_spec isOWS s _ k hk rfl
  have hr : skip isSP s k ≤ skip isOWS s k := skip_mono (fun c h => by unfold isSP at h; unfold isOWS; rw [h]; rfl) s k
  have hqq : Hid (skip isOWS s (skip isOWS s k) = skip isOWS s k) := by
    by_cases h : skip isOWS s k < s.size
    · exact skip_stop h (q4 h)
    · exact skip_end (by omega)
  have hqw : Hid (skip isSP s (skip isOWS s k) = skip isOWS s k) := by
    by_cases h : skip isOWS s k < s.size
    · exact skip_stop h (isOWS_f (q4 h)).2.2
    · exact skip_end (by omega)
  generalize hq : skip isOWS s k = q at *
  generalize hq' : skip isSP s k = r at *
  have HQ : Hid (skip isOWS s k = q) := hq
  have HR : Hid (skip isSP s k = r) := hq'
  clear hq hq'
  have HD : Hid (∀ j (h : j < s.size), k ≤ j → j < q → ((s[j].toNat : Int) != 32) = false ∨ (((s[j].toNat : Int) != 32) = true ∧ ((s[j].toNat : Int) != 9) = false)) := fun j h h1 h2 => isOWS_t (q3 j h h1 h2)
  have HST : Hid (∀ (h : q < s.size), ((s[q].toNat : Int) == 32) = false ∧ ((s[q].toNat : Int) == 9) = false) := fun h => ⟨(isOWS_f (q4 h)).1, (isOWS_f (q4 h)).2.1⟩
  clear q3 q4
  go_enter Try.func4, Try.ntmps4
  go_wp2_with (first | (go_at_call 8; refine (zzParserAt _ _ _).mono ?_; rintro e w1 ⟨rfl, hA1, hg1⟩) | (go_at_call 13; go_in))
  refine (zzSkipOWS _ s k _ hA1 hk hs).mono ?_
  rintro e w2 ⟨rfl, hA2, hg2⟩
  rw [HQ.out] at hA2
  go_wp2_with (go_at_call 10; refine (zzPos _ s q _ hA2).mono ?_; rintro e w3 ⟨rfl, rfl⟩)
  go_loop [7] (fun i => ∃ j : Nat, k ≤ j ∧ j ≤ q ∧ i = .int .i64 j) (fun i => q - (intOf i).toNat)
  case atStart => exact ⟨k, Nat.le_refl _, q1, rfl⟩
  case round =>
    obtain ⟨j, hj1, hj2, rfl⟩ := hrel
    by_cases hlt : j < q
    · have hjs : j < s.size := by omega
      rcases HD.out j hjs hj1 hlt with d1 | ⟨d1, d2⟩
      all_goals
        go_wp2
        go_round
        case rel => exact ⟨j + 1, by omega, by omega, by go_num⟩
        case measure => simp [intOf]; omega
    · have hcs : (∃ hqs : q < s.size, ((s[q].toNat : Int) == 32) = false ∧ ((s[q].toNat : Int) == 9) = false) ∨ s.size ≤ q := by
        by_cases hqs : q < s.size
        · exact .inl ⟨hqs, HST.out hqs⟩
        · exact .inr (by omega)
      have hsz2 := hg1.size
      have hsz3 := hg2.size
      have hlt2 : w.heap.size < w3.heap.size := (Array.getElem?_eq_some_iff.1 hA2).1
      rcases hcs with ⟨hqs, hc, hc'⟩ | hqs
      all_goals
        go_wp2_with (go_at_call 8; refine (zzParserAt _ _ _).mono ?_; rintro e w4 ⟨rfl, hA4, hg4⟩)
        refine (zzSkipSP _ s k _ hA4 hk hs).mono ?_
        rintro e w5 ⟨rfl, hA5, hg5⟩
        rw [HR.out] at hA5
        have hP4 := hA2.kept hg4 (by simp)
        have hP5 := hP4.kept hg5 (by simp; omega)
        go_wp2_with (go_at_call 10; refine (zzPos _ s r _ hA5).mono ?_; rintro e w6 ⟨rfl, rfl⟩)
        refine (zzSkipSP _ s q _ hP5 q2 hs).mono ?_
        rintro e w7 ⟨rfl, hA7, hg7⟩
        rw [hqw.out] at hA7
        go_wp2_with (go_at_call 10; refine (zzPos _ s q _ hA7).mono ?_; rintro e w8 ⟨rfl, rfl⟩)
        refine (zzSkipOWS _ s q _ hA7 q2 hs).mono ?_
        rintro e w9 ⟨rfl, hA9, hg9⟩
        rw [hqq.out] at hA9
        go_wp2_with (go_at_call 10; refine (zzPos _ s q _ hA9).mono ?_; rintro e w10 ⟨rfl, rfl⟩)
        go_ret
        refine ⟨by simp, ?_⟩
        have b1 := below_none (Below.refl w.heap.size w) (Nat.le_refl _) hg1
        have b2 := below_some b1 hg1.size (Nat.le_refl _) hg2
        have b4 := below_none b2 (by omega) hg4
        have z4 := hg4.size
        have b5 := below_some b4 (by omega) (by omega) hg5
        have z5 := hg5.size
        have b7 := below_some b5 (by omega) (Nat.le_refl _) hg7
        have z7 := hg7.size
        exact below_some b7 (by omega) (Nat.le_refl _) hg9
theorem owsLaw (s : ByteArray) (p : Int) (w : World) (hm : s.size ≤ 9223372036854775807) :
    Calls Try.prog 4 #[.string s, .int .i64 p] w fun e w' => e = .returned (.bool true) ∧ Below w.heap.size w w' := by
  by_cases h : s.size ≤ 1048576
  · by_cases hp : p < 0 ∨ (s.size : Int) < p
    · exact owsLaw_out s p w h hp
    · obtain ⟨k, rfl⟩ : ∃ k : Nat, p = k := ⟨p.toNat, by omega⟩
      exact owsLaw_in s k w h (by omega)
  · exact owsLaw_long s p w (by omega) hm
end Go.Proofs.Qxb6003800a
