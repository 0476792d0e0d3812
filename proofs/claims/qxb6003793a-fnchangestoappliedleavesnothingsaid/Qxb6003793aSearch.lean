import Derived.Test.Qxb6003793aClone
namespace Go.Proofs.Qxb6003793a
open Go.ChangeShapes Go.WideShapes Go.ChangeAt Go.RowKit
open Pl
set_option linter.unusedVariables false

theorem less_any (x y : Str) (w : World) : Calls Try.prog 42 #[.string ⟨x.toArray⟩, .string ⟨y.toArray⟩] w fun e w' => e = .returned (.bool (Op.bytesLess x y)) ∧ w' = w := by
  go_enter Try.func42, Try.ntmps42
  go_wp2
  go_ret
  exact ⟨rfl, rfl⟩
theorem nan_any (x : Str) (w : World) : Calls Try.prog 43 #[.string ⟨x.toArray⟩] w fun e w' => e = .returned (.bool false) ∧ w' = w := by
  go_enter Try.func43, Try.ntmps43
  go_wp2
  go_ret
  exact ⟨rfl, rfl⟩

/-- How far the search has come. -/
structure Sought (ss : List Str) (t : Str) (i j : Nat) : Prop where
  ij : i ≤ j
  jn : j ≤ ss.length
  lo : ∀ k (h : k < ss.length), k < i → ss[k] < t
  hi : ∀ k (h : k < ss.length), j ≤ k → ¬ ss[k] < t
theorem Sought.left {ss : List Str} {t : Str} {i j h : Nat} (s : Sought ss t i j) (hp : ss.Pairwise (· < ·)) (h1 : i ≤ h) (h2 : h < j) (hh : h < ss.length) (hl : ss[h] < t) : Sought ss t (h + 1) j :=
  ⟨by omega, s.jn, fun k hk hkh => by
    by_cases e : k = h
    · subst e; exact hl
    · exact List.lt_trans (List.pairwise_iff_getElem.1 hp k h hk hh (by omega)) hl, s.hi⟩
theorem Sought.right {ss : List Str} {t : Str} {i j h : Nat} (s : Sought ss t i j) (hp : ss.Pairwise (· < ·)) (h1 : i ≤ h) (h2 : h < j) (hh : h < ss.length) (hl : ¬ ss[h] < t) : Sought ss t i h :=
  ⟨h1, by omega, s.lo, fun k hk hkh => by
    by_cases e : k = h
    · subst e; exact hl
    · exact fun hlt => hl (List.lt_trans (List.pairwise_iff_getElem.1 hp h k hh hk (by omega)) hlt)⟩
theorem Sought.miss {ss : List Str} {t : Str} {i : Nat} (s : Sought ss t i i) (hi : ss.length ≤ i) : t ∉ ss := by
  intro h
  obtain ⟨k, hk, rfl⟩ := List.mem_iff_getElem.1 h
  exact List.lt_irrefl _ (s.lo k hk (by omega))
theorem Sought.hit {ss : List Str} {t : Str} {i : Nat} (s : Sought ss t i i) (hp : ss.Pairwise (· < ·)) (hi : i < ss.length) : t ∈ ss ↔ ss[i] = t := by
  constructor
  · intro h
    obtain ⟨k, hk, rfl⟩ := List.mem_iff_getElem.1 h
    by_cases e : k = i
    · subst e; rfl
    · by_cases e2 : k < i
      · exact absurd (s.lo k hk e2) (List.lt_irrefl _)
      · exact absurd (List.pairwise_iff_getElem.1 hp i k hi hk (by omega)) (s.hi i hi (Nat.le_refl _))
  · rintro rfl
    exact List.getElem_mem hi

set_option maxHeartbeats 2000000 in
theorem search_any (a : Option Addr) (c : Nat) (ss : List Str) (t : Str) (B : Nat) (w : World) (hS : Strs w B a ss) (hn : ss.length ≤ 100000) (hp : ss.Pairwise (· < ·)) :
    Calls Try.prog 39 #[.slice a ss.length c, .string ⟨t.toArray⟩] w fun e w' => (∃ i, e = .returned (.tuple #[.int .i64 i, .bool (decide (t ∈ ss))])) ∧ w' = w := by
  have HP : Hid (ss.Pairwise (· < ·)) := hp
  clear hp
  go_enter Try.func39, Try.ntmps39
  go_wp2
  go_loop [7, 8] (fun iv jv => ∃ i j : Nat, iv = .int .i64 i ∧ jv = .int .i64 j ∧ Sought ss t i j) (fun iv jv => (intOf jv).toNat - (intOf iv).toNat)
  case atStart => exact ⟨0, ss.length, rfl, rfl, Nat.zero_le _, Nat.le_refl _, fun k h h' => by omega, fun k h h' => by omega⟩
  case round =>
    obtain ⟨i, j, rfl, rfl, hs⟩ := hrel
    have ij := hs.ij
    have jn := hs.jn
    have HS : Hid (Sought ss t i j) := hs
    clear hs
    by_cases hlt : i < j
    · have hh : (i + j) / 2 < ss.length := by omega
      obtain ⟨b, off, rfl, hb, hc⟩ := hS.at hh
      obtain ⟨x, hx⟩ : ∃ x, x = ss[(i + j) / 2] := ⟨_, rfl⟩
      rw [← hx] at hc
      have HX : Hid (x = ss[(i + j) / 2]) := hx
      clear hx hS
      cases hl : Op.bytesLess x t
      · have HN : Hid (¬ ss[(i + j) / 2] < t) := by rw [less_eq, HX.out] at hl; simpa [Hid] using hl
        go_wp2_with (go_at_call 42; refine (less_any _ _ _).mono ?_; rintro e w1 ⟨rfl, rfl⟩)
        go_round
        case rel => exact ⟨i, (i + j) / 2, rfl, by go_num, HS.out.right HP.out (by omega) (by omega) hh HN.out⟩
        case measure => simp [intOf]; omega
      · have HN : Hid (ss[(i + j) / 2] < t) := by rw [less_eq, HX.out] at hl; simpa [Hid] using hl
        go_wp2_with (go_at_call 42; refine (less_any _ _ _).mono ?_; rintro e w1 ⟨rfl, rfl⟩)
        go_round
        case rel => exact ⟨(i + j) / 2 + 1, j, by go_num, rfl, HS.out.left HP.out (by omega) (by omega) hh HN.out⟩
        case measure => simp [intOf]; omega
    · obtain rfl : i = j := by omega
      by_cases hin : i < ss.length
      · obtain ⟨b, off, rfl, hb, hc⟩ := hS.at hin
        obtain ⟨x, hx⟩ : ∃ x, x = ss[i] := ⟨_, rfl⟩
        rw [← hx] at hc
        have HX : Hid (x = ss[i]) := hx
        clear hx hS
        cases hl : (x == t)
        · have HN : Hid (decide (t ∈ ss) = false) := decide_eq_false (by rw [HS.out.hit HP.out hin, ← HX.out]; simpa using hl)
          go_wp2_with (go_at_call 43; refine (nan_any _ _).mono ?_; rintro e w1 ⟨rfl, rfl⟩)
          go_ret2
          exact ⟨⟨i, by rw [HN.out]; rfl⟩, rfl⟩
        · have HN : Hid (decide (t ∈ ss) = true) := decide_eq_true (by rw [HS.out.hit HP.out hin, ← HX.out]; simpa using hl)
          go_wp2_with fail
          go_ret2
          exact ⟨⟨i, by rw [HN.out]; rfl⟩, rfl⟩
      · have HN : Hid (decide (t ∈ ss) = false) := decide_eq_false (HS.out.miss (by omega))
        clear hS
        go_wp2_with fail
        go_ret2
        exact ⟨⟨i, by rw [HN.out]; rfl⟩, rfl⟩
end Go.Proofs.Qxb6003793a
