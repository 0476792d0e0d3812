import Derived.Test.Qxb6003793aStrs
namespace Go.Proofs.Qxb6003793a
open Go.ChangeShapes Go.WideShapes Go.ChangeAt Go.RowKit
open Pl
set_option linter.unusedVariables false

set_option maxRecDepth 100000 in
set_option maxHeartbeats 4000000 in
theorem checkB_any (a0 a1 a2 a3 a4 a5 : Option Addr) (c0 c1 c2 c3 c4 c5 n1 : Nat) (s0 s2 s3 s4 s5 : List Str) (B : Nat) (w : World) (h0 : Strs w B a0 s0) (h2 : Strs w B a2 s2) (h3 : Strs w B a3 s3) (h4 : Strs w B a4 s4) (h5 : Strs w B a5 s5)
    (m0 : s0.length ≤ 9223372036854775807) (m1 : n1 ≤ 9223372036854775807) (m2 : s2.length ≤ 9223372036854775807) (m3 : s3.length ≤ 9223372036854775807) (m4 : s4.length ≤ 9223372036854775807) (m5 : s5.length ≤ 9223372036854775807) :
    Calls Try.prog 25 #[.slice a0 s0.length c0, .slice a1 n1 c1, .slice a2 s2.length c2, .slice a3 s3.length c3, .slice a4 s4.length c4, .slice a5 s5.length c5] w fun e w' => IsBool e ∧ w' = w := by
  go_enter Try.func25, Try.ntmps25
  go_wp2
  all_goals try (go_ret; exact ⟨IsBool.mk _, rfl⟩)
  go_loop [13, 14] (fun n i => ∃ (x : Int) (k : Nat), k ≤ s0.length ∧ i = .int .i64 k ∧ n = .int .i64 x) (fun _ i => s0.length - (intOf i).toNat)
  case atStart => exact ⟨_, 0, Nat.zero_le _, rfl, rfl⟩
  case round =>
    obtain ⟨x0, k0, hk0, rfl, rfl⟩ := hrel
    by_cases hlt0 : k0 < s0.length
    · obtain ⟨b0, off0, rfl, hb0, hc0⟩ := h0.at hlt0
      go_wp2
      all_goals try (go_ret; exact ⟨IsBool.mk _, rfl⟩)
      go_round
      case rel => exact ⟨_, k0 + 1, by omega, by go_num, rfl⟩
      case measure => simp [intOf]; omega
    · clear h0
      go_wp2
      all_goals try (go_ret; exact ⟨IsBool.mk _, rfl⟩)
      go_loop [13, 15] (fun n i => ∃ (x : Int) (k : Nat), k ≤ s2.length ∧ i = .int .i64 k ∧ n = .int .i64 x) (fun _ i => s2.length - (intOf i).toNat)
      case atStart => exact ⟨_, 0, Nat.zero_le _, rfl, rfl⟩
      case round =>
        obtain ⟨x2, k2, hk2, rfl, rfl⟩ := hrel
        by_cases hlt2 : k2 < s2.length
        · obtain ⟨b2, off2, rfl, hb2, hc2⟩ := h2.at hlt2
          go_wp2
          all_goals try (go_ret; exact ⟨IsBool.mk _, rfl⟩)
          go_round
          case rel => exact ⟨_, k2 + 1, by omega, by go_num, rfl⟩
          case measure => simp [intOf]; omega
        · clear h2
          go_wp2
          all_goals try (go_ret; exact ⟨IsBool.mk _, rfl⟩)
          go_loop [13, 16] (fun n i => ∃ (x : Int) (k : Nat), k ≤ s3.length ∧ i = .int .i64 k ∧ n = .int .i64 x) (fun _ i => s3.length - (intOf i).toNat)
          case atStart => exact ⟨_, 0, Nat.zero_le _, rfl, rfl⟩
          case round =>
            obtain ⟨x3, k3, hk3, rfl, rfl⟩ := hrel
            by_cases hlt3 : k3 < s3.length
            · obtain ⟨b3, off3, rfl, hb3, hc3⟩ := h3.at hlt3
              go_wp2
              all_goals try (go_ret; exact ⟨IsBool.mk _, rfl⟩)
              go_round
              case rel => exact ⟨_, k3 + 1, by omega, by go_num, rfl⟩
              case measure => simp [intOf]; omega
            · clear h3
              go_wp2
              all_goals try (go_ret; exact ⟨IsBool.mk _, rfl⟩)
              go_loop [13, 17] (fun n i => ∃ (x : Int) (k : Nat), k ≤ s4.length ∧ i = .int .i64 k ∧ n = .int .i64 x) (fun _ i => s4.length - (intOf i).toNat)
              case atStart => exact ⟨_, 0, Nat.zero_le _, rfl, rfl⟩
              case round =>
                obtain ⟨x4, k4, hk4, rfl, rfl⟩ := hrel
                by_cases hlt4 : k4 < s4.length
                · obtain ⟨b4, off4, rfl, hb4, hc4⟩ := h4.at hlt4
                  go_wp2
                  all_goals try (go_ret; exact ⟨IsBool.mk _, rfl⟩)
                  go_round
                  case rel => exact ⟨_, k4 + 1, by omega, by go_num, rfl⟩
                  case measure => simp [intOf]; omega
                · clear h4
                  go_wp2
                  all_goals try (go_ret; exact ⟨IsBool.mk _, rfl⟩)
                  go_loop [13, 18] (fun n i => ∃ (x : Int) (k : Nat), k ≤ s5.length ∧ i = .int .i64 k ∧ n = .int .i64 x) (fun _ i => s5.length - (intOf i).toNat)
                  case atStart => exact ⟨_, 0, Nat.zero_le _, rfl, rfl⟩
                  case round =>
                    obtain ⟨x5, k5, hk5, rfl, rfl⟩ := hrel
                    by_cases hlt5 : k5 < s5.length
                    · obtain ⟨b5, off5, rfl, hb5, hc5⟩ := h5.at hlt5
                      go_wp2
                      all_goals try (go_ret; exact ⟨IsBool.mk _, rfl⟩)
                      go_round
                      case rel => exact ⟨_, k5 + 1, by omega, by go_num, rfl⟩
                      case measure => simp [intOf]; omega
                    · clear h5
                      go_wp2
                      go_ret
                      exact ⟨IsBool.mk _, rfl⟩
end Go.Proofs.Qxb6003793a
