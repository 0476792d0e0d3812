import Derived.Test.Qxb6003800aRows
import Derived.Test.Qxb6003800aPlain
import Derived.WalkKit
import Derived.ProofKit
import Derived.WalkLawsBesides
namespace Go.Proofs.Qxb6003800a
open Go.ChangeShapes Go.WideShapes Go.ChangeAt Go.RowKit
open Plain

set_option maxHeartbeats 400000 in
theorem trimmed_any (u s : Int) (w : World) (hs : s ≤ 65536) (hu : -9223372036854775808 ≤ u) (hu' : u ≤ 9223372036854775807) (hs0 : -9223372036854775808 ≤ s) :
    Calls Try.prog 23 #[.agg #[.int .i64 u, .int .i64 s]] w fun e w' => e = .returned (.agg #[.int .i64 (trim u s).1, .int .i64 (trim u s).2]) ∧ Below w.heap.size w w' := by
  go_enter Try.func23, Try.ntmps23
  go_wp2
  go_loopw [3] (fun _ wr => ∃ u1 s1 : Int, -9223372036854775808 ≤ u1 ∧ u1 ≤ 9223372036854775807 ∧ s1 ≤ 65536 ∧ -9223372036854775808 ≤ s1 ∧ trim u1 s1 = trim u s ∧ wr = (w.alloc (.cells #[.int .i64 u1, .int .i64 s1] 36)).alloc (.cells #[.int .i64 0, .int .i64 0] 36)) (fun _ wr => match wr.cell? ⟨w.heap.size, 1, none⟩ with | some (.int _ n) => n.toNat | _ => 0)
  case atStart => exact ⟨u, s, hu, hu', hs, hs0, rfl, rfl⟩
  case round =>
    obtain ⟨u1, s1, a1, a2, a3, a4, ht, rfl⟩ := hrel
    by_cases hp : 0 < s1
    · by_cases hm : u1.tmod 10 = 0
      · go_wp2
        go_roundw
        case rel => have hq := tdiv10_bd u1; exact ⟨u1.tdiv 10, s1 - 1, by omega, by omega, by omega, by omega, by rw [← ht, trim_step hp hm], rfl⟩
        case measure => simp; omega
      · go_wp2
        refine bodyPost_ret (v := .agg #[.int .i64 u1, .int .i64 s1]) (by simp [results, Try.results23, go_sem]) rfl ⟨?_, ?_⟩
        · rw [← ht, trim_stop (fun h => hm h.2)]
        · exact ((Below.refl _ _).alloc (Nat.le_refl _) _).alloc (by simp) _
    · go_wp2
      refine bodyPost_ret (v := .agg #[.int .i64 u1, .int .i64 s1]) (by simp [results, Try.results23, go_sem]) rfl ⟨?_, ?_⟩
      · rw [← ht, trim_stop (fun h => by omega)]
      · exact ((Below.refl _ _).alloc (Nat.le_refl _) _).alloc (by simp) _

set_option maxHeartbeats 400000 in
theorem zztrimmed_any (u s : Int) (w : World) (hs : s ≤ 65536) (hu : -9223372036854775808 ≤ u) (hu' : u ≤ 9223372036854775807) (hs0 : -9223372036854775808 ≤ s) :
    Calls Try.prog 17 #[.int .i64 u, .int .i64 s] w fun e w' => e = .returned (.tuple #[.int .i64 (trim u s).1, .int .i64 (trim u s).2]) ∧ Below w.heap.size w w' := by
  go_enter Try.func17, Try.ntmps17
  go_wp2_with (go_at_call 23; refine (trimmed_any _ _ _ hs hu hu' hs0).mono ?_; rintro e w1 ⟨rfl, hb⟩)
  go_region
  all_goals go_wp2
  all_goals go_ret2
  all_goals exact ⟨rfl, (hb.alloc (by have := hb.size; omega) _).drew⟩
end Go.Proofs.Qxb6003800a
