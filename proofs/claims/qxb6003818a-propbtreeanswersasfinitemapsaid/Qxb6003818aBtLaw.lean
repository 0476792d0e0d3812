import Derived.Test.Qxb6003818aBtAll
import Derived.Test.Qxb6003818aBtRunB
namespace Go.Proofs.Qxb6003818a
open Go.ChangeShapes Go.WideShapes Go.ChangeAt Go.RowKit
set_option linter.unusedVariables false
set_option linter.unusedSimpArgs false
/-- btAll. -/
theorem all13 (a : Option Addr) (c B n : Nat) (ops : List Op3) (ur : Bool) (rs : Nat) (w : World) (hO : Ops w B a ops) (hB : B ≤ w.heap.size) (hn : n = ops.length) (hn4 : n ≤ 4096) (hrs : rs ≤ 64) :
    Calls Try.prog 13 #[.slice a n c, .bool ur, .int .i64 (rs : Int), .bool false] w fun e w' => e = .returned (.bool true) ∧ Upd w w' [] := by
  refine all13_of a c B n ops ur rs w hO hB hn hn4 (fun vb vals w2 hu hb hl => ?_)
  cases ur with
  | false => exact run23_plain a c B ops vals vb n rs w2 (hO.upd hu (fun _ _ => by simp)) (Nat.le_trans hB hu.size) hn hn4 hb hl
  | true => exact run23_room a c B ops vals vb n rs hrs w2 (hO.upd hu (fun _ _ => by simp)) (Nat.le_trans hB hu.size) hn hn4 hb hl
set_option maxHeartbeats 8000000 in
set_option maxRecDepth 100000 in
/-- The law. -/
theorem law4 (a : Option Addr) (c B : Nat) (ops : List Op3) (ur : Bool) (rs : Int) (w : World) (hO : Ops w B a ops) (hB : B ≤ w.heap.size) (hmx : ops.length ≤ 9223372036854775807) :
    Calls Try.prog 4 #[.slice a ops.length c, .bool ur, .int .i64 rs] w fun e w' => e = .returned (.bool true) ∧ Upd w w' [] := by
  have HL : ops.length ≤ 4096 → Calls Try.prog 12 #[.slice a ops.length c] w (SomeBool w) := fun h => long12 a c B ops w hO (by omega)
  have HA : ops.length ≤ 4096 → ∀ r : Nat, r ≤ 64 → Calls Try.prog 13 #[.slice a ops.length c, .bool ur, .int .i64 (r : Int), .bool false] w fun e w' => e = .returned (.bool true) ∧ Upd w w' [] :=
    fun h r hr => all13 a c B ops.length ops ur r w hO hB rfl h hr
  clear hO hB
  generalize ops.length = n at *
  by_cases h1 : n ≤ 4096
  · by_cases h2 : 0 ≤ rs
    · by_cases h3 : rs ≤ 64
      · obtain ⟨r, rfl⟩ : ∃ r : Nat, rs = r := ⟨rs.toNat, by omega⟩
        have X := HL h1
        have Y := HA h1 r (by omega)
        clear HL HA
        go_enter Try.func4, Try.ntmps4
        go_wp2_with (first | (go_at_call 12; refine X.mono ?_; rintro e w2 ⟨b, rfl, rfl⟩; cases b) | (go_at_call 13; refine Y.mono ?_; rintro e w2 ⟨rfl, hu2⟩))
        · go_ret
          exact ⟨rfl, hu2⟩
        · go_ret
          exact ⟨rfl, Upd.refl _ _⟩
      · clear HL HA
        go_enter Try.func4, Try.ntmps4
        go_wp2
        go_ret
        exact ⟨rfl, Upd.refl _ _⟩
    · clear HL HA
      go_enter Try.func4, Try.ntmps4
      go_wp2
      go_ret
      exact ⟨rfl, Upd.refl _ _⟩
  · clear HL HA
    go_enter Try.func4, Try.ntmps4
    go_wp2
    go_ret
    exact ⟨rfl, Upd.refl _ _⟩
end Go.Proofs.Qxb6003818a
