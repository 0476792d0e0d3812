import Derived.Test.Qxb6003793aStrs
namespace Go.Proofs.Qxb6003793a
open Go.ChangeShapes Go.WideShapes Go.ChangeAt Go.RowKit
open Pl
set_option linter.unusedVariables false

theorem heldFits_any (a1 a2 : Option Addr) (n1 c1 n2 c2 : Nat) (w : World) :
    Calls Try.prog 15 #[.slice a1 n1 c1, .slice a2 n2 c2] w fun e w' => (∃ b, e = .returned (.bool b) ∧ (b = true → n1 = n2 ∧ n1 ≤ 1024)) ∧ w' = w := by
  by_cases h1 : n1 = n2
  · have hb : ((n1 : Int) == (n2 : Int)) = true := by simp; omega
    by_cases h2 : n1 ≤ 1024
    · have h3 : Hid (n1 = n2 ∧ n1 ≤ 1024) := ⟨h1, h2⟩
      clear h1
      go_enter Try.func15, Try.ntmps15
      go_wp2
      go_ret
      exact ⟨⟨_, rfl, fun _ => h3.out⟩, rfl⟩
    · clear h1
      go_enter Try.func15, Try.ntmps15
      go_wp2
      go_ret
      refine ⟨⟨_, rfl, fun h => ?_⟩, rfl⟩
      simp at h
      omega
  · have hb : ((n1 : Int) == (n2 : Int)) = false := by simp; omega
    clear h1
    go_enter Try.func15, Try.ntmps15
    go_wp2
    go_ret
    exact ⟨⟨_, rfl, fun h => by simp at h⟩, rfl⟩

set_option maxHeartbeats 1000000 in
theorem modelHeld_any (a1 a2 : Option Addr) (c1 c2 : Nat) (ss : List Str) (vs : List Int) (id : Str) (B : Nat) (w : World) (h1 : Strs w B a1 ss) (h2 : Row w B a2 (vs.map (Value.int .u8))) (hl : ss.length = vs.length) (hn : ss.length ≤ 1024) :
    Calls Try.prog 23 #[.string ⟨id.toArray⟩, .slice a1 ss.length c1, .slice a2 vs.length c2] w fun e w' => e = .returned (.int .u8 (heldF id (ss.zip vs))) ∧ w' = w := by
  have HL : Hid (ss.length = vs.length) := hl
  have hl' : ss.length ≤ vs.length := by omega
  clear hl
  go_enter Try.func23, Try.ntmps23
  go_wp2
  go_loop [7] (fun i => ∃ (k : Nat), k ≤ ss.length ∧ i = .int .i64 ((k : Int) - 1) ∧ ∀ j (h : j < ss.length), k ≤ j → ss[j] ≠ id) (fun i => (intOf i + 1).toNat)
  case atStart => exact ⟨ss.length, Nat.le_refl _, rfl, fun j h h' => by omega⟩
  case round =>
    obtain ⟨k, hk, rfl, hp⟩ := hrel
    have HP := show Hid _ from hp
    clear hp
    by_cases hlt : 0 < k
    · obtain ⟨k, rfl⟩ : ∃ j, k = j + 1 := ⟨k - 1, by omega⟩
      obtain ⟨b, off, rfl, hb, hc⟩ := h1.at (i := k) (by omega)
      obtain ⟨b2, off2, rfl, hb2, hc2⟩ := h2 k (by simp; omega)
      obtain ⟨x, hx⟩ : ∃ x, x = ss[k] := ⟨_, rfl⟩
      obtain ⟨y, hy⟩ : ∃ y, y = vs[k] := ⟨_, rfl⟩
      rw [← hx] at hc
      rw [List.getElem_map, ← hy] at hc2
      have HX : Hid (x = ss[k]) := hx
      have HY : Hid (y = vs[k]) := hy
      clear hx hy h1 h2
      have e1 : ((k + 1 : Nat) : Int) - 1 = (k : Int) := by omega
      rw [e1]
      have hkv : (k : Int) < (vs.length : Int) := by omega
      cases hl : (x == id)
      · go_wp2
        go_round
        case rel =>
          refine ⟨k, by omega, by go_num, fun j h hj => ?_⟩
          by_cases e : j = k
          · subst e
            rw [← HX.out]
            simpa using hl
          · exact HP.out j h (by omega)
        case measure => simp [intOf]
      · go_wp2
        go_ret
        refine ⟨?_, rfl⟩
        have e : heldF id (ss.zip vs) = y := by
          rw [heldF_hit (i := k) (by simp; omega)]
          · simp only [List.getElem_zip]; exact HY.out.symm
          · simp only [List.getElem_zip]; rw [← HX.out]; simpa using hl
          · intro j h hj
            simp only [List.getElem_zip]
            exact HP.out j _ (by omega)
        rw [e]; rfl
    · obtain rfl : k = 0 := by omega
      have hq : Hid (heldF id (ss.zip vs) = 0) := by
        refine heldF_none _ fun p hp => ?_
        obtain ⟨j, hj, rfl⟩ := List.mem_iff_getElem.1 hp
        simp only [List.getElem_zip]
        exact HP.out j _ (Nat.zero_le _)
      clear HP h1 h2
      go_wp2
      go_ret
      exact ⟨by rw [hq.out]; rfl, rfl⟩
end Go.Proofs.Qxb6003793a
