import Derived.Test.Qxb6003793aClone
namespace Go.Proofs.Qxb6003793a
open Go.ChangeShapes Go.WideShapes Go.ChangeAt Go.RowKit
open Pl
set_option linter.unusedVariables false

theorem info5 : (Try.prog.info? 5).map (fun i => (i.zero, i.size, i.bytes)) = some (some (.int .u8 0), 1, 1) := by kernel_rfl

set_option maxHeartbeats 1000000 in
theorem cloneB_any (a : Option Addr) (c : Nat) (vs : List Int) (B : Nat) (w : World) (hS : Row w B a (vs.map (Value.int .u8))) (hB : B ≤ w.heap.size) (hn : vs.length ≤ 100000) (hnil : a = none → vs = []) :
    Calls Try.prog 18 #[.slice a vs.length c] w fun e w' => (∃ a', e = .returned (.slice a' vs.length vs.length) ∧ Row w' w'.heap.size a' (vs.map (Value.int .u8))) ∧ Below w.heap.size w w' := by
  cases a with
  | none =>
    have := hnil rfl
    subst this
    clear hnil
    show Calls Try.prog 18 #[.slice none 0 c] w _
    have hnl := fun w => Lib.run_eql_slice_nil (P := Try.prog) w 37 5 none 0 c 0 0 Try.underlying37
    go_enter Try.func18, Try.ntmps18
    go_wp2
    go_ret
    exact ⟨⟨none, rfl, Row.nil _ _ _⟩, Below.refl _ _⟩
  | some a =>
    have hnl := fun w => Lib.run_eql_slice_nil (P := Try.prog) w 37 5 (some a) vs.length c 0 0 Try.underlying37
    obtain ⟨i0, hi0, hz0, hz1, hz2⟩ := info_parts info5
    clear hnil
    go_enter Try.func18, Try.ntmps18
    go_wp2_with (at_make; refine wpList_make_full _ rfl _ _ 37 rfl w.heap.size 5 i0 (.int .u8 0) 1 Try.underlying37 hi0 hz0 hz1 _ _ _ _ vs.length rfl rfl rfl rfl (by rw [hz2]; omega) (by unfold maxLen; omega) (Nat.le_refl _) ?_; intro w1 hown1 hgrow1)
    have hb1 := blk_of_owns hown1
    have hl1 := hown1.1
    go_loopw [4] (fun i wr => ∃ (k : Nat) (cur : List Value), k ≤ vs.length ∧ i = .int .i64 k ∧ cur.length = vs.length ∧ Blk wr w.heap.size 5 cur ∧ cur.take k = (vs.map (Value.int .u8)).take k ∧ Below w.heap.size w wr) (fun i _ => vs.length - (intOf i).toNat)
    case atStart => exact ⟨0, _, Nat.zero_le _, rfl, by simpa using hl1, hb1, by simp, (Below.refl _ _).grown hgrow1 (Nat.le_refl _) (fun k h => by cases h)⟩
    case round =>
      clear hown1 hb1 hl1 hgrow1
      obtain ⟨k, cur, hk, rfl, hcl, hbk, hcp, hbel⟩ := hrel
      have HL : Hid (cur.length = vs.length) := hcl
      have HC : Hid (cur.take k = (vs.map (Value.int .u8)).take k) := hcp
      clear hcl hcp
      by_cases hlt : k < vs.length
      · obtain ⟨b, off, e, hb, hc⟩ := (hS.below hbel hB) k (by simpa using hlt)
        cases e
        rw [List.getElem_map] at hc
        clear hS
        have hck := hbk.cell (i := k) (by rw [HL.out]; exact hlt)
        have hfk := hbk.free k
        obtain ⟨v, hv⟩ : ∃ v, v = cur[k]'(by rw [HL.out]; exact hlt) := ⟨_, rfl⟩
        rw [← hv] at hck
        clear hv
        go_wp2
        go_roundw
        case rel =>
          refine ⟨k + 1, cur.set k (Value.int .u8 vs[k]), by omega, by go_num, by rw [List.length_set]; exact HL.out, hbk.set _ _, ?_, hbel.setCell (Nat.le_refl _) _⟩
          have := copied (xs := vs.map (Value.int .u8)) (by rw [List.length_map]; exact HL.out) (by simpa using hlt) HC.out
          simpa using this
        case measure => simp [intOf]; omega
      · go_wp2
        go_ret
        have e : cur = vs.map (Value.int .u8) := by
          have := HC.out
          rwa [List.take_of_length_le (by rw [HL.out]; omega), List.take_of_length_le (by simp; omega)] at this
        subst e
        exact ⟨⟨_, rfl, hbk.row⟩, hbel⟩
end Go.Proofs.Qxb6003793a
