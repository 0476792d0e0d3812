import Derived.Test.Qxb6003793aSearch
namespace Go.Proofs.Qxb6003793a
open Go.ChangeShapes Go.WideShapes Go.ChangeAt Go.RowKit
open Pl
set_option linter.unusedVariables false

set_option maxHeartbeats 2000000 in
theorem lists_any (a0 a1 a2 a3 a4 : Option Addr) (n0 n1 n2 n3 n4 c0 c1 c2 c3 c4 : Nat) (w : World) :
    Calls Try.prog 38 #[.agg #[.slice a0 n0 c0, .slice a1 n1 c1, .slice a2 n2 c2, .slice a3 n3 c3, .slice a4 n4 c4]] w fun e w' =>
      e = .returned (.agg #[.slice a0 n0 c0, .int .u8 1, .slice a2 n2 c2, .int .u8 2, .slice a3 n3 c3, .int .u8 3, .slice a4 n4 c4, .int .u8 4]) ∧ Below w.heap.size w w' := by
  go_enter Try.func38, Try.ntmps38
  go_wp2
  exact bodyPost_ret (v := .agg #[.slice a0 n0 c0, .int .u8 1, .slice a2 n2 c2, .int .u8 2, .slice a3 n3 c3, .int .u8 3, .slice a4 n4 c4, .int .u8 4]) (by simp [results, Try.results38, go_sem]) rfl ⟨rfl, ((Below.refl _ _).alloc (Nat.le_refl _) _).alloc (by simp) _⟩

set_option maxRecDepth 100000 in
set_option maxHeartbeats 4000000 in
theorem standing_any (a0 a1 a2 a3 a4 : Option Addr) (c0 c1 c2 c3 c4 l1 : Nat) (s0 s2 s3 s4 : List Str) (id : Str) (B : Nat) (w : World) (hB : B ≤ w.heap.size) (h0 : Strs w B a0 s0) (h2 : Strs w B a2 s2) (h3 : Strs w B a3 s3) (h4 : Strs w B a4 s4)
    (n0 : s0.length ≤ 100000) (n2 : s2.length ≤ 100000) (n3 : s3.length ≤ 100000) (n4 : s4.length ≤ 100000) (q0 : s0.Pairwise (· < ·)) (q2 : s2.Pairwise (· < ·)) (q3 : s3.Pairwise (· < ·)) (q4 : s4.Pairwise (· < ·)) :
    Calls Try.prog 35 #[.agg #[.slice a0 s0.length c0, .slice a1 l1 c1, .slice a2 s2.length c2, .slice a3 s3.length c3, .slice a4 s4.length c4], .string ⟨id.toArray⟩] w fun e w' =>
      e = .returned (.int .u8 (stand id s0 s2 s3 s4)) ∧ Below w.heap.size w w' := by
  have p0 : Hid (s0.Pairwise (· < ·)) := q0
  have p2 : Hid (s2.Pairwise (· < ·)) := q2
  have p3 : Hid (s3.Pairwise (· < ·)) := q3
  have p4 : Hid (s4.Pairwise (· < ·)) := q4
  clear q0 q2 q3 q4
  have i0 : ∀ w, (Instr.index 73 (.agg #[.slice a0 s0.length c0, .int .u8 1, .slice a2 s2.length c2, .int .u8 2, .slice a3 s3.length c3, .int .u8 3, .slice a4 s4.length c4, .int .u8 4]) (.int .i64 0)).run Try.prog w = .ok (.agg #[.slice a0 s0.length c0, .int .u8 1]) w := fun _ => by kernel_rfl
  have i1 : ∀ w, (Instr.index 73 (.agg #[.slice a0 s0.length c0, .int .u8 1, .slice a2 s2.length c2, .int .u8 2, .slice a3 s3.length c3, .int .u8 3, .slice a4 s4.length c4, .int .u8 4]) (.int .i64 1)).run Try.prog w = .ok (.agg #[.slice a2 s2.length c2, .int .u8 2]) w := fun _ => by kernel_rfl
  have i2 : ∀ w, (Instr.index 73 (.agg #[.slice a0 s0.length c0, .int .u8 1, .slice a2 s2.length c2, .int .u8 2, .slice a3 s3.length c3, .int .u8 3, .slice a4 s4.length c4, .int .u8 4]) (.int .i64 2)).run Try.prog w = .ok (.agg #[.slice a3 s3.length c3, .int .u8 3]) w := fun _ => by kernel_rfl
  have i3 : ∀ w, (Instr.index 73 (.agg #[.slice a0 s0.length c0, .int .u8 1, .slice a2 s2.length c2, .int .u8 2, .slice a3 s3.length c3, .int .u8 3, .slice a4 s4.length c4, .int .u8 4]) (.int .i64 3)).run Try.prog w = .ok (.agg #[.slice a4 s4.length c4, .int .u8 4]) w := fun _ => by kernel_rfl
  go_enter Try.func35, Try.ntmps35
  go_wp2_with fail
  have b0 : ∀ o, Below w.heap.size w (w.alloc o) := fun o => (Below.refl _ w).alloc (Nat.le_refl _) o
  have X := lists_any a0 a1 a2 a3 a4 s0.length l1 s2.length s3.length s4.length c0 c1 c2 c3 c4 (w.alloc (.cells #[.slice a0 s0.length c0, .slice a1 l1 c1, .slice a2 s2.length c2, .slice a3 s3.length c3, .slice a4 s4.length c4] 49))
  refine X.mono ?_
  clear X
  rintro e w1 ⟨rfl, hb1⟩
  have B1 : Below w.heap.size w w1 := (b0 _).trans (hb1.mono (by simp))
  clear hb1 b0
  go_wp2_with fail
  go_loopw [11] (fun i wr => Below w.heap.size w wr ∧ ((i = .int .i64 0) ∨ (i = .int .i64 1 ∧ id ∉ s0) ∨ (i = .int .i64 2 ∧ id ∉ s0 ∧ id ∉ s2) ∨ (i = .int .i64 3 ∧ id ∉ s0 ∧ id ∉ s2 ∧ id ∉ s3) ∨ (i = .int .i64 4 ∧ id ∉ s0 ∧ id ∉ s2 ∧ id ∉ s3 ∧ id ∉ s4))) (fun i _ => 4 - (intOf i).toNat)
  case atStart => exact ⟨B1, .inl rfl⟩
  case round =>
    clear B1
    obtain ⟨hbel, hcs⟩ := hrel
    have hsz := hbel.size
    rcases hcs with rfl | ⟨rfl, m0⟩ | ⟨rfl, m0, m2⟩ | ⟨rfl, m0, m2, m3⟩ | ⟨rfl, m0, m2, m3, m4⟩
    · have hS := h0.below hbel hB
      by_cases m : id ∈ s0
      · have hd : decide (id ∈ s0) = true := decide_eq_true m
        have hst : Hid (stand id s0 s2 s3 s4 = 1) := by
          have := m
          simp [Hid, stand, m]
        clear m
        go_wp2_with (go_at_call 39; refine (search_any a0 c0 s0 id B _ (by exact h0.below (hbel.alloc hsz _) hB) n0 p0.out).mono ?_; rintro e w2 ⟨⟨j, rfl⟩, rfl⟩)
        go_ret
        exact ⟨by rw [hst.out]; rfl, hbel.alloc hsz _⟩
      · have hd : decide (id ∈ s0) = false := decide_eq_false m
        have HM0 : Hid (id ∉ s0) := m
        clear m
        go_wp2_with (go_at_call 39; refine (search_any a0 c0 s0 id B _ (by exact h0.below (hbel.alloc hsz _) hB) n0 p0.out).mono ?_; rintro e w2 ⟨⟨j, rfl⟩, rfl⟩)
        go_roundw
        case rel => exact ⟨hbel.alloc hsz _, .inr (.inl ⟨rfl, HM0.out⟩)⟩
        case measure => simp [intOf]
    · have hS := h2.below hbel hB
      have HM0 : Hid (id ∉ s0) := m0
      clear m0
      by_cases m : id ∈ s2
      · have hd : decide (id ∈ s2) = true := decide_eq_true m
        have hst : Hid (stand id s0 s2 s3 s4 = 2) := by
          have := m
          have q0 := HM0.out; simp [Hid, stand, m, q0]
        clear m
        go_wp2_with (go_at_call 39; refine (search_any a2 c2 s2 id B _ (by exact h2.below (hbel.alloc hsz _) hB) n2 p2.out).mono ?_; rintro e w2 ⟨⟨j, rfl⟩, rfl⟩)
        go_ret
        exact ⟨by rw [hst.out]; rfl, hbel.alloc hsz _⟩
      · have hd : decide (id ∈ s2) = false := decide_eq_false m
        have HM1 : Hid (id ∉ s2) := m
        clear m
        go_wp2_with (go_at_call 39; refine (search_any a2 c2 s2 id B _ (by exact h2.below (hbel.alloc hsz _) hB) n2 p2.out).mono ?_; rintro e w2 ⟨⟨j, rfl⟩, rfl⟩)
        go_roundw
        case rel => exact ⟨hbel.alloc hsz _, .inr (.inr (.inl ⟨rfl, HM0.out, HM1.out⟩))⟩
        case measure => simp [intOf]
    · have hS := h3.below hbel hB
      have HM0 : Hid (id ∉ s0) := m0
      have HM1 : Hid (id ∉ s2) := m2
      clear m0 m2
      by_cases m : id ∈ s3
      · have hd : decide (id ∈ s3) = true := decide_eq_true m
        have hst : Hid (stand id s0 s2 s3 s4 = 3) := by
          have := m
          have q0 := HM0.out; have q1 := HM1.out; simp [Hid, stand, m, q0, q1]
        clear m
        go_wp2_with (go_at_call 39; refine (search_any a3 c3 s3 id B _ (by exact h3.below (hbel.alloc hsz _) hB) n3 p3.out).mono ?_; rintro e w2 ⟨⟨j, rfl⟩, rfl⟩)
        go_ret
        exact ⟨by rw [hst.out]; rfl, hbel.alloc hsz _⟩
      · have hd : decide (id ∈ s3) = false := decide_eq_false m
        have HM2 : Hid (id ∉ s3) := m
        clear m
        go_wp2_with (go_at_call 39; refine (search_any a3 c3 s3 id B _ (by exact h3.below (hbel.alloc hsz _) hB) n3 p3.out).mono ?_; rintro e w2 ⟨⟨j, rfl⟩, rfl⟩)
        go_roundw
        case rel => exact ⟨hbel.alloc hsz _, .inr (.inr (.inr (.inl ⟨rfl, HM0.out, HM1.out, HM2.out⟩)))⟩
        case measure => simp [intOf]
    · have hS := h4.below hbel hB
      have HM0 : Hid (id ∉ s0) := m0
      have HM1 : Hid (id ∉ s2) := m2
      have HM2 : Hid (id ∉ s3) := m3
      clear m0 m2 m3
      by_cases m : id ∈ s4
      · have hd : decide (id ∈ s4) = true := decide_eq_true m
        have hst : Hid (stand id s0 s2 s3 s4 = 4) := by
          have := m
          have q0 := HM0.out; have q1 := HM1.out; have q2 := HM2.out; simp [Hid, stand, m, q0, q1, q2]
        clear m
        go_wp2_with (go_at_call 39; refine (search_any a4 c4 s4 id B _ (by exact h4.below (hbel.alloc hsz _) hB) n4 p4.out).mono ?_; rintro e w2 ⟨⟨j, rfl⟩, rfl⟩)
        go_ret
        exact ⟨by rw [hst.out]; rfl, hbel.alloc hsz _⟩
      · have hd : decide (id ∈ s4) = false := decide_eq_false m
        have HM3 : Hid (id ∉ s4) := m
        clear m
        go_wp2_with (go_at_call 39; refine (search_any a4 c4 s4 id B _ (by exact h4.below (hbel.alloc hsz _) hB) n4 p4.out).mono ?_; rintro e w2 ⟨⟨j, rfl⟩, rfl⟩)
        go_roundw
        case rel => exact ⟨hbel.alloc hsz _, .inr (.inr (.inr (.inr (⟨rfl, HM0.out, HM1.out, HM2.out, HM3.out⟩))))⟩
        case measure => simp [intOf]
    · have hst : Hid (stand id s0 s2 s3 s4 = 0) := stand_zero.2 ⟨m0, m2, m3, m4⟩
      clear m0 m2 m3 m4
      go_wp2_with fail
      go_ret
      exact ⟨by rw [hst.out]; rfl, hbel⟩
end Go.Proofs.Qxb6003793a
