import Derived.Test.Qxb6003793aMerge
namespace Go.Proofs.Qxb6003793a
open Go.ChangeShapes Go.WideShapes Go.ChangeAt Go.RowKit
open Pl
set_option linter.unusedVariables false

/-- The call has returned a bool; where it is true, p holds. -/
def BoolSo (e : Ending) (p : Prop) : Prop := ∃ b, e = .returned (.bool b) ∧ (b = true → p)
theorem BoolSo.no (p : Prop) : BoolSo (.returned (.bool false)) p := ⟨false, rfl, fun h => by cases h⟩
theorem BoolSo.mk {p : Prop} {b : Bool} (h : b = true → p) : BoolSo (.returned (.bool b)) p := ⟨b, rfl, h⟩
theorem Strs.drewN {w : World} {B : Nat} {a : Option Addr} {ss : List Str} (h : Strs w B a ss) (n : Nat) : Strs (w.drewN n) B a ss := h.below (Below.drewN (Below.refl B w) n) (Nat.le_refl _)

/-- What a view that fits is. -/
structure ViewOK (s1 s2 s3 s4 : List Str) : Prop where
  n1 : s1.length ≤ 1024
  n2 : s2.length ≤ 1024
  n3 : s3.length ≤ 1024
  n4 : s4.length ≤ 1024
  p1 : s1.Pairwise (· < ·)
  p2 : s2.Pairwise (· < ·)
  p3 : s3.Pairwise (· < ·)
  p4 : s4.Pairwise (· < ·)
  all : (mergeL (mergeL s1 s2) (mergeL s3 s4)).Pairwise (· < ·)

set_option maxRecDepth 100000 in
set_option maxHeartbeats 4000000 in
theorem viewFits_any (a1 a2 a3 a4 : Option Addr) (c1 c2 c3 c4 : Nat) (s1 s2 s3 s4 : List Str) (B : Nat) (w : World) (h1 : Strs w B a1 s1) (h2 : Strs w B a2 s2) (h3 : Strs w B a3 s3) (h4 : Strs w B a4 s4) (hB : B ≤ w.heap.size) :
    Calls Try.prog 16 #[.slice a1 s1.length c1, .slice a2 s2.length c2, .slice a3 s3.length c3, .slice a4 s4.length c4] w fun e w' => BoolSo e (ViewOK s1 s2 s3 s4) ∧ Below w.heap.size w w' := by
  by_cases l1 : 1024 < s1.length
  · go_enter Try.func16, Try.ntmps16
    go_wp2_with fail
    go_ret
    exact ⟨BoolSo.no _, Below.refl _ _⟩
  by_cases l2 : 1024 < s2.length
  · go_enter Try.func16, Try.ntmps16
    go_wp2_with fail
    go_ret
    exact ⟨BoolSo.no _, Below.refl _ _⟩
  by_cases l3 : 1024 < s3.length
  · go_enter Try.func16, Try.ntmps16
    go_wp2_with fail
    go_ret
    exact ⟨BoolSo.no _, Below.refl _ _⟩
  by_cases l4 : 1024 < s4.length
  · go_enter Try.func16, Try.ntmps16
    go_wp2_with fail
    go_ret
    exact ⟨BoolSo.no _, Below.refl _ _⟩
  go_enter Try.func16, Try.ntmps16
  go_wp2_with fail
  refine (sorted_any a1 c1 s1 B _ h1 (by omega)).mono ?_
  rintro e w1 ⟨⟨b1, rfl, q1⟩, m1, rfl⟩
  cases b1
  · go_wp2_with fail
    go_ret
    exact ⟨BoolSo.no _, Below.drewN (Below.refl _ _) _⟩
  have Q1 := show Hid _ from q1 rfl
  clear q1
  go_wp2_with fail
  refine (sorted_any a2 c2 s2 B _ (h2.drewN _) (by omega)).mono ?_
  rintro e w1 ⟨⟨b1, rfl, q1⟩, m2, rfl⟩
  cases b1
  · go_wp2_with fail
    go_ret
    exact ⟨BoolSo.no _, Below.drewN (Below.refl _ _) _⟩
  have Q2 := show Hid _ from q1 rfl
  clear q1
  go_wp2_with fail
  refine (sorted_any a3 c3 s3 B _ (h3.drewN _) (by omega)).mono ?_
  rintro e w1 ⟨⟨b1, rfl, q1⟩, m3, rfl⟩
  cases b1
  · go_wp2_with fail
    go_ret
    exact ⟨BoolSo.no _, Below.drewN (Below.refl _ _) _⟩
  have Q3 := show Hid _ from q1 rfl
  clear q1
  go_wp2_with fail
  refine (sorted_any a4 c4 s4 B _ (h4.drewN _) (by omega)).mono ?_
  rintro e w1 ⟨⟨b1, rfl, q1⟩, m4, rfl⟩
  cases b1
  · go_wp2_with fail
    go_ret
    exact ⟨BoolSo.no _, Below.drewN (Below.refl _ _) _⟩
  have Q4 := show Hid _ from q1 rfl
  clear q1
  go_wp2_with fail
  refine (merge_any a1 a2 c1 c2 s1 s2 B _ (h1.drewN _) (h2.drewN _) hB (by omega) (by omega)).mono ?_
  rintro e w5 ⟨rfl, hs5, hb5⟩
  have z5 := hb5.size
  go_wp2_with fail
  refine (merge_any a3 a4 c3 c4 s3 s4 B _ ((h3.drewN _).below hb5 hB) ((h4.drewN _).below hb5 hB) (by exact Nat.le_trans hB z5) (by omega) (by omega)).mono ?_
  rintro e w6 ⟨rfl, hs6, hb6⟩
  have z6 := hb6.size
  have e12 : Hid ((mergeL s1 s2).length = s1.length + s2.length) := merge_len _ _
  have e34 : Hid ((mergeL s3 s4).length = s3.length + s4.length) := merge_len _ _
  have e1234 : Hid ((mergeL (mergeL s1 s2) (mergeL s3 s4)).length = s1.length + s2.length + (s3.length + s4.length)) := by unfold Hid; rw [merge_len, merge_len, merge_len]
  go_wp2_with fail
  refine (merge_any _ _ _ _ (mergeL s1 s2) (mergeL s3 s4) w6.heap.size _ ((hs5.below hb6 (Nat.le_refl _)).mono z6) hs6 (Nat.le_refl _) (by rw [e12.out]; omega) (by rw [e34.out]; omega)).mono ?_
  rintro e w7 ⟨rfl, hs7, hb7⟩
  have z7 := hb7.size
  go_wp2_with fail
  refine (sorted_any _ _ _ w7.heap.size _ hs7 (by rw [e1234.out]; omega)).mono ?_
  rintro e w8 ⟨⟨b1, rfl, q1⟩, m8, rfl⟩
  have Q8 := show Hid _ from q1
  clear q1
  go_wp2_with fail
  go_ret
  refine ⟨BoolSo.mk fun hb => ⟨by omega, by omega, by omega, by omega, Q1.out, Q2.out, Q3.out, Q4.out, Q8.out hb⟩, ?_⟩
  have z0 : w.heap.size ≤ w5.heap.size := z5
  have b5 : Below w.heap.size w w5 := (Below.drewN (Below.refl _ _) _).trans hb5
  exact Below.drewN ((b5.trans (hb6.mono z0)).trans (hb7.mono (by omega))) _
end Go.Proofs.Qxb6003793a
