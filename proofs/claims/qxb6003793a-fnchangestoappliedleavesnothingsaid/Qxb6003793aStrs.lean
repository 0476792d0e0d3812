import Derived.Test.Qxb6003793aRows
import Derived.Test.Qxb6003793aPlain
import Derived.Sort.Walk0
import Derived.WalkKit
import Derived.ProofKit
import Derived.WalkLawsBesides
import Derived.Deep.QuietTactic
import Derived.BigQuiet
namespace Go.Proofs.Qxb6003793a
open Go.ChangeShapes Go.WideShapes Go.ChangeAt Go.RowKit
open Pl
set_option linter.unusedVariables false

/-- The call has returned a bool. -/
def IsBool (e : Ending) : Prop := ∃ b, e = .returned (.bool b)
theorem IsBool.mk (b : Bool) : IsBool (.returned (.bool b)) := ⟨b, rfl⟩

/-- What a slice at address a reads as, in its first cells: the values xs; its block lies below B. -/
def Row (w : World) (B : Nat) (a : Option Addr) (xs : List Value) : Prop :=
  ∀ i (h : i < xs.length), ∃ b off, a = some ⟨b, off, none⟩ ∧ b < B ∧ w.cell? ⟨b, off + i, none⟩ = some xs[i]
/-- .. the strings ss. -/
def Strs (w : World) (B : Nat) (a : Option Addr) (ss : List Str) : Prop := Row w B a (ss.map encStr)

theorem Row.below {w w' : World} {B B' : Nat} {a : Option Addr} {xs : List Value} (h : Row w B a xs) (hb : Below B' w w') (hB : B ≤ B') : Row w' B a xs := by
  intro i hi
  obtain ⟨b, off, e, hlt, hc⟩ := h i hi
  exact ⟨b, off, e, hlt, (hb.cell (p := ⟨b, off + i, none⟩) (Nat.lt_of_lt_of_le hlt hB)).trans hc⟩
theorem Row.mono {w : World} {B B' : Nat} {a : Option Addr} {xs : List Value} (h : Row w B a xs) (hB : B ≤ B') : Row w B' a xs := by
  intro i hi
  obtain ⟨b, off, e, hlt, hc⟩ := h i hi
  exact ⟨b, off, e, by omega, hc⟩
theorem Row.nil (w : World) (B : Nat) (a : Option Addr) : Row w B a [] := fun i hi => absurd hi (Nat.not_lt_zero _)
theorem Strs.below {w w' : World} {B B' : Nat} {a : Option Addr} {ss : List Str} (h : Strs w B a ss) (hb : Below B' w w') (hB : B ≤ B') : Strs w' B a ss := Row.below h hb hB
theorem Strs.mono {w : World} {B B' : Nat} {a : Option Addr} {ss : List Str} (h : Strs w B a ss) (hB : B ≤ B') : Strs w B' a ss := Row.mono h hB
theorem Strs.at {w : World} {B : Nat} {a : Option Addr} {ss : List Str} (h : Strs w B a ss) {i : Nat} (hi : i < ss.length) :
    ∃ b off, a = some ⟨b, off, none⟩ ∧ b < B ∧ w.cell? ⟨b, off + i, none⟩ = some (.string ⟨ss[i].toArray⟩) := by
  obtain ⟨b, off, e, hlt, hc⟩ := h i (by simpa using hi)
  exact ⟨b, off, e, hlt, by rw [hc]; simp⟩
theorem Strs.cell {w : World} {B b off : Nat} {ss : List Str} (h : Strs w B (some ⟨b, off, none⟩) ss) {i : Nat} (hi : i < ss.length) : w.cell? ⟨b, off + i, none⟩ = some (.string ⟨ss[i].toArray⟩) := by
  obtain ⟨b', off', e, hlt, hc⟩ := h.at hi
  cases e
  exact hc

set_option maxHeartbeats 400000 in
theorem bytes_any (a : Option Addr) (c : Nat) (ss : List Str) (B : Nat) (w : World) (hS : Strs w B a ss) (hn : ss.length ≤ 9223372036854775807) :
    Calls Try.prog 14 #[.slice a ss.length c] w fun e w' => (∃ n, e = .returned (.int .i64 n)) ∧ w' = w := by
  go_enter Try.func14, Try.ntmps14
  go_wp2
  go_loop [3, 4] (fun n i => ∃ (x : Int) (k : Nat), k ≤ ss.length ∧ i = .int .i64 k ∧ n = .int .i64 x) (fun _ i => ss.length - (intOf i).toNat)
  case atStart => exact ⟨0, 0, Nat.zero_le _, rfl, rfl⟩
  case round =>
    obtain ⟨x, k, hk, rfl, rfl⟩ := hrel
    by_cases hlt : k < ss.length
    · obtain ⟨b, off, rfl, hb, hc⟩ := hS.at hlt
      go_wp2
      go_round
      case rel => exact ⟨_, k + 1, by omega, by go_num, rfl⟩
      case measure => simp [intOf]; omega
    · go_wp2
      go_ret
      exact ⟨⟨_, rfl⟩, rfl⟩

theorem less_eq (x y : Str) : Op.bytesLess x y = decide (x < y) := bytesLess_eq x y

set_option maxHeartbeats 400000 in
theorem sorted_any (a : Option Addr) (c : Nat) (ss : List Str) (B : Nat) (w : World) (hS : Strs w B a ss) (hn : ss.length ≤ 9223372036854775807) :
    Calls Try.prog 29 #[.slice a ss.length c] w fun e w' => (∃ b, e = .returned (.bool b) ∧ (b = true → ss.Pairwise (· < ·))) ∧ ∃ n, w' = w.drewN n := by
  go_enter Try.func29, Try.ntmps29
  go_wp2
  go_loopw [3] (fun i wr => ∃ (k m : Nat), 1 ≤ k ∧ k ≤ ss.length + 1 ∧ i = .int .i64 k ∧ (ss.take k).Pairwise (· < ·) ∧ wr = w.drewN m) (fun i _ => ss.length - (intOf i).toNat)
  case atStart => exact ⟨1, 0, by omega, by omega, rfl, sorted_one, rfl⟩
  case round =>
    obtain ⟨k, m, hk1, hk, rfl, hp, rfl⟩ := hrel
    by_cases hlt : k < ss.length
    · obtain ⟨b, off, rfl, hb, hc⟩ := hS.at hlt
      have hc1 := Strs.cell hS (i := k - 1) (by omega)
      have ek : ((k : Int) - 1).toNat = k - 1 := by omega
      have hki : (k : Int) < (ss.length : Int) := by omega
      have hki' : (k : Int) - 1 < (ss.length : Int) := by omega
      obtain ⟨x, hx⟩ : ∃ x, x = ss[k] := ⟨_, rfl⟩
      obtain ⟨y, hy⟩ : ∃ y, y = ss[k - 1] := ⟨_, rfl⟩
      rw [← hx] at hc
      rw [← hy] at hc1
      have HX : Hid (x = ss[k]) := hx
      have HY : Hid (y = ss[k - 1]) := hy
      have HP := show Hid _ from hp
      clear hx hy hp hS
      cases hl : Op.bytesLess y x
      · go_wp2
        go_quiet (fail)
        go_wp2
        go_ret
        exact ⟨⟨false, rfl, fun h => by cases h⟩, _, World.drewN_drewN _ _ _⟩
      · go_wp2
        go_quiet (fail)
        go_wp2
        go_roundw
        case rel =>
          refine ⟨k + 1, m + nq, by omega, by omega, by go_num, ?_, rfl⟩
          rw [less_eq] at hl
          exact sorted_step hk1 hlt HP.out (by rw [← HX.out, ← HY.out]; simpa using hl)
        case measure => simp [intOf]; omega
    · have hf : ss.Pairwise (· < ·) := by rw [List.take_of_length_le (by omega)] at hp; exact hp
      have HP := show Hid _ from hf
      clear hp hf hS
      go_wp2
      go_ret
      exact ⟨⟨true, rfl, fun _ => HP.out⟩, m, rfl⟩

set_option maxHeartbeats 400000 in
theorem has_any (a : Option Addr) (c : Nat) (ss : List Str) (id : Str) (B : Nat) (w : World) (hS : Strs w B a ss) (hn : ss.length ≤ 9223372036854775807) :
    Calls Try.prog 33 #[.slice a ss.length c, .string ⟨id.toArray⟩] w fun e w' => e = .returned (.bool (decide (id ∈ ss))) ∧ w' = w := by
  go_enter Try.func33, Try.ntmps33
  go_wp2
  go_loop [5] (fun i => ∃ (k : Nat), k ≤ ss.length ∧ i = .int .i64 k ∧ id ∉ ss.take k) (fun i => ss.length - (intOf i).toNat)
  case atStart => exact ⟨0, Nat.zero_le _, rfl, by simp⟩
  case round =>
    obtain ⟨k, hk, rfl, hp⟩ := hrel
    have HP := show Hid _ from hp
    clear hp
    by_cases hlt : k < ss.length
    · obtain ⟨b, off, rfl, hb, hc⟩ := hS.at hlt
      obtain ⟨x, hx⟩ : ∃ x, x = ss[k] := ⟨_, rfl⟩
      rw [← hx] at hc
      have HX : Hid (x = ss[k]) := hx
      clear hx hS
      cases hl : (x == id)
      · go_wp2
        go_round
        case rel =>
          refine ⟨k + 1, by omega, by go_num, ?_⟩
          rw [take_succ ss k hlt, List.mem_append, not_or]
          refine ⟨HP.out, ?_⟩
          rw [← HX.out]
          have : ¬ x = id := by simpa using hl
          simpa using fun h => this h.symm
        case measure => simp [intOf]; omega
      · go_wp2
        go_ret
        refine ⟨?_, rfl⟩
        have : x = id := by simpa using hl
        have hm : id ∈ ss := by rw [← this, HX.out]; exact List.getElem_mem hlt
        rw [decide_eq_true hm]; rfl
    · have hp : id ∉ ss := by have := HP.out; rwa [List.take_of_length_le (by omega)] at this
      have HQ := show Hid _ from hp
      clear HP hp hS
      go_wp2
      go_ret
      exact ⟨by rw [decide_eq_false HQ.out]; rfl, rfl⟩

set_option maxHeartbeats 400000 in
theorem modelStanding_any (a1 a2 a3 a4 : Option Addr) (c1 c2 c3 c4 : Nat) (s1 s2 s3 s4 : List Str) (id : Str) (B : Nat) (w : World) (h1 : Strs w B a1 s1) (h2 : Strs w B a2 s2) (h3 : Strs w B a3 s3) (h4 : Strs w B a4 s4)
    (n1 : s1.length ≤ 9223372036854775807) (n2 : s2.length ≤ 9223372036854775807) (n3 : s3.length ≤ 9223372036854775807) (n4 : s4.length ≤ 9223372036854775807) :
    Calls Try.prog 24 #[.string ⟨id.toArray⟩, .slice a1 s1.length c1, .slice a2 s2.length c2, .slice a3 s3.length c3, .slice a4 s4.length c4] w fun e w' => e = .returned (.int .u8 (stand id s1 s2 s3 s4)) ∧ w' = w := by
  by_cases m1 : id ∈ s1
  · have hs : Hid (stand id s1 s2 s3 s4 = 1) := by simp [Hid, stand, m1]
    have b1 : decide (id ∈ s1) = true := decide_eq_true m1
    clear m1
    go_enter Try.func24, Try.ntmps24
    go_wp2_with fail
    refine (has_any a1 c1 s1 id B _ h1 n1).mono ?_
    rintro e w1 ⟨rfl, rfl⟩
    go_wp2_with fail
    go_ret
    exact ⟨by rw [hs.out]; rfl, rfl⟩
  · have b1 : decide (id ∈ s1) = false := decide_eq_false m1
    by_cases m2 : id ∈ s2
    · have hs : Hid (stand id s1 s2 s3 s4 = 2) := by simp [Hid, stand, m1, m2]
      have b2 : decide (id ∈ s2) = true := decide_eq_true m2
      clear m1 m2
      go_enter Try.func24, Try.ntmps24
      go_wp2_with fail
      refine (has_any a1 c1 s1 id B _ h1 n1).mono ?_
      rintro e w1 ⟨rfl, rfl⟩
      go_wp2_with fail
      refine (has_any a2 c2 s2 id B _ h2 n2).mono ?_
      rintro e w1 ⟨rfl, rfl⟩
      go_wp2_with fail
      go_ret
      exact ⟨by rw [hs.out]; rfl, rfl⟩
    · have b2 : decide (id ∈ s2) = false := decide_eq_false m2
      by_cases m3 : id ∈ s3
      · have hs : Hid (stand id s1 s2 s3 s4 = 3) := by simp [Hid, stand, m1, m2, m3]
        have b3 : decide (id ∈ s3) = true := decide_eq_true m3
        clear m1 m2 m3
        go_enter Try.func24, Try.ntmps24
        go_wp2_with fail
        refine (has_any a1 c1 s1 id B _ h1 n1).mono ?_
        rintro e w1 ⟨rfl, rfl⟩
        go_wp2_with fail
        refine (has_any a2 c2 s2 id B _ h2 n2).mono ?_
        rintro e w1 ⟨rfl, rfl⟩
        go_wp2_with fail
        refine (has_any a3 c3 s3 id B _ h3 n3).mono ?_
        rintro e w1 ⟨rfl, rfl⟩
        go_wp2_with fail
        go_ret
        exact ⟨by rw [hs.out]; rfl, rfl⟩
      · have b3 : decide (id ∈ s3) = false := decide_eq_false m3
        have hs : Hid (∀ n : Int, (if id ∈ s4 then 4 else 0) = n → stand id s1 s2 s3 s4 = n) := fun n hn => by simp [stand, m1, m2, m3, hn]
        clear m1 m2 m3
        by_cases m4 : id ∈ s4
        · have b4 : decide (id ∈ s4) = true := decide_eq_true m4
          have hs4 : Hid (stand id s1 s2 s3 s4 = 4) := hs.out 4 (if_pos m4)
          clear hs m4
          go_enter Try.func24, Try.ntmps24
          go_wp2_with fail
          refine (has_any a1 c1 s1 id B _ h1 n1).mono ?_
          rintro e w1 ⟨rfl, rfl⟩
          go_wp2_with fail
          refine (has_any a2 c2 s2 id B _ h2 n2).mono ?_
          rintro e w1 ⟨rfl, rfl⟩
          go_wp2_with fail
          refine (has_any a3 c3 s3 id B _ h3 n3).mono ?_
          rintro e w1 ⟨rfl, rfl⟩
          go_wp2_with fail
          refine (has_any a4 c4 s4 id B _ h4 n4).mono ?_
          rintro e w1 ⟨rfl, rfl⟩
          go_wp2_with fail
          go_ret
          exact ⟨by rw [hs4.out]; rfl, rfl⟩
        · have b4 : decide (id ∈ s4) = false := decide_eq_false m4
          have hs4 : Hid (stand id s1 s2 s3 s4 = 0) := hs.out 0 (if_neg m4)
          clear hs m4
          go_enter Try.func24, Try.ntmps24
          go_wp2_with fail
          refine (has_any a1 c1 s1 id B _ h1 n1).mono ?_
          rintro e w1 ⟨rfl, rfl⟩
          go_wp2_with fail
          refine (has_any a2 c2 s2 id B _ h2 n2).mono ?_
          rintro e w1 ⟨rfl, rfl⟩
          go_wp2_with fail
          refine (has_any a3 c3 s3 id B _ h3 n3).mono ?_
          rintro e w1 ⟨rfl, rfl⟩
          go_wp2_with fail
          refine (has_any a4 c4 s4 id B _ h4 n4).mono ?_
          rintro e w1 ⟨rfl, rfl⟩
          go_wp2_with fail
          go_ret
          exact ⟨by rw [hs4.out]; rfl, rfl⟩
end Go.Proofs.Qxb6003793a
