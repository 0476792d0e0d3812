import Derived.Test.Qxb6003800aSkipWalks
namespace Go.Proofs.Qxb6003800a
open Go.ChangeShapes Go.WideShapes Go.ChangeAt Go.RowKit
open Skip
set_option linter.unusedVariables false

theorem zzSkipSP (b : Nat) (s : ByteArray) (k : Nat) (w : World) (h : At w b s k) (hk : k ≤ s.size) (hs : s.size ≤ 1048576) :
    Calls Try.prog 9 #[.pointer (some ⟨b, 0, none⟩)] w fun e w' => e = .returned (.tuple #[]) ∧ At w' b s (skip isSP s k) ∧ w.grownBy w' (some b) := by
  go_enter Try.func9, Try.ntmps9
  go_wp2_with (go_at_call 18; refine (skipSP_any b s k _ h hk hs).mono ?_; rintro e w1 ⟨rfl, hA, hg⟩)
  go_end0
  exact ⟨rfl, hA, hg⟩
theorem zzSkipOWS (b : Nat) (s : ByteArray) (k : Nat) (w : World) (h : At w b s k) (hk : k ≤ s.size) (hs : s.size ≤ 1048576) :
    Calls Try.prog 14 #[.pointer (some ⟨b, 0, none⟩)] w fun e w' => e = .returned (.tuple #[]) ∧ At w' b s (skip isOWS s k) ∧ w.grownBy w' (some b) := by
  go_enter Try.func14, Try.ntmps14
  go_wp2_with (go_at_call 21; refine (skipOWS_any b s k _ h hk hs).mono ?_; rintro e w1 ⟨rfl, hA, hg⟩)
  go_end0
  exact ⟨rfl, hA, hg⟩
theorem zzSkipDigits (b : Nat) (s : ByteArray) (k : Nat) (w : World) (h : At w b s k) (hk : k ≤ s.size) (hs : s.size ≤ 1048576) :
    Calls Try.prog 16 #[.pointer (some ⟨b, 0, none⟩)] w fun e w' => e = .returned (.tuple #[]) ∧ At w' b s (skip isDig s k) ∧ w.grownBy w' (some b) := by
  go_enter Try.func16, Try.ntmps16
  go_wp2_with (go_at_call 22; refine (skipDigits_any b s k _ h hk hs).mono ?_; rintro e w1 ⟨rfl, hA, hg⟩)
  go_end0
  exact ⟨rfl, hA, hg⟩
theorem zzPos (b : Nat) (s : ByteArray) (k : Nat) (w : World) (h : At w b s k) :
    Calls Try.prog 10 #[.pointer (some ⟨b, 0, none⟩)] w fun e w' => e = .returned (.int .i64 k) ∧ w' = w := by
  have h1 := h.c1
  go_enter Try.func10, Try.ntmps10
  go_wp2
  go_ret
  exact ⟨rfl, rfl⟩
theorem zzPeek_in (b : Nat) (s : ByteArray) (k : Nat) (w : World) (h : At w b s k) (hk : k < s.size) (hs : s.size ≤ 1048576) :
    Calls Try.prog 11 #[.pointer (some ⟨b, 0, none⟩)] w fun e w' => e = .returned (.int .u8 s[k].toNat) ∧ ∃ n, w' = w.drewN n := by
  go_enter Try.func11, Try.ntmps11
  go_wp2_with (go_at_call 19; refine (peek_in b s k _ h hk hs).mono ?_; rintro e w1 ⟨rfl, n, rfl⟩)
  go_ret
  exact ⟨rfl, n, rfl⟩
theorem zzPeek_end (b : Nat) (s : ByteArray) (w : World) (h : At w b s s.size) (hs : s.size ≤ 1048576) :
    Calls Try.prog 11 #[.pointer (some ⟨b, 0, none⟩)] w fun e w' => e = .returned (.int .u8 0) ∧ ∃ n, w' = w.drewN n := by
  go_enter Try.func11, Try.ntmps11
  go_wp2_with (go_at_call 19; refine (peek_end b s _ h hs).mono ?_; rintro e w1 ⟨rfl, n, rfl⟩)
  go_ret
  exact ⟨rfl, n, rfl⟩
theorem zzParserAt (s : ByteArray) (k : Nat) (w : World) :
    Calls Try.prog 8 #[.string s, .int .i64 k] w fun e w' => e = .returned (.pointer (some ⟨w.heap.size, 0, none⟩)) ∧ At w' w.heap.size s k ∧ w.grownBy w' none := by
  go_enter Try.func8, Try.ntmps8
  go_wp2
  go_ret
  exact ⟨rfl, At.new w s k, World.grownBy_alloc _ _ _⟩
theorem grown_none {w w1 w2 : World} (h : w.grownBy w1 none) (k : w1.grownBy w2 (some w.heap.size)) : w.grownBy w2 none :=
  ⟨k.os.trans h.os, k.tape.trans h.tape, k.output.trans h.output, Nat.le_trans h.size k.size, fun i hi hne => (k.block i (Nat.lt_of_lt_of_le hi h.size) (fun e => by cases e; omega)).trans (h.block i hi hne)⟩
theorem newParser (s : ByteArray) (w : World) (hs : s.size ≤ 1048576) :
    Calls Try.prog 20 #[.string s] w fun e w' => e = .returned (.pointer (some ⟨w.heap.size, 0, none⟩)) ∧ At w' w.heap.size s (skip isSP s 0) ∧ w.grownBy w' none := by
  go_enter Try.func20, Try.ntmps20
  go_wp2_with (go_at_call 18; refine (skipSP_any w.heap.size s 0 _ (At.new w s 0) (Nat.zero_le _) hs).mono ?_; rintro e w1 ⟨rfl, hA, hg⟩)
  go_ret
  exact ⟨rfl, hA, grown_none (World.grownBy_alloc _ _ _) hg⟩
theorem zzNewParser (s : ByteArray) (w : World) (hs : s.size ≤ 1048576) :
    Calls Try.prog 12 #[.string s] w fun e w' => e = .returned (.pointer (some ⟨w.heap.size, 0, none⟩)) ∧ At w' w.heap.size s (skip isSP s 0) ∧ w.grownBy w' none := by
  go_enter Try.func12, Try.ntmps12
  go_wp2_with (go_at_call 20; refine (newParser s _ hs).mono ?_; rintro e w1 ⟨rfl, hA, hg⟩)
  go_ret
  exact ⟨rfl, hA, hg⟩
/-- What the parser's block keeps while only new blocks and this one are written. -/
theorem below_none {B : Nat} {w0 w w' : World} (h : Below B w0 w) (hB : B ≤ w.heap.size) (hg : w.grownBy w' none) : Below B w0 w' := h.grown hg hB (fun k e => by cases e)
theorem below_some {B b : Nat} {w0 w w' : World} (h : Below B w0 w) (hB : B ≤ w.heap.size) (hb : B ≤ b) (hg : w.grownBy w' (some b)) : Below B w0 w' := h.grown hg hB (fun k e => by cases e; exact hb)
end Go.Proofs.Qxb6003800a
