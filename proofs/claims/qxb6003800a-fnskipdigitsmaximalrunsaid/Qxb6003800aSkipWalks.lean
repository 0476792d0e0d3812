import Derived.Test.Qxb6003800aRows
import Derived.Test.Qxb6003800aSkip
import Derived.WalkKit
import Derived.ProofKit
import Derived.WalkLawsBesides
import Derived.Deep.QuietTactic
import Derived.BigQuiet
namespace Go.Proofs.Qxb6003800a
open Go.ChangeShapes Go.WideShapes Go.ChangeAt Go.RowKit
open Skip
set_option linter.unusedVariables false

/-- Block b is a parser over s that stands at k. -/
def At (w : World) (b : Nat) (s : ByteArray) (k : Nat) : Prop := w.heap[b]? = some (.cells #[.string s, .int .i64 k] 33 (0, 0))

theorem At.c0 {w : World} {b : Nat} {s : ByteArray} {k : Nat} (h : At w b s k) : w.cell? ⟨b, 0, none⟩ = some (.string s) := by
  unfold At at h; simp [World.cell?, h]
theorem At.c1 {w : World} {b : Nat} {s : ByteArray} {k : Nat} (h : At w b s k) : w.cell? ⟨b, 1, none⟩ = some (.int .i64 k) := by
  unfold At at h; simp [World.cell?, h]
theorem At.f1 {w : World} {b : Nat} {s : ByteArray} {k : Nat} (h : At w b s k) : w.frozen? ⟨b, 1, none⟩ = false := by
  unfold At at h; simp [World.frozen?, h]
theorem At.new (w : World) (s : ByteArray) (k : Nat) : At (w.alloc (.cells #[.string s, .int .i64 k] 33)) w.heap.size s k := heap_alloc_new w _
theorem At.drewN {w : World} {b : Nat} {s : ByteArray} {k : Nat} (h : At w b s k) (n : Nat) : At (w.drewN n) b s k := h
theorem At.moved {w : World} {b : Nat} {s : ByteArray} {k : Nat} (h : At w b s k) (j : Nat) : At (w.setCell ⟨b, 1, none⟩ (.int .i64 j)) b s j := by
  unfold At at *
  rw [heap_setCell_same w b 1 _ 33 _ h]
  rfl
theorem At.kept {w w' : World} {b : Nat} {s : ByteArray} {k : Nat} {row : Option Nat} (h : At w b s k) (hg : w.grownBy w' row) (hne : some b ≠ row) : At w' b s k := by
  unfold At at *
  rw [hg.block b (Array.getElem?_eq_some_iff.1 h).1 hne]
  exact h
theorem gtrans {a b c : World} {row : Option Nat} (h : a.grownBy b row) (k : b.grownBy c row) : a.grownBy c row :=
  ⟨k.os.trans h.os, k.tape.trans h.tape, k.output.trans h.output, Nat.le_trans h.size k.size, fun i hi hne => (k.block i (Nat.lt_of_lt_of_le hi h.size) hne).trans (h.block i hi hne)⟩
theorem grown_drewN (w : World) (n : Nat) (row : Option Nat) : w.grownBy (w.drewN n) row := ⟨rfl, rfl, rfl, Nat.le_refl _, fun _ _ _ => rfl⟩
theorem grown_setCell (w : World) (b o : Nat) (v : Value) : w.grownBy (w.setCell ⟨b, o, none⟩ v) (some b) :=
  ⟨rfl, rfl, rfl, by simp [World.setCell], fun k _ hk => Below.heap_setCell _ _ _ _ (fun e => hk (by rw [e]))⟩

theorem done_not (b : Nat) (s : ByteArray) (k : Nat) (w : World) (h : At w b s k) (hk : k < s.size) (hs : s.size ≤ 1048576) :
    Calls Try.prog 24 #[.pointer (some ⟨b, 0, none⟩)] w fun e w' => e = .returned (.bool false) ∧ ∃ n, w' = w.drewN n := by
  have h0 := h.c0
  have h1 := h.c1
  clear h
  have hne : ((k : Int) == (s.size : Int)) = false := by simp; omega
  go_enter Try.func24, Try.ntmps24
  go_wp2
  go_quiet (fail)
  go_wp2
  go_ret
  exact ⟨rfl, _, rfl⟩
theorem done_yes (b : Nat) (s : ByteArray) (w : World) (h : At w b s s.size) (hs : s.size ≤ 1048576) :
    Calls Try.prog 24 #[.pointer (some ⟨b, 0, none⟩)] w fun e w' => e = .returned (.bool true) ∧ ∃ n, w' = w.drewN n := by
  have h0 := h.c0
  have h1 := h.c1
  clear h
  go_enter Try.func24, Try.ntmps24
  go_wp2
  go_quiet (fail)
  go_wp2
  go_ret
  exact ⟨by simp, _, rfl⟩

theorem peek_in (b : Nat) (s : ByteArray) (k : Nat) (w : World) (h : At w b s k) (hk : k < s.size) (hs : s.size ≤ 1048576) :
    Calls Try.prog 19 #[.pointer (some ⟨b, 0, none⟩)] w fun e w' => e = .returned (.int .u8 s[k].toNat) ∧ ∃ n, w' = w.drewN n := by
  have h0 := h.c0
  have h1 := h.c1
  have hd : (k : Int) < (s.size : Int) := by omega
  go_enter Try.func19, Try.ntmps19
  go_wp2_with (go_at_call 24; refine (done_not b s k _ h hk hs).mono ?_; rintro e w1 ⟨rfl, n, rfl⟩)
  go_quiet (fail)
  go_wp2
  go_ret
  exact ⟨by simp, _, World.drewN_drewN _ _ _⟩

theorem peek_end (b : Nat) (s : ByteArray) (w : World) (h : At w b s s.size) (hs : s.size ≤ 1048576) :
    Calls Try.prog 19 #[.pointer (some ⟨b, 0, none⟩)] w fun e w' => e = .returned (.int .u8 0) ∧ ∃ n, w' = w.drewN n := by
  go_enter Try.func19, Try.ntmps19
  go_wp2_with (go_at_call 24; refine (done_yes b s _ h hs).mono ?_; rintro e w1 ⟨rfl, n, rfl⟩)
  go_ret
  exact ⟨rfl, _, rfl⟩

/-- How far the parser in block b has still to go. -/
def leftOf (s : ByteArray) (b : Nat) (w : World) : Nat := match w.cell? ⟨b, 1, none⟩ with | some (.int _ n) => s.size - n.toNat | _ => 0
theorem At.left {w : World} {b : Nat} {s : ByteArray} {k : Nat} (h : At w b s k) : leftOf s b w = s.size - k := by
  unfold leftOf
  rw [h.c1]
  simp
theorem At.moved1 {w : World} {b : Nat} {s : ByteArray} {k : Nat} (h : At w b s k) : At (w.setCell ⟨b, 1, none⟩ (.int .i64 ((k : Int) + 1))) b s (k + 1) := by
  have := h.moved (k + 1)
  simpa using this
theorem At.less {w : World} {b : Nat} {s : ByteArray} {k : Nat} (h : At w b s k) (hk : k < s.size) {w' : World} (h' : At w' b s (k + 1)) : leftOf s b w' < leftOf s b w := by
  rw [h.left, h'.left]
  omega

def isSP (c : UInt8) : Bool := c == 32
def isOWS (c : UInt8) : Bool := c == 32 || c == 9
def isDig (c : UInt8) : Bool := decide (48 ≤ c) && decide (c ≤ 57)

theorem isSP_t {c : UInt8} : isSP c = true ↔ ((c.toNat : Int) == 32) = true := by
  unfold isSP
  rw [beq_iff_eq, beq_iff_eq, ← UInt8.toNat_inj]
  show c.toNat = 32 ↔ _
  omega

set_option maxHeartbeats 400000 in
theorem skipSP_any (b : Nat) (s : ByteArray) (k : Nat) (w : World) (h : At w b s k) (hk : k ≤ s.size) (hs : s.size ≤ 1048576) :
    Calls Try.prog 18 #[.pointer (some ⟨b, 0, none⟩)] w fun e w' => e = .returned (.tuple #[]) ∧ At w' b s (skip isSP s k) ∧ w.grownBy w' (some b) := by
  go_enter Try.func18, Try.ntmps18
  go_wp2_with fail
  go_loopw [2] (fun _ wr => ∃ j, j ≤ s.size ∧ skip isSP s j = skip isSP s k ∧ At wr b s j ∧ w.grownBy wr (some b)) (fun _ wr => leftOf s b wr)
  case atStart => exact ⟨k, hk, rfl, h, World.grownBy.refl _ _⟩
  case round =>
    obtain ⟨j, hj, he, hA, hg⟩ := hrel
    have h1 := hA.c1
    have f1 := hA.f1
    have HE : Hid (skip isSP s j = skip isSP s k) := he
    clear he
    by_cases hlt : j < s.size
    · by_cases hc : isSP s[j] = true
      · have hc' := isSP_t.1 hc
        go_wp2_with (first | (go_at_call 19; refine (peek_in b s j _ (by first | exact hA | exact hA.drewN _) hlt hs).mono ?_; rintro e w1 ⟨rfl, n, rfl⟩))
        all_goals go_roundw
        case rel => exact ⟨j + 1, by omega, by rw [skip_step hlt hc]; exact HE.out, (hA.drewN _).moved1, gtrans (gtrans hg (grown_drewN _ _ _)) (grown_setCell _ _ _ _)⟩
        case measure => exact hA.less hlt ((hA.drewN _).moved1)
      · have hc' : ((s[j].toNat : Int) == 32) = false := by simpa using mt isSP_t.2 hc
        go_wp2_with (first | (go_at_call 19; refine (peek_in b s j _ (by first | exact hA | exact hA.drewN _) hlt hs).mono ?_; rintro e w1 ⟨rfl, n, rfl⟩))
        go_end0
        refine ⟨rfl, ?_, gtrans hg (grown_drewN _ _ _)⟩
        rw [← HE.out, skip_stop hlt (by simpa using hc)]
        exact hA.drewN _
    · obtain rfl : j = s.size := by omega
      go_wp2_with (first | (go_at_call 19; refine (peek_end b s _ (by first | exact hA | exact hA.drewN _) hs).mono ?_; rintro e w1 ⟨rfl, n, rfl⟩))
      go_end0
      refine ⟨rfl, ?_, gtrans hg (grown_drewN _ _ _)⟩
      rw [← HE.out, skip_end (Nat.le_refl _)]
      exact hA.drewN _

theorem isDig_t {c : UInt8} (h : isDig c = true) : 48 ≤ (c.toNat : Int) ∧ (c.toNat : Int) ≤ 57 := by
  unfold isDig at h
  simp [UInt8.le_iff_toNat_le] at h
  omega
theorem isDig_f {c : UInt8} (h : ¬ isDig c = true) : (c.toNat : Int) < 48 ∨ 57 < (c.toNat : Int) := by
  unfold isDig at h
  simp [UInt8.le_iff_toNat_le] at h
  omega

set_option maxHeartbeats 400000 in
theorem skipDigits_any (b : Nat) (s : ByteArray) (k : Nat) (w : World) (h : At w b s k) (hk : k ≤ s.size) (hs : s.size ≤ 1048576) :
    Calls Try.prog 22 #[.pointer (some ⟨b, 0, none⟩)] w fun e w' => e = .returned (.tuple #[]) ∧ At w' b s (skip isDig s k) ∧ w.grownBy w' (some b) := by
  go_enter Try.func22, Try.ntmps22
  go_wp2_with fail
  go_loopw [2] (fun _ wr => ∃ j, j ≤ s.size ∧ skip isDig s j = skip isDig s k ∧ At wr b s j ∧ w.grownBy wr (some b)) (fun _ wr => leftOf s b wr)
  case atStart => exact ⟨k, hk, rfl, h, World.grownBy.refl _ _⟩
  case round =>
    obtain ⟨j, hj, he, hA, hg⟩ := hrel
    have h1 := hA.c1
    have f1 := hA.f1
    have HE : Hid (skip isDig s j = skip isDig s k) := he
    clear he
    by_cases hlt : j < s.size
    · by_cases hc : isDig s[j] = true
      · obtain ⟨hc1, hc2⟩ := isDig_t hc
        go_wp2_with (first | (go_at_call 19; refine (peek_in b s j _ hA hlt hs).mono ?_; rintro e w1 ⟨rfl, n, rfl⟩) | go_in)
        go_roundw
        case rel => exact ⟨j + 1, by omega, by rw [skip_step hlt hc]; exact HE.out, (hA.drewN _).moved1, gtrans (gtrans hg (grown_drewN _ _ _)) (grown_setCell _ _ _ _)⟩
        case measure => exact hA.less hlt ((hA.drewN _).moved1)
      · rcases isDig_f hc with hc' | hc'
        · go_wp2_with (first | (go_at_call 19; refine (peek_in b s j _ hA hlt hs).mono ?_; rintro e w1 ⟨rfl, n, rfl⟩) | go_in)
          go_end0
          refine ⟨rfl, ?_, gtrans hg (grown_drewN _ _ _)⟩
          rw [← HE.out, skip_stop hlt (by simpa using hc)]
          exact hA.drewN _
        · have hc2 : 48 ≤ (s[j].toNat : Int) := by omega
          go_wp2_with (first | (go_at_call 19; refine (peek_in b s j _ hA hlt hs).mono ?_; rintro e w1 ⟨rfl, n, rfl⟩) | go_in)
          go_end0
          refine ⟨rfl, ?_, gtrans hg (grown_drewN _ _ _)⟩
          rw [← HE.out, skip_stop hlt (by simpa using hc)]
          exact hA.drewN _
    · obtain rfl : j = s.size := by omega
      go_wp2_with (first | (go_at_call 19; refine (peek_end b s _ hA hs).mono ?_; rintro e w1 ⟨rfl, n, rfl⟩) | go_in)
      go_end0
      refine ⟨rfl, ?_, gtrans hg (grown_drewN _ _ _)⟩
      rw [← HE.out, skip_end (Nat.le_refl _)]
      exact hA.drewN _

theorem is32_t {c : UInt8} : c = 32 ↔ ((c.toNat : Int) == 32) = true := by
  rw [beq_iff_eq, ← UInt8.toNat_inj]
  show c.toNat = 32 ↔ _
  omega
theorem is9_t {c : UInt8} : c = 9 ↔ ((c.toNat : Int) == 9) = true := by
  rw [beq_iff_eq, ← UInt8.toNat_inj]
  show c.toNat = 9 ↔ _
  omega

set_option maxHeartbeats 400000 in
theorem skipOWS_any (b : Nat) (s : ByteArray) (k : Nat) (w : World) (h : At w b s k) (hk : k ≤ s.size) (hs : s.size ≤ 1048576) :
    Calls Try.prog 21 #[.pointer (some ⟨b, 0, none⟩)] w fun e w' => e = .returned (.tuple #[]) ∧ At w' b s (skip isOWS s k) ∧ w.grownBy w' (some b) := by
  go_enter Try.func21, Try.ntmps21
  go_wp2_with fail
  go_loopw [2] (fun _ wr => ∃ j, j ≤ s.size ∧ skip isOWS s j = skip isOWS s k ∧ At wr b s j ∧ w.grownBy wr (some b)) (fun _ wr => leftOf s b wr)
  case atStart => exact ⟨k, hk, rfl, h, World.grownBy.refl _ _⟩
  case round =>
    obtain ⟨j, hj, he, hA, hg⟩ := hrel
    have h1 := hA.c1
    have f1 := hA.f1
    have HE : Hid (skip isOWS s j = skip isOWS s k) := he
    clear he
    by_cases hlt : j < s.size
    · by_cases hc : s[j] = 32
      · have hp : isOWS s[j] = true := by simp [isOWS, hc]
        have hc' := is32_t.1 hc
        clear hc
        go_wp2_with (go_at_call 19; refine (peek_in b s j _ hA hlt hs).mono ?_; rintro e w1 ⟨rfl, n, rfl⟩)
        go_roundw
        case rel => exact ⟨j + 1, by omega, by rw [skip_step hlt hp]; exact HE.out, (hA.drewN _).moved1, gtrans (gtrans hg (grown_drewN _ _ _)) (grown_setCell _ _ _ _)⟩
        case measure => exact hA.less hlt ((hA.drewN _).moved1)
      · have hc' : ((s[j].toNat : Int) == 32) = false := by simpa using mt is32_t.2 hc
        by_cases hd : s[j] = 9
        · have hp : isOWS s[j] = true := by simp [isOWS, hd]
          have hd' := is9_t.1 hd
          clear hc hd
          go_wp2_with (first | (go_at_call 19; refine (peek_in b s j wr hA hlt hs).mono ?_; rintro e w1 ⟨rfl, n, rfl⟩) | (go_at_call 19; refine (peek_in b s j (wr.drewN n) (hA.drewN n) hlt hs).mono ?_; rintro e w1 ⟨rfl, n2, rfl⟩))
          go_roundw
          case rel => exact ⟨j + 1, by omega, by rw [skip_step hlt hp]; exact HE.out, by exact (hA.drewN (n + n2)).moved1, by exact gtrans (gtrans hg (grown_drewN _ (n + n2) _)) (grown_setCell _ _ _ _)⟩
          case measure => exact hA.less hlt ((hA.drewN (n + n2)).moved1)
        · have hp : isOWS s[j] = false := by simp [isOWS, hc, hd]
          have hd' : ((s[j].toNat : Int) == 9) = false := by simpa using mt is9_t.2 hd
          clear hc hd
          go_wp2_with (first | (go_at_call 19; refine (peek_in b s j wr hA hlt hs).mono ?_; rintro e w1 ⟨rfl, n, rfl⟩) | (go_at_call 19; refine (peek_in b s j (wr.drewN n) (hA.drewN n) hlt hs).mono ?_; rintro e w1 ⟨rfl, n2, rfl⟩))
          go_end0
          refine ⟨rfl, ?_, gtrans hg (grown_drewN _ (n + n2) _)⟩
          rw [← HE.out, skip_stop hlt hp]
          exact hA.drewN (n + n2)
    · obtain rfl : j = s.size := by omega
      go_wp2_with (first | (go_at_call 19; refine (peek_end b s wr hA hs).mono ?_; rintro e w1 ⟨rfl, n, rfl⟩) | (go_at_call 19; refine (peek_end b s (wr.drewN n) (hA.drewN n) hs).mono ?_; rintro e w1 ⟨rfl, n2, rfl⟩))
      go_end0
      refine ⟨rfl, ?_, gtrans hg (grown_drewN _ (n + n2) _)⟩
      rw [← HE.out, skip_end (Nat.le_refl _)]
      exact hA.drewN (n + n2)

end Go.Proofs.Qxb6003800a
