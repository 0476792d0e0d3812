import Derived.Test.Qxb6003793aClone
import Derived.Lib.AppendZerosOnto
import Derived.Laws.AppendOwnNone
namespace Go.Proofs.Qxb6003793a
open Go.ChangeShapes Go.WideShapes Go.ChangeAt Go.RowKit
open Pl
set_option linter.unusedVariables false

theorem grow_zero (w : World) : Calls Try.prog 37 #[.slice none 0 0, .int .i64 0] w fun e w' => e = .returned (.slice none 0 0) ∧ w' = w := by
  go_enter Try.func37, Try.ntmps37
  go_wp2
  go_ret
  exact ⟨rfl, rfl⟩

set_option maxHeartbeats 1000000 in
set_option maxRecDepth 100000 in
theorem grow_pos (n : Nat) (w : World) (h0 : 0 < n) (hn : n ≤ 100000) : Calls Try.prog 37 #[.slice none 0 0, .int .i64 n] w fun e w' => ∃ G, n ≤ G ∧ G ≤ maxLen ∧ e = .returned (.slice (some ⟨w.heap.size, 0, none⟩) 0 G) ∧
    ∃ cur : Array Value, cur.size = G ∧ w' = w.drew.alloc (.cells cur 9) := by
  obtain ⟨i0, hi0, hz0, hz1, hz2⟩ := info_parts info9
  have hold : (Builtin.firstCells i0.size 0 (.slice none 0 0)).run Try.prog w.drew = .ok ([] : List Value).toArray w.drew := run_firstCells_none w.drew i0.size 0 0 0
  have hrz := fun ty => Lib.run_append_grow_zeros (P := Try.prog) w 36 3 ty 9 i0 (.string ByteArray.empty) .i64 .i64 Try.underlying36 Try.underlying3 hi0 hz0 none 0 0 [] hold n h0 (by omega) (by omega) (by omega) (by rw [hz2]; omega)
    (by rw [Nat.zero_add]; exact growslice_fits (by omega) (by rw [hz2]; omega))
  simp only [Nat.zero_add] at hrz
  have hGn : n ≤ grownCap w n 0 9 := grownCap_ge w _ _ _
  have hGm : grownCap w n 0 9 ≤ maxLen := grownCap_le_maxLen w n 0 9 (by unfold maxLen; omega)
  have hsz : (([] : List Value).toArray ++ Builtin.zeroCells (Value.string ByteArray.empty).cells n ++ Builtin.zeroCells (Value.string ByteArray.empty).cells (grownCap w n 0 9 - n)).size = grownCap w n 0 9 := by
    simp [Builtin.zeroCells, Value.cells]
    omega
  obtain ⟨cur, hcur⟩ : ∃ cur, cur = ([] : List Value).toArray ++ Builtin.zeroCells (Value.string ByteArray.empty).cells n ++ Builtin.zeroCells (Value.string ByteArray.empty).cells (grownCap w n 0 9 - n) := ⟨_, rfl⟩
  rw [← hcur] at hrz hsz
  clear hcur hold
  generalize grownCap w n 0 9 = G at *
  unfold maxLen at hGm
  go_enter Try.func37, Try.ntmps37
  go_wp2_with (at_builtin; refine Lib.wpList_append_run _ rfl _ _ _ _ rfl _ _ rfl rfl _ _ (hrz _) ?_)
  all_goals go_ret
  all_goals exact ⟨G, hGn, by unfold maxLen; omega, rfl, cur, hsz, rfl⟩

/-- Grow of nil: a slice of the call's own that holds nothing. -/
theorem grow_any (n : Nat) (w : World) (hn : n ≤ 100000) : Calls Try.prog 37 #[.slice none 0 0, .int .i64 n] w fun e w' => (∃ v, e = .returned v ∧ w'.ownsRow w.heap.size 9 1 v 0 []) ∧ Below w.heap.size w w' := by
  by_cases h0 : n = 0
  · subst h0
    refine (grow_zero w).mono ?_
    rintro e w' ⟨rfl, rfl⟩
    exact ⟨⟨_, rfl, World.ownsRow_nil _ _ _ _⟩, Below.refl _ _⟩
  · refine (grow_pos n w (by omega) hn).mono ?_
    rintro e w' ⟨G, h1, h2, rfl, cur, h3, rfl⟩
    exact ⟨⟨_, rfl, World.ownsRow_made w.drew cur G (Nat.le_refl _) h2 (by omega)⟩, (Below.refl _ w).drew.alloc (Nat.le_refl _) _⟩
/-- What the source of an append must be: its cells lie at its address; nil: nothing. -/
theorem news_of {w : World} {B : Nat} {ad : Addr} {xs : List Value} (h : Row w B (some ad) xs) : ∀ j u, xs[j]? = some u → w.cell? (ad.add j) = some u := by
  intro j u hu
  obtain ⟨hj, rfl⟩ := List.getElem?_eq_some_iff.1 hu
  obtain ⟨b, off, e, _, hc⟩ := h j hj
  cases e
  rw [Addr.add_lit]
  exact hc

set_option maxRecDepth 100000 in
set_option maxHeartbeats 4000000 in
theorem concat_any (gb : Nat) (a1 a2 : Option Addr) (c1 c2 : Nat) (s1 s2 : List Str) (B : Nat) (w : World) (hB : B ≤ w.heap.size) (hgb : gb < B) (q0 : w.cell? ⟨gb, 0, none⟩ = some (.slice a1 s1.length c1)) (q1 : w.cell? ⟨gb, 1, none⟩ = some (.slice a2 s2.length c2))
    (h1 : Strs w B a1 s1) (h2 : Strs w B a2 s2) (n1 : s1.length ≤ 10000) (n2 : s2.length ≤ 10000) (z1 : a1 = none → s1 = [] ∧ c1 = 0) (z2 : a2 = none → s2 = [] ∧ c2 = 0) :
    Calls Try.prog 34 #[.slice (some ⟨gb, 0, none⟩) 2 2] w fun e w' => (∃ v, e = .returned v ∧ w'.ownsRow w.heap.size 9 1 v (s1.length + s2.length) ((s1 ++ s2).map encStr)) ∧ Below w.heap.size w w' := by
  obtain ⟨i0, hi0, hz0, hz1, hz2⟩ := info_parts info9
  go_enter Try.func34, Try.ntmps34
  go_wp2
  go_loop [3, 11] (fun sz i => (i = .int .i64 0 ∧ sz = .int .i64 0) ∨ (i = .int .i64 1 ∧ sz = .int .i64 s1.length) ∨ (i = .int .i64 2 ∧ sz = .int .i64 ((s1.length : Int) + s2.length))) (fun _ i => 2 - (intOf i).toNat)
  case atStart => exact .inl ⟨rfl, rfl⟩
  case round =>
    rcases hrel with ⟨rfl, rfl⟩ | ⟨rfl, rfl⟩ | ⟨rfl, rfl⟩
    · go_wp2
      go_round
      case rel => exact .inr (.inl ⟨rfl, rfl⟩)
      case measure => simp [intOf]
    · go_wp2
      go_round
      case rel => exact .inr (.inr ⟨rfl, rfl⟩)
      case measure => simp [intOf]
    · go_wp2_with fail
      refine (grow_any (s1.length + s2.length) w (by omega)).mono ?_
      rintro e w1 ⟨⟨v1, rfl, hown1⟩, hb1⟩
      go_wp2_with fail
      go_loopw [6, 27] (fun out i wr => ∃ (dn : List Str), wr.ownsRow w.heap.size 9 1 out dn.length (dn.map encStr) ∧ Below w.heap.size w wr ∧ ((i = .int .i64 0 ∧ dn = []) ∨ (i = .int .i64 1 ∧ dn = s1) ∨ (i = .int .i64 2 ∧ dn = s1 ++ s2))) (fun _ i _ => 2 - (intOf i).toNat)
      case atStart => exact ⟨[], hown1, hb1, .inl ⟨rfl, rfl⟩⟩
      case round =>
        clear hown1 hb1
        obtain ⟨dn, hown, hbel, hcs⟩ := hrel
        have hsz := hbel.size
        rcases hcs with ⟨rfl, rfl⟩ | ⟨rfl, rfl⟩ | ⟨rfl, rfl⟩
        · have hq := (hbel.cell (p := ⟨gb, 0, none⟩) (by simp; omega)).trans q0
          have hS := h1.below hbel hB
          cases a1 with
          | none =>
            obtain ⟨rfl, rfl⟩ := z1 rfl
            go_wp2_with (at_builtin; refine wpList_append_own_none rfl (.tmp 31) (.tmp 32) 36 rfl w.heap.size 9 i0 1 Try.underlying36 hi0 _ _ _ rfl hown rfl ?_)
            go_roundw
            case rel => exact ⟨_, _, _, ⟨[], hown, .inr (.inl ⟨rfl, rfl⟩)⟩, rfl, rfl, rfl⟩
            case measure => simp [intOf]
          | some ad =>
            go_wp2_with (at_builtin; refine wpList_append_own _ rfl (.tmp 31) (.tmp 32) 36 rfl w.heap.size 9 i0 (.string ByteArray.empty) 1 16 Try.underlying36 hi0 hz0 hz1 hz2 rfl (by decide) _ _ _ rfl hown ad s1.length c1 (s1.map encStr) rfl (by simp) (news_of hS) (encs_oneCell _) (by unfold maxLen; first | omega | (simp; omega)) (by first | omega | (simp; omega)) hsz ?_; intro v2 w2 hown2 hgrow2 hnil2)
            go_roundw
            case rel =>
              refine ⟨s1, ?_, hbel.grown hgrow2 hsz (fun j e => (hown.lt j e).1), .inr (.inl ⟨rfl, rfl⟩)⟩
              simpa using hown2
            case measure => simp [intOf]
        · have hq := (hbel.cell (p := ⟨gb, 1, none⟩) (by simp; omega)).trans q1
          have hS := h2.below hbel hB
          cases a2 with
          | none =>
            obtain ⟨rfl, rfl⟩ := z2 rfl
            go_wp2_with (at_builtin; refine wpList_append_own_none rfl (.tmp 31) (.tmp 32) 36 rfl w.heap.size 9 i0 1 Try.underlying36 hi0 _ _ _ rfl hown rfl ?_)
            go_roundw
            case rel => exact ⟨_, _, _, ⟨dn, hown, .inr (.inr ⟨rfl, by simp⟩)⟩, rfl, rfl, rfl⟩
            case measure => simp [intOf]
          | some ad =>
            go_wp2_with (at_builtin; refine wpList_append_own _ rfl (.tmp 31) (.tmp 32) 36 rfl w.heap.size 9 i0 (.string ByteArray.empty) 1 16 Try.underlying36 hi0 hz0 hz1 hz2 rfl (by decide) _ _ _ rfl hown ad s2.length c2 (s2.map encStr) rfl (by simp) (news_of hS) (encs_oneCell _) (by unfold maxLen; first | omega | (simp; omega)) (by first | omega | (simp; omega)) hsz ?_; intro v2 w2 hown2 hgrow2 hnil2)
            go_roundw
            case rel =>
              refine ⟨dn ++ s2, ?_, hbel.grown hgrow2 hsz (fun j e => (hown.lt j e).1), .inr (.inr ⟨rfl, rfl⟩)⟩
              simpa using hown2
            case measure => simp [intOf]
        · go_wp2_with fail
          go_ret
          refine ⟨⟨_, rfl, ?_⟩, hbel⟩
          simpa using hown
end Go.Proofs.Qxb6003793a
