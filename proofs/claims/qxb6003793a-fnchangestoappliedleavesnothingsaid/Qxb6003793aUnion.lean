import Derived.Test.Qxb6003793aIsort
namespace Go.Proofs.Qxb6003793a
open Go.ChangeShapes Go.WideShapes Go.ChangeAt Go.RowKit
open Pl
set_option linter.unusedVariables false

theorem isortS_any (a : Option Addr) (c lo : Nat) (ss : List Str) (w : World) (h : OwnS w lo a ss) (hlo : lo ≤ w.heap.size) (hn : ss.length ≤ 100000) :
    Calls Try.prog 32 #[.slice a ss.length c] w fun e w' => e = .returned (.tuple #[]) ∧ (∃ ss' : List Str, ss'.length = ss.length ∧ ss'.Perm ss ∧ ss'.Pairwise (· ≤ ·) ∧ OwnS w' lo a ss') ∧ Below lo w w' := by
  rcases h with ⟨rfl, rfl⟩ | ⟨g, rfl, hg, hb⟩
  · refine (isort_nil none c w).mono ?_
    rintro e w' ⟨rfl, rfl⟩
    exact ⟨rfl, ⟨[], rfl, List.Perm.refl _, by simp, .inl ⟨rfl, rfl⟩⟩, Below.refl _ _⟩
  · refine (isort_any g c ss w hb hn).mono ?_
    rintro e w' ⟨rfl, ⟨ss', p1, p2, p3⟩, hgr⟩
    exact ⟨rfl, ⟨ss', p1.length_eq, p1, p2, .inr ⟨g, rfl, hg, p3⟩⟩, (Below.refl _ _).grown hgr hlo (fun k e => by cases e; exact hg)⟩

/-- What zzUnion gives. -/
structure UnionOK (s1 s2 s3 s4 ks us : List Str) : Prop where
  up : us.Pairwise (· < ·)
  mem : ∀ x, x ∈ us ↔ x ∈ s1 ∨ x ∈ s2 ∨ x ∈ s3 ∨ x ∈ s4 ∨ x ∈ ks
  le : us.length ≤ 100000

set_option maxRecDepth 100000 in
set_option maxHeartbeats 4000000 in
theorem union_any (a1 a2 a3 a4 ak : Option Addr) (c1 c2 c3 c4 ck : Nat) (s1 s2 s3 s4 ks : List Str) (B : Nat) (w : World) (h1 : Strs w B a1 s1) (h2 : Strs w B a2 s2) (h3 : Strs w B a3 s3) (h4 : Strs w B a4 s4) (hk : Strs w B ak ks) (hB : B ≤ w.heap.size)
    (hnil : ak = none → ks = []) (hv : ViewOK s1 s2 s3 s4) (nk : ks.length ≤ 1024) :
    Calls Try.prog 22 #[.slice a1 s1.length c1, .slice a2 s2.length c2, .slice a3 s3.length c3, .slice a4 s4.length c4, .slice ak ks.length ck] w fun e w' =>
      (∃ a' c' us, e = .returned (.slice a' us.length c') ∧ Strs w' w'.heap.size a' us ∧ UnionOK s1 s2 s3 s4 ks us) ∧ Below w.heap.size w w' := by
  obtain ⟨i0, hi0, hz0, hz1, hz2⟩ := info_parts info9
  have n1 := hv.n1
  have n2 := hv.n2
  have n3 := hv.n3
  have n4 := hv.n4
  go_enter Try.func22, Try.ntmps22
  go_wp2_with fail
  refine (cloneS_any ak ck ks B w hk hB (by omega) hnil).mono ?_
  rintro e w1 ⟨⟨ak', rfl, ho1⟩, hb1⟩
  have z1 := hb1.size
  clear hnil hk
  go_wp2_with fail
  refine (isortS_any ak' ks.length w.heap.size ks w1 ho1 z1 (by omega)).mono ?_
  rintro e w2 ⟨rfl, ⟨ks', hkl, hkp, hks, ho2⟩, hb2⟩
  have z2 := hb2.size
  have HKL : Hid (ks'.length = ks.length) := hkl
  have HKP : Hid (ks'.Perm ks) := hkp
  have HKS : Hid (ks'.Pairwise (· ≤ ·)) := hks
  clear hkl hkp hks ho1
  have B2 : Below w.heap.size w w2 := hb1.trans hb2
  clear hb1 hb2
  have g1 := (h1.below B2 hB).mono (show B ≤ w2.heap.size by omega)
  have g2 := (h2.below B2 hB).mono (show B ≤ w2.heap.size by omega)
  have g3 := (h3.below B2 hB).mono (show B ≤ w2.heap.size by omega)
  have g4 := (h4.below B2 hB).mono (show B ≤ w2.heap.size by omega)
  have gk := ho2.strs
  clear h1 h2 h3 h4
  go_wp2_with fail
  refine (merge_any a1 a2 c1 c2 s1 s2 w2.heap.size w2 g1 g2 (Nat.le_refl _) (by omega) (by omega)).mono ?_
  rintro e w3 ⟨rfl, g5, hb3⟩
  have z3 := hb3.size
  go_wp2_with fail
  refine (merge_any a3 a4 c3 c4 s3 s4 w2.heap.size w3 (g3.below hb3 (Nat.le_refl _)) (g4.below hb3 (Nat.le_refl _)) z3 (by omega) (by omega)).mono ?_
  rintro e w4 ⟨rfl, g6, hb4⟩
  have z4 := hb4.size
  have e12 : Hid ((mergeL s1 s2).length = s1.length + s2.length) := merge_len _ _
  have e34 : Hid ((mergeL s3 s4).length = s3.length + s4.length) := merge_len _ _
  have e14 : Hid ((mergeL (mergeL s1 s2) (mergeL s3 s4)).length = s1.length + s2.length + (s3.length + s4.length)) := by unfold Hid; rw [merge_len, merge_len, merge_len]
  go_wp2_with fail
  refine (merge_any (some ⟨w2.heap.size, 0, none⟩) (some ⟨w3.heap.size, 0, none⟩) (s1.length + s2.length) (s3.length + s4.length) (mergeL s1 s2) (mergeL s3 s4) w4.heap.size w4 ((g5.below hb4 (Nat.le_refl _)).mono z4) g6 (Nat.le_refl _) (by rw [e12.out]; omega) (by rw [e34.out]; omega)).mono ?_
  rintro e w5 ⟨rfl, g7, hb5⟩
  have z5 := hb5.size
  have gk5 : Strs w5 w5.heap.size ak' ks' := ((((gk.below hb3 (Nat.le_refl _)).mono z3).below hb4 (Nat.le_refl _)).mono z4 |>.below hb5 (Nat.le_refl _)).mono z5
  go_wp2_with fail
  have X := merge_any (some ⟨w4.heap.size, 0, none⟩) ak' ((mergeL s1 s2).length + (mergeL s3 s4).length) ks'.length (mergeL (mergeL s1 s2) (mergeL s3 s4)) ks' w5.heap.size w5 g7 gk5 (Nat.le_refl _) (by rw [e14.out]; omega) (by rw [HKL.out]; omega)
  rw [HKL.out] at X
  refine X.mono ?_
  clear X
  rintro e w6 ⟨rfl, g8, hb6⟩
  have z6 := hb6.size
  have B6 : Below w.heap.size w w6 := (((B2.trans (hb3.mono (by omega))).trans (hb4.mono (by omega))).trans (hb5.mono (by omega))).trans (hb6.mono (by omega))
  have hmS : (mergeL (mergeL (mergeL s1 s2) (mergeL s3 s4)) ks').Pairwise (· ≤ ·) := merge_sorted (le_of_sorted hv.all) HKS.out
  have hmM : ∀ x, x ∈ mergeL (mergeL (mergeL s1 s2) (mergeL s3 s4)) ks' ↔ x ∈ s1 ∨ x ∈ s2 ∨ x ∈ s3 ∨ x ∈ s4 ∨ x ∈ ks := fun x => by
    rw [mem_merge, mem_merge, mem_merge, mem_merge, HKP.out.mem_iff]
    simp only [or_assoc]
  have hmL : (mergeL (mergeL (mergeL s1 s2) (mergeL s3 s4)) ks').length ≤ 5120 := by rw [merge_len, e14.out, HKL.out]; omega
  generalize mergeL (mergeL (mergeL s1 s2) (mergeL s3 s4)) ks' = m at *
  have HMS : Hid (m.Pairwise (· ≤ ·)) := hmS
  have HMM : Hid (∀ x, x ∈ m ↔ x ∈ s1 ∨ x ∈ s2 ∨ x ∈ s3 ∨ x ∈ s4 ∨ x ∈ ks) := hmM
  clear hmS hmM g1 g2 g3 g4 gk g5 g6 g7 gk5 ho2 hb3 hb4 hb5 hb6 HKL HKP HKS e12 e34 e14
  go_wp2_with (at_make; refine wpList_make_own _ rfl _ _ 36 rfl w6.heap.size 9 i0 (.string ByteArray.empty) 1 Try.underlying36 hi0 hz0 hz1 _ _ _ m.length rfl rfl rfl (by rw [hz2]; omega) (by unfold maxLen; omega) (Nat.le_refl _) ?_; intro w7 hown7 hgrow7)
  have B7 : Below w.heap.size w w7 := B6.grown hgrow7 (by omega) (fun k h => by cases h)
  have b67 : Below w6.heap.size w6 w7 := (Below.refl _ _).grown hgrow7 (Nat.le_refl _) (fun k h => by cases h)
  go_loopw [13, 14] (fun out i wr => ∃ (k : Nat) (us : List Str), k ≤ m.length ∧ i = .int .i64 k ∧ us.length ≤ k ∧ out = .slice (some ⟨w6.heap.size, 0, none⟩) us.length m.length ∧
      wr.ownsRow w6.heap.size 9 1 (.slice (some ⟨w6.heap.size, 0, none⟩) us.length m.length) us.length (us.map encStr) ∧ Kept m us k ∧ Below w6.heap.size w6 wr) (fun _ i _ => m.length - (intOf i).toNat)
  case atStart => exact ⟨0, [], Nat.zero_le _, rfl, Nat.le_refl _, rfl, hown7, Kept.start m, b67⟩
  case round =>
    clear hown7 hgrow7 B7 b67
    obtain ⟨k, us, hk, rfl, hul, rfl, hown, hkept, hbel⟩ := hrel
    have HKE : Hid (Kept m us k) := hkept
    clear hkept
    have hsz := hbel.size
    by_cases hlt : k < m.length
    · have hc := Strs.cell (g8.below hbel (Nat.le_refl _)) hlt
      rw [Nat.zero_add] at hc
      obtain ⟨x, hx⟩ : ∃ x, x = m[k] := ⟨_, rfl⟩
      rw [← hx] at hc
      have HX : Hid (x = m[k]) := hx
      clear hx
      have hki : (k : Int) < (m.length : Int) := by omega
      by_cases hk0 : k = 0
      · have hkb : ((k : Int) == 0) = true := by simp; omega
        have HK0 : Hid (k = 0) := hk0
        clear hk0
        go_wp2
        go_quiet (fail)
        go_wp2_with (at_builtin; refine wpList_append_fits _ rfl (.tmp 51) (.tmp 56) 36 rfl w6.heap.size 9 i0 1 Try.underlying36 hi0 hz1 w6.heap.size us.length m.length _ rfl (by exact hown.alloc _) ⟨wr.heap.size, 0, none⟩ 1 1 [.string ⟨x.toArray⟩] rfl rfl (by exact cell_one_new _ _ _) (encs_oneCell [x]) (by omega) ?_; intro w8 hown8 hgrow8)
        go_roundw
        case rel =>
          refine ⟨k + 1, us ++ [x], by omega, by go_num, by simp; omega, by simp, ?_, by rw [HX.out]; exact HKE.out.add HMS.out hlt (fun h => absurd HK0.out (by omega)), (hbel.drewN nq).alloc_grown hsz hgrow8⟩
          rw [List.length_append, List.map_append]
          exact hown8
        case measure => simp [intOf]; omega
      · have hkb : ((k : Int) == 0) = false := by simp; omega
        have hc1 := Strs.cell (g8.below hbel (Nat.le_refl _)) (i := k - 1) (by omega)
        rw [Nat.zero_add] at hc1
        obtain ⟨y, hy⟩ : ∃ y, y = m[k - 1] := ⟨_, rfl⟩
        rw [← hy] at hc1
        have HY : Hid (y = m[k - 1]) := hy
        clear hy
        have hki' : (k : Int) - 1 < (m.length : Int) := by omega
        cases hl : (x == y)
        · have HN : Hid (m[k] ≠ m[k - 1]) := by rw [HX.out, HY.out] at hl; simpa [Hid] using hl
          go_wp2
          go_quiet (fail)
          go_wp2_with (at_builtin; refine wpList_append_fits _ rfl (.tmp 51) (.tmp 56) 36 rfl w6.heap.size 9 i0 1 Try.underlying36 hi0 hz1 w6.heap.size us.length m.length _ rfl (by exact hown.alloc _) ⟨wr.heap.size, 0, none⟩ 1 1 [.string ⟨x.toArray⟩] rfl rfl (by exact cell_one_new _ _ _) (encs_oneCell [x]) (by omega) ?_; intro w8 hown8 hgrow8)
          go_roundw
          case rel =>
            refine ⟨k + 1, us ++ [x], by omega, by go_num, by simp; omega, by simp, ?_, by rw [HX.out]; exact HKE.out.add HMS.out hlt (fun _ => HN.out), (hbel.drewN nq).alloc_grown hsz hgrow8⟩
            rw [List.length_append, List.map_append]
            exact hown8
          case measure => simp [intOf]; omega
        · have HN : Hid (m[k] = m[k - 1]) := by rw [HX.out, HY.out] at hl; simpa [Hid] using hl
          go_wp2
          go_quiet (fail)
          go_wp2
          go_roundw
          case rel => exact ⟨k + 1, us, by omega, by go_num, by omega, rfl, hown, HKE.out.skip hlt (by omega) HN.out, hbel.drewN nq⟩
          case measure => simp [intOf]; omega
    · go_wp2
      go_ret
      refine ⟨⟨_, _, us, rfl, strs_of_owns hown, HKE.out.up, fun x => ?_, by omega⟩, B6.trans (hbel.mono (by omega))⟩
      rw [HKE.out.mem x, List.take_of_length_le (by omega)]
      exact HMM.out x
end Go.Proofs.Qxb6003793a
