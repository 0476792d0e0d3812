import Derived.Test.Qxb6003793aLawA
import Derived.Test.Qxb6003793aCheckA
namespace Go.Proofs.Qxb6003793a
open Go.ChangeShapes Go.WideShapes Go.ChangeAt Go.RowKit Go.Maps
open Go.WideMaps Go.WideElems
open Pl
set_option linter.unusedVariables false

set_option maxRecDepth 100000 in
set_option maxHeartbeats 8000000 in
theorem lawA (ak av a1 a2 a3 a4 : Option Addr) (ck cv c1 c2 c3 c4 : Nat) (ks : List Str) (vs : List Int) (s1 s2 s3 s4 : List Str) (w : World) (kk : InS w ak ks) (kv : InB w av vs) (k1 : InS w a1 s1) (k2 : InS w a2 s2) (k3 : InS w a3 s3) (k4 : InS w a4 s4) :
    Calls Try.prog 4 #[.slice ak ks.length ck, .slice av vs.length cv, .slice a1 s1.length c1, .slice a2 s2.length c2, .slice a3 s3.length c3, .slice a4 s4.length c4] w fun e w' => e = .returned (.bool true) ∧ Below w.heap.size w w' := by
  have m1 := k1.le
  have m2 := k2.le
  have m3 := k3.le
  have m4 := k4.le
  have mk := kk.le
  have mv := kv.le
  go_enter Try.func4, Try.ntmps4
  go_wp2_with fail
  refine (checkA_any ak av a1 a2 a3 a4 ck cv c1 c2 c3 c4 vs.length ks s1 s2 s3 s4 w.heap.size w kk.row k1.row k2.row k3.row k4.row mk mv m1 m2 m3 m4).mono ?_
  rintro e w ⟨⟨b0, rfl⟩, rfl⟩
  cases b0
  · go_wp2_with fail
    go_ret
    exact ⟨rfl, Below.refl _ _⟩
  go_wp2_with fail
  refine (bytes_any ak ck ks w.heap.size w kk.row mk).mono ?_
  rintro e w ⟨⟨x1, rfl⟩, rfl⟩
  go_wp2_with fail
  refine (bytes_any a1 c1 s1 w.heap.size w k1.row m1).mono ?_
  rintro e w ⟨⟨x2, rfl⟩, rfl⟩
  go_wp2_with fail
  refine (bytes_any a2 c2 s2 w.heap.size w k2.row m2).mono ?_
  rintro e w ⟨⟨x3, rfl⟩, rfl⟩
  go_wp2_with fail
  refine (bytes_any a3 c3 s3 w.heap.size w k3.row m3).mono ?_
  rintro e w ⟨⟨x4, rfl⟩, rfl⟩
  go_wp2_with fail
  refine (bytes_any a4 c4 s4 w.heap.size w k4.row m4).mono ?_
  rintro e w ⟨⟨x5, rfl⟩, rfl⟩
  go_wp2_with fail
  · go_ret
    exact ⟨rfl, Below.refl _ _⟩
  refine (heldFits_any ak av ks.length ck vs.length cv w).mono ?_
  rintro e w ⟨⟨b1, rfl, hfit⟩, rfl⟩
  cases b1
  · go_wp2_with fail
    go_ret
    exact ⟨rfl, Below.refl _ _⟩
  have HF : Hid (ks.length = vs.length ∧ ks.length ≤ 1024) := hfit rfl
  have nk : ks.length ≤ 1024 := (hfit rfl).2
  have nv : vs.length ≤ 1024 := by have := hfit rfl; omega
  clear hfit
  go_wp2_with fail
  refine (viewFits_any a1 a2 a3 a4 c1 c2 c3 c4 s1 s2 s3 s4 w.heap.size w k1.row k2.row k3.row k4.row (Nat.le_refl _)).mono ?_
  rintro e w0 ⟨⟨b2, rfl, hv⟩, B0⟩
  cases b2
  · go_wp2_with fail
    go_ret
    exact ⟨rfl, B0⟩
  have HV : Hid (ViewOK s1 s2 s3 s4) := hv rfl
  have n1 := (hv rfl).n1
  have n2 := (hv rfl).n2
  have n3 := (hv rfl).n3
  have n4 := (hv rfl).n4
  have z0 := B0.size
  clear hv
  go_wp2_with fail
  refine (cloneS_any ak ck ks w.heap.size w0 (kk.row.below B0 (Nat.le_refl _)) z0 (by omega) kk.nil).mono ?_
  rintro e w1 ⟨⟨ak', rfl, rk⟩, h1⟩
  have B1 : Below w.heap.size w w1 := B0.trans (h1.mono z0)
  have z1 := B1.size
  have nlk : Hid (ak' = none → ks = []) := rk.nil
  have pk := rk.strs
  clear rk h1
  go_wp2_with fail
  refine (cloneB_any av cv vs w.heap.size w1 (kv.row.below B1 (Nat.le_refl _)) z1 (by omega) kv.nil).mono ?_
  rintro e w2 ⟨⟨av', rfl, rv⟩, h2⟩
  have B2 : Below w.heap.size w w2 := B1.trans (h2.mono z1)
  have z2 := B2.size
  have pv := rv
  have pk := (pk.below h2 (Nat.le_refl _)).mono h2.size
  clear rv h2
  go_wp2_with fail
  refine (cloneS_any a1 c1 s1 w.heap.size w2 (k1.row.below B2 (Nat.le_refl _)) z2 (by omega) k1.nil).mono ?_
  rintro e w3 ⟨⟨a1', rfl, r1⟩, h3⟩
  have B3 : Below w.heap.size w w3 := B2.trans (h3.mono z2)
  have z3 := B3.size
  have nl1 : Hid (a1' = none → s1 = []) := r1.nil
  have p1 := r1.strs
  have pk := (pk.below h3 (Nat.le_refl _)).mono h3.size
  have pv := (pv.below h3 (Nat.le_refl _)).mono h3.size
  clear r1 h3
  go_wp2_with fail
  refine (cloneS_any a2 c2 s2 w.heap.size w3 (k2.row.below B3 (Nat.le_refl _)) z3 (by omega) k2.nil).mono ?_
  rintro e w4 ⟨⟨a2', rfl, r2⟩, h4⟩
  have B4 : Below w.heap.size w w4 := B3.trans (h4.mono z3)
  have z4 := B4.size
  have nl2 : Hid (a2' = none → s2 = []) := r2.nil
  have p2 := r2.strs
  have pk := (pk.below h4 (Nat.le_refl _)).mono h4.size
  have pv := (pv.below h4 (Nat.le_refl _)).mono h4.size
  have p1 := (p1.below h4 (Nat.le_refl _)).mono h4.size
  clear r2 h4
  go_wp2_with fail
  refine (cloneS_any a3 c3 s3 w.heap.size w4 (k3.row.below B4 (Nat.le_refl _)) z4 (by omega) k3.nil).mono ?_
  rintro e w5 ⟨⟨a3', rfl, r3⟩, h5⟩
  have B5 : Below w.heap.size w w5 := B4.trans (h5.mono z4)
  have z5 := B5.size
  have nl3 : Hid (a3' = none → s3 = []) := r3.nil
  have p3 := r3.strs
  have pk := (pk.below h5 (Nat.le_refl _)).mono h5.size
  have pv := (pv.below h5 (Nat.le_refl _)).mono h5.size
  have p1 := (p1.below h5 (Nat.le_refl _)).mono h5.size
  have p2 := (p2.below h5 (Nat.le_refl _)).mono h5.size
  clear r3 h5
  go_wp2_with fail
  refine (cloneS_any a4 c4 s4 w.heap.size w5 (k4.row.below B5 (Nat.le_refl _)) z5 (by omega) k4.nil).mono ?_
  rintro e w6 ⟨⟨a4', rfl, r4⟩, h6⟩
  have B6 : Below w.heap.size w w6 := B5.trans (h6.mono z5)
  have z6 := B6.size
  have nl4 : Hid (a4' = none → s4 = []) := r4.nil
  have p4 := r4.strs
  have pk := (pk.below h6 (Nat.le_refl _)).mono h6.size
  have pv := (pv.below h6 (Nat.le_refl _)).mono h6.size
  have p1 := (p1.below h6 (Nat.le_refl _)).mono h6.size
  have p2 := (p2.below h6 (Nat.le_refl _)).mono h6.size
  have p3 := (p3.below h6 (Nat.le_refl _)).mono h6.size
  clear r4 h6
  go_wp2_with fail
  refine (heldMap_any ak' av' ks.length vs.length ks vs w6.heap.size w6 pk pv (Nat.le_refl _) HF.out.1 nk kk.len kv.bd).mono ?_
  rintro e w7 ⟨rfl, hmap, h7⟩
  have B7 : Below w.heap.size w w7 := B6.trans (h7.mono z6)
  have z7 := B7.size
  have pk := (pk.below h7 (Nat.le_refl _)).mono h7.size
  have pv := (pv.below h7 (Nat.le_refl _)).mono h7.size
  have p1 := (p1.below h7 (Nat.le_refl _)).mono h7.size
  have p2 := (p2.below h7 (Nat.le_refl _)).mono h7.size
  have p3 := (p3.below h7 (Nat.le_refl _)).mono h7.size
  have p4 := (p4.below h7 (Nat.le_refl _)).mono h7.size
  clear h7
  have HLEN : Hid (∀ x ∈ s1 ++ mergeL s2 (mergeL s3 s4), x.length ≤ maxLen) := view_len k1 k2 k3 k4
  have HPL : Hid (∀ p ∈ ks.zip vs, p.1.length ≤ maxLen) := fun p hp => kk.len _ (List.of_mem_zip hp).1
  clear kk kv k1 k2 k3 k4
  go_wp2_with fail
  refine (view_any a1' a2' a3' a4' s1.length s2.length s3.length s4.length s1 s2 s3 s4 w7.heap.size w7 p2 p3 p4 (Nat.le_refl _) (by omega) (by omega) (by omega)).mono ?_
  rintro e w8 ⟨⟨g, cg, rfl, pout⟩, h8⟩
  have B8 : Below w.heap.size w w8 := B7.trans (h8.mono z7)
  have z8 := B8.size
  have pk := (pk.below h8 (Nat.le_refl _)).mono h8.size
  have pv := (pv.below h8 (Nat.le_refl _)).mono h8.size
  have p1 := (p1.below h8 (Nat.le_refl _)).mono h8.size
  have p2 := (p2.below h8 (Nat.le_refl _)).mono h8.size
  have p3 := (p3.below h8 (Nat.le_refl _)).mono h8.size
  have p4 := (p4.below h8 (Nat.le_refl _)).mono h8.size
  have hmap8 := hmap.below h8 hmap.lt
  have SEEN : Seen w8 w8.heap.size a1' (some ⟨g, 0, none⟩) a2' a3' a4' s1.length cg s1 (mergeL s2 (mergeL s3 s4)) s2 s3 s4 :=
    { h0 := p1, h1 := pout, h2 := p2, h3 := p3, h4 := p4, z0 := fun e => ⟨nl1.out e, (by rw [nl1.out e]; rfl)⟩, z1 := fun e => (by cases e), n0 := n1, n1 := (by rw [merge_len, merge_len]; omega), n2 := n2, n3 := n3, n4 := n4,
      p0 := HV.out.p1, p2 := HV.out.p2, p3 := HV.out.p3, p4 := HV.out.p4, nd := view_nodup HV.out, out := fun x => (by rw [mem_merge, mem_merge]), len := HLEN.out }
  clear h8 hmap pout
  go_wp2_with fail
  refine (zzchangesTo_any w6.heap.size ks.length (ks.zip vs) a1' (some ⟨g, 0, none⟩) a2' a3' a4' s1.length cg s2.length s3.length s4.length s1 (mergeL s2 (mergeL s3 s4)) s2 s3 s4 w8.heap.size w8 (Nat.le_refl _) hmap8 (by omega) SEEN HPL.out).mono ?_
  rintro e w9 ⟨⟨vg, rfl, us, u1, u2, u3, u4⟩, h9⟩
  have B9 : Below w.heap.size w w9 := B8.trans (h9.mono z8)
  have z9 := B9.size
  have pk := (pk.below h9 (Nat.le_refl _)).mono h9.size
  have pv := (pv.below h9 (Nat.le_refl _)).mono h9.size
  have p1 := (p1.below h9 (Nat.le_refl _)).mono h9.size
  have p2 := (p2.below h9 (Nat.le_refl _)).mono h9.size
  have p3 := (p3.below h9 (Nat.le_refl _)).mono h9.size
  have p4 := (p4.below h9 (Nat.le_refl _)).mono h9.size
  have hz8 : w6.heap.size ≤ w8.heap.size := Nat.le_of_lt hmap8.lt
  clear h9 SEEN hmap8
  go_wp2_with fail
  refine (union_any a1' a2' a3' a4' ak' s1.length s2.length s3.length s4.length ks.length s1 s2 s3 s4 ks w9.heap.size w9 p1 p2 p3 p4 pk (Nat.le_refl _) nlk.out HV.out nk).mono ?_
  rintro e w10 ⟨⟨au, cu, us2, rfl, pu, hu⟩, h10⟩
  have B10 : Below w.heap.size w w10 := B9.trans (h10.mono z9)
  have z10 := B10.size
  have pk := (pk.below h10 (Nat.le_refl _)).mono h10.size
  have pv := (pv.below h10 (Nat.le_refl _)).mono h10.size
  have p1 := (p1.below h10 (Nat.le_refl _)).mono h10.size
  have p2 := (p2.below h10 (Nat.le_refl _)).mono h10.size
  have p3 := (p3.below h10 (Nat.le_refl _)).mono h10.size
  have p4 := (p4.below h10 (Nat.le_refl _)).mono h10.size
  obtain rfl : us = us2 := eq_of_sorted u1 hu.up (fun x => by
    rw [u2 x, hu.mem x, List.mem_append, mem_merge, mem_merge, zip_keys HF.out.1]
    simp only [or_assoc])
  obtain ⟨ag, capg, hvg, pg⟩ := owned_shape3 u4
  subst hvg
  have pg := (pg.below h10 (Nat.le_refl _)).mono h10.size
  have hul := hu.le
  clear h10 u1 u2 u3 u4 hu
  go_wp2_with fail
  go_loop [15, 16] (fun kv iv => ∃ i : Nat, i ≤ us.length ∧ iv = .int .i64 i ∧ kv = .int .i64 ((chgs (fun x => heldF x (ks.zip vs)) (fun x => stand x s1 s2 s3 s4) (us.take i)).length : Nat)) (fun _ iv => us.length - (intOf iv).toNat)
  case atStart => exact ⟨0, Nat.zero_le _, rfl, rfl⟩
  case round =>
    obtain ⟨i, hi, rfl, rfl⟩ := hrel
    have hcl := chgs_le (fun x => heldF x (ks.zip vs)) (fun x => stand x s1 s2 s3 s4) (us.take i)
    rw [List.length_take] at hcl
    by_cases hlt : i < us.length
    · obtain ⟨bu, ou, rfl, hbu, hcu⟩ := pu.at hlt
      obtain ⟨x, hx⟩ : ∃ x, x = us[i] := ⟨_, rfl⟩
      rw [← hx] at hcu
      have HX : Hid (x = us[i]) := hx
      clear hx pu
      cases hne : (heldF x (ks.zip vs) == stand x s1 s2 s3 s4)
      · have HN : Hid (heldF us[i] (ks.zip vs) ≠ stand us[i] s1 s2 s3 s4) := by rw [HX.out] at hne; simpa [Hid] using hne
        obtain ⟨r, hr⟩ := chgs_at (h := fun x => heldF x (ks.zip vs)) (st := fun x => stand x s1 s2 s3 s4) hlt HN.out
        have hsn := chgs_diff (h := fun x => heldF x (ks.zip vs)) (st := fun x => stand x s1 s2 s3 s4) hlt HN.out
        have hL : (chgs (fun x => heldF x (ks.zip vs)) (fun x => stand x s1 s2 s3 s4) (us.take i)).length < (chgs (fun x => heldF x (ks.zip vs)) (fun x => stand x s1 s2 s3 s4) us).length := by
          rw [hr, List.length_append, List.length_cons]; omega
        obtain ⟨bg, og, hag, hbg, _⟩ := pg 0 (by rw [flat_len]; omega)
        cases hag
        have hcc := change_cells pg hr
        rw [← HX.out] at hcc
        obtain ⟨g0, g1, g2⟩ := hcc
        have hLs : (chgs (fun x => heldF x (ks.zip vs)) (fun x => stand x s1 s2 s3 s4) (us.take (i + 1))).length = (chgs (fun x => heldF x (ks.zip vs)) (fun x => stand x s1 s2 s3 s4) (us.take i)).length + 1 := by rw [hsn]; simp
        have HLS := show Hid _ from hLs
        clear hr hsn hLs pg
        simp only at g0 g1 g2
        go_wp2_with (first | (go_at_call 23; refine (modelHeld_any ak' av' ks.length vs.length ks vs x w10.heap.size w10 pk pv HF.out.1 nk).mono ?_; rintro e w11 ⟨rfl, rfl⟩) | (go_at_call 24; refine (modelStanding_any a1' a2' a3' a4' s1.length s2.length s3.length s4.length s1 s2 s3 s4 x _ _ p1 p2 p3 p4 m1 m2 m3 m4).mono ?_; rintro e w12 ⟨rfl, rfl⟩))
        go_round
        case rel => exact ⟨i + 1, by omega, by go_num, by rw [HLS.out]; go_num⟩
        case measure => simp [intOf]; omega
      · have HE : Hid (chgs (fun x => heldF x (ks.zip vs)) (fun x => stand x s1 s2 s3 s4) (us.take (i + 1)) = chgs (fun x => heldF x (ks.zip vs)) (fun x => stand x s1 s2 s3 s4) (us.take i)) := by
          refine chgs_same hlt ?_
          rw [HX.out] at hne
          simpa using hne
        go_wp2_with (first | (go_at_call 23; refine (modelHeld_any ak' av' ks.length vs.length ks vs x w10.heap.size w10 pk pv HF.out.1 nk).mono ?_; rintro e w11 ⟨rfl, rfl⟩) | (go_at_call 24; refine (modelStanding_any a1' a2' a3' a4' s1.length s2.length s3.length s4.length s1 s2 s3 s4 x _ _ p1 p2 p3 p4 m1 m2 m3 m4).mono ?_; rintro e w12 ⟨rfl, rfl⟩))
        go_round
        case rel => exact ⟨i + 1, by omega, by go_num, by rw [HE.out]⟩
        case measure => simp [intOf]; omega
    · have e : Hid (us.take i = us) := List.take_of_length_le (by omega)
      rw [e.out]
      go_wp2_with fail
      go_ret
      exact ⟨by simp, B10⟩
end Go.Proofs.Qxb6003793a
