import Derived.Test.Qxb6003793aLawBP
namespace Go.Proofs.Qxb6003793a
open Go.ChangeShapes Go.WideShapes Go.ChangeAt Go.RowKit Go.Maps
open Go.WideMaps Go.WideElems
open Pl
set_option linter.unusedVariables false

set_option maxRecDepth 100000 in
set_option maxHeartbeats 16000000 in
theorem lawB (ak av a1 a2 a3 a4 : Option Addr) (ck cv c1 c2 c3 c4 : Nat) (ks : List Str) (vs : List Int) (s1 s2 s3 s4 : List Str) (w : World) (kk : InS w ak ks) (kv : InB w av vs) (k1 : InS w a1 s1) (k2 : InS w a2 s2) (k3 : InS w a3 s3) (k4 : InS w a4 s4) :
    Calls Try.prog 5 #[.slice ak ks.length ck, .slice av vs.length cv, .slice a1 s1.length c1, .slice a2 s2.length c2, .slice a3 s3.length c3, .slice a4 s4.length c4] w fun e w' => e = .returned (.bool true) ∧ Below w.heap.size w w' := by
  have m1 := k1.le
  have m2 := k2.le
  have m3 := k3.le
  have m4 := k4.le
  have mk := kk.le
  have mv := kv.le
  go_enter Try.func5, Try.ntmps5
  go_wp2_with fail
  refine (checkB_any ak av a1 a2 a3 a4 ck cv c1 c2 c3 c4 vs.length ks s1 s2 s3 s4 w.heap.size w kk.row k1.row k2.row k3.row k4.row mk mv m1 m2 m3 m4).mono ?_
  rintro e w ⟨⟨b0, rfl⟩, rfl⟩
  cases b0
  · go_wp2_with fail
    go_ret
    exact ⟨rfl, Below.refl _ _⟩
  go_wp2_with fail
  refine (bytes_any ak ck ks w.heap.size w kk.row mk).mono ?_
  rintro e w ⟨⟨x1, rfl⟩, rfl⟩
  go_wp2_with fail
  refine (bytes_any a1 c1 s1 w.heap.size w k1.row m1).mono ?_
  rintro e w ⟨⟨x2, rfl⟩, rfl⟩
  go_wp2_with fail
  refine (bytes_any a2 c2 s2 w.heap.size w k2.row m2).mono ?_
  rintro e w ⟨⟨x3, rfl⟩, rfl⟩
  go_wp2_with fail
  refine (bytes_any a3 c3 s3 w.heap.size w k3.row m3).mono ?_
  rintro e w ⟨⟨x4, rfl⟩, rfl⟩
  go_wp2_with fail
  refine (bytes_any a4 c4 s4 w.heap.size w k4.row m4).mono ?_
  rintro e w ⟨⟨x5, rfl⟩, rfl⟩
  go_wp2_with fail
  · go_ret
    exact ⟨rfl, Below.refl _ _⟩
  refine (heldFits_any ak av ks.length ck vs.length cv w).mono ?_
  rintro e w ⟨⟨b1, rfl, hfit⟩, rfl⟩
  cases b1
  · go_wp2_with fail
    go_ret
    exact ⟨rfl, Below.refl _ _⟩
  have HF : Hid (ks.length = vs.length ∧ ks.length ≤ 1024) := hfit rfl
  have nk : ks.length ≤ 1024 := (hfit rfl).2
  have nv : vs.length ≤ 1024 := by have := hfit rfl; omega
  clear hfit
  go_wp2_with fail
  refine (viewFits_any a1 a2 a3 a4 c1 c2 c3 c4 s1 s2 s3 s4 w.heap.size w k1.row k2.row k3.row k4.row (Nat.le_refl _)).mono ?_
  rintro e w0 ⟨⟨b2, rfl, hv⟩, B0⟩
  cases b2
  · go_wp2_with fail
    go_ret
    exact ⟨rfl, B0⟩
  have HV : Hid (ViewOK s1 s2 s3 s4) := hv rfl
  have n1 := (hv rfl).n1
  have n2 := (hv rfl).n2
  have n3 := (hv rfl).n3
  have n4 := (hv rfl).n4
  have z0 := B0.size
  clear hv
  go_wp2_with fail
  refine (cloneS_any ak ck ks w.heap.size w0 (kk.row.below B0 (Nat.le_refl _)) z0 (by omega) kk.nil).mono ?_
  rintro e w1 ⟨⟨ak', rfl, rk⟩, h1⟩
  have B1 : Below w.heap.size w w1 := B0.trans (h1.mono z0)
  have z1 := B1.size
  have nlk : Hid (ak' = none → ks = []) := rk.nil
  have pk := rk.strs
  clear rk h1
  go_wp2_with fail
  refine (cloneB_any av cv vs w.heap.size w1 (kv.row.below B1 (Nat.le_refl _)) z1 (by omega) kv.nil).mono ?_
  rintro e w2 ⟨⟨av', rfl, rv⟩, h2⟩
  have B2 : Below w.heap.size w w2 := B1.trans (h2.mono z1)
  have z2 := B2.size
  have pv := rv
  have pk := (pk.below h2 (Nat.le_refl _)).mono h2.size
  clear rv h2
  go_wp2_with fail
  refine (cloneS_any a1 c1 s1 w.heap.size w2 (k1.row.below B2 (Nat.le_refl _)) z2 (by omega) k1.nil).mono ?_
  rintro e w3 ⟨⟨a1', rfl, r1⟩, h3⟩
  have B3 : Below w.heap.size w w3 := B2.trans (h3.mono z2)
  have z3 := B3.size
  have nl1 : Hid (a1' = none → s1 = []) := r1.nil
  have p1 := r1.strs
  have pk := (pk.below h3 (Nat.le_refl _)).mono h3.size
  have pv := (pv.below h3 (Nat.le_refl _)).mono h3.size
  clear r1 h3
  go_wp2_with fail
  refine (cloneS_any a2 c2 s2 w.heap.size w3 (k2.row.below B3 (Nat.le_refl _)) z3 (by omega) k2.nil).mono ?_
  rintro e w4 ⟨⟨a2', rfl, r2⟩, h4⟩
  have B4 : Below w.heap.size w w4 := B3.trans (h4.mono z3)
  have z4 := B4.size
  have nl2 : Hid (a2' = none → s2 = []) := r2.nil
  have p2 := r2.strs
  have pk := (pk.below h4 (Nat.le_refl _)).mono h4.size
  have pv := (pv.below h4 (Nat.le_refl _)).mono h4.size
  have p1 := (p1.below h4 (Nat.le_refl _)).mono h4.size
  clear r2 h4
  go_wp2_with fail
  refine (cloneS_any a3 c3 s3 w.heap.size w4 (k3.row.below B4 (Nat.le_refl _)) z4 (by omega) k3.nil).mono ?_
  rintro e w5 ⟨⟨a3', rfl, r3⟩, h5⟩
  have B5 : Below w.heap.size w w5 := B4.trans (h5.mono z4)
  have z5 := B5.size
  have nl3 : Hid (a3' = none → s3 = []) := r3.nil
  have p3 := r3.strs
  have pk := (pk.below h5 (Nat.le_refl _)).mono h5.size
  have pv := (pv.below h5 (Nat.le_refl _)).mono h5.size
  have p1 := (p1.below h5 (Nat.le_refl _)).mono h5.size
  have p2 := (p2.below h5 (Nat.le_refl _)).mono h5.size
  clear r3 h5
  go_wp2_with fail
  refine (cloneS_any a4 c4 s4 w.heap.size w5 (k4.row.below B5 (Nat.le_refl _)) z5 (by omega) k4.nil).mono ?_
  rintro e w6 ⟨⟨a4', rfl, r4⟩, h6⟩
  have B6 : Below w.heap.size w w6 := B5.trans (h6.mono z5)
  have z6 := B6.size
  have nl4 : Hid (a4' = none → s4 = []) := r4.nil
  have p4 := r4.strs
  have pk := (pk.below h6 (Nat.le_refl _)).mono h6.size
  have pv := (pv.below h6 (Nat.le_refl _)).mono h6.size
  have p1 := (p1.below h6 (Nat.le_refl _)).mono h6.size
  have p2 := (p2.below h6 (Nat.le_refl _)).mono h6.size
  have p3 := (p3.below h6 (Nat.le_refl _)).mono h6.size
  clear r4 h6
  have HLEN : Hid (∀ x ∈ s1 ++ mergeL s2 (mergeL s3 s4), x.length ≤ maxLen) := view_len k1 k2 k3 k4
  have HPL : Hid (∀ p ∈ ks.zip vs, p.1.length ≤ maxLen) := fun p hp => kk.len _ (List.of_mem_zip hp).1
  have HKL : Hid (∀ x ∈ ks, x.length ≤ maxLen) := kk.len
  have HVB : Hid (∀ v ∈ vs, 0 ≤ v ∧ v ≤ 255) := kv.bd
  clear kk kv k1 k2 k3 k4
  go_wp2_with fail
  refine (view_any a1' a2' a3' a4' s1.length s2.length s3.length s4.length s1 s2 s3 s4 w6.heap.size w6 p2 p3 p4 (Nat.le_refl _) (by omega) (by omega) (by omega)).mono ?_
  rintro e w7 ⟨⟨g, cg, rfl, pout⟩, h7⟩
  have B7 : Below w.heap.size w w7 := B6.trans (h7.mono z6)
  have z7 := B7.size
  have pk := (pk.below h7 (Nat.le_refl _)).mono h7.size
  have pv := (pv.below h7 (Nat.le_refl _)).mono h7.size
  have p1 := (p1.below h7 (Nat.le_refl _)).mono h7.size
  have p2 := (p2.below h7 (Nat.le_refl _)).mono h7.size
  have p3 := (p3.below h7 (Nat.le_refl _)).mono h7.size
  have p4 := (p4.below h7 (Nat.le_refl _)).mono h7.size
  clear h7
  go_wp2_with fail
  have h8 : Below w7.heap.size w7 (w7.alloc (.cells #[.slice a1' s1.length s1.length, .slice (some ⟨g, 0, none⟩) (mergeL s2 (mergeL s3 s4)).length cg, .slice a2' s2.length s2.length, .slice a3' s3.length s3.length, .slice a4' s4.length s4.length] 49)) := (Below.refl _ _).alloc (Nat.le_refl _) _
  have hbox8 : Blk (w7.alloc (.cells #[.slice a1' s1.length s1.length, .slice (some ⟨g, 0, none⟩) (mergeL s2 (mergeL s3 s4)).length cg, .slice a2' s2.length s2.length, .slice a3' s3.length s3.length, .slice a4' s4.length s4.length] 49)) w7.heap.size 49 [.slice a1' s1.length s1.length, .slice (some ⟨g, 0, none⟩) (mergeL s2 (mergeL s3 s4)).length cg, .slice a2' s2.length s2.length, .slice a3' s3.length s3.length, .slice a4' s4.length s4.length] := heap_alloc_new w7 _
  generalize (w7.alloc (.cells #[.slice a1' s1.length s1.length, .slice (some ⟨g, 0, none⟩) (mergeL s2 (mergeL s3 s4)).length cg, .slice a2' s2.length s2.length, .slice a3' s3.length s3.length, .slice a4' s4.length s4.length] 49)) = w8 at *
  have B8 : Below w.heap.size w w8 := B7.trans (h8.mono z7)
  have z8 := B8.size
  have pk := (pk.below h8 (Nat.le_refl _)).mono h8.size
  have pv := (pv.below h8 (Nat.le_refl _)).mono h8.size
  have p1 := (p1.below h8 (Nat.le_refl _)).mono h8.size
  have p2 := (p2.below h8 (Nat.le_refl _)).mono h8.size
  have p3 := (p3.below h8 (Nat.le_refl _)).mono h8.size
  have p4 := (p4.below h8 (Nat.le_refl _)).mono h8.size
  have pout := (pout.below h8 (Nat.le_refl _)).mono h8.size
  clear h8
  have hbl8 := hbox8.lt
  have q0 := hbox8.cell (i := 0) (by simp)
  have q1 := hbox8.cell (i := 1) (by simp)
  have q2 := hbox8.cell (i := 2) (by simp)
  have q3 := hbox8.cell (i := 3) (by simp)
  have q4 := hbox8.cell (i := 4) (by simp)
  simp only [List.getElem_cons_zero, List.getElem_cons_succ] at q0 q1 q2 q3 q4
  have XM := heldMap_any ak' av' ks.length vs.length ks vs w8.heap.size w8.drew pk.drew pv.drew (Nat.le_refl _) HF.out.1 nk HKL.out HVB.out
  have hm8 : Hid (w8.heap.size = w8.drew.heap.size) := rfl
  have XC : ∀ w9, MapIs w9 w8.heap.size ks.length (ks.zip vs) → Below w8.heap.size w8.drew w9 → Calls Try.prog 19 #[.map (some w8.heap.size), .agg #[.slice a1' s1.length s1.length, .slice (some ⟨g, 0, none⟩) (mergeL s2 (mergeL s3 s4)).length cg, .slice a2' s2.length s2.length, .slice a3' s3.length s3.length, .slice a4' s4.length s4.length]] w9 fun e w' => (∃ v, e = .returned v ∧ Changed w' w9.heap.size v (ks.zip vs) s1 (mergeL s2 (mergeL s3 s4)) s2 s3 s4) ∧ Below w9.heap.size w9 w' := by
    intro w9 hm h9
    have z9 : w8.heap.size ≤ w9.heap.size := h9.size
    have p1 := p1.drew.below h9 (Nat.le_refl _)
    have p2 := p2.drew.below h9 (Nat.le_refl _)
    have p3 := p3.drew.below h9 (Nat.le_refl _)
    have p4 := p4.drew.below h9 (Nat.le_refl _)
    have po := pout.drew.below h9 (Nat.le_refl _)
    have SEEN : Seen w9 w8.heap.size a1' (some ⟨g, 0, none⟩) a2' a3' a4' s1.length cg s1 (mergeL s2 (mergeL s3 s4)) s2 s3 s4 :=
      { h0 := p1, h1 := po, h2 := p2, h3 := p3, h4 := p4, z0 := fun e => ⟨nl1.out e, (by rw [nl1.out e]; rfl)⟩, z1 := fun e => (by cases e), n0 := n1, n1 := (by rw [merge_len, merge_len]; omega), n2 := n2, n3 := n3, n4 := n4,
        p0 := HV.out.p1, p2 := HV.out.p2, p3 := HV.out.p3, p4 := HV.out.p4, nd := view_nodup HV.out, out := fun x => (by rw [mem_merge, mem_merge]), len := HLEN.out }
    exact zzchangesTo_any w8.heap.size ks.length (ks.zip vs) a1' (some ⟨g, 0, none⟩) a2' a3' a4' s1.length cg s2.length s3.length s4.length s1 (mergeL s2 (mergeL s3 s4)) s2 s3 s4 w8.heap.size w9 z9 hm (by omega) SEEN HPL.out
  have hboxD : Blk w8.drew w7.heap.size 49 [.slice a1' s1.length s1.length, .slice (some ⟨g, 0, none⟩) (mergeL s2 (mergeL s3 s4)).length cg, .slice a2' s2.length s2.length, .slice a3' s3.length s3.length, .slice a4' s4.length s4.length] := hbox8
  go_region_with (first | (go_at_call 20; refine XM.mono ?_; rintro e w9 ⟨rfl, hm9, h9⟩; have hb9 := hboxD.below h9 hbl8; have q0' := hb9.cell (i := 0) (by simp); have q1' := hb9.cell (i := 1) (by simp); have q2' := hb9.cell (i := 2) (by simp); have q3' := hb9.cell (i := 3) (by simp); have q4' := hb9.cell (i := 4) (by simp); simp only [List.getElem_cons_zero, List.getElem_cons_succ] at q0' q1' q2' q3' q4') | (go_at_call 19; refine (XC w9 hm9 h9).mono ?_; rintro e w10 ⟨⟨vg, rfl, us, u1, u2, u3, u4⟩, h10⟩))
  all_goals
    have H9 : Below w8.heap.size w8 w9 := (Below.refl w8.heap.size w8).drew.trans h9
    have H10 : Below w8.heap.size w8 w10 := H9.trans (h10.mono H9.size)
    have B10 : Below w.heap.size w w10 := B8.trans (H10.mono z8)
    have z10 := B10.size
    have pk := (pk.below H10 (Nat.le_refl _)).mono H10.size
    have pv := (pv.below H10 (Nat.le_refl _)).mono H10.size
    have p1 := (p1.below H10 (Nat.le_refl _)).mono H10.size
    have p2 := (p2.below H10 (Nat.le_refl _)).mono H10.size
    have p3 := (p3.below H10 (Nat.le_refl _)).mono H10.size
    have p4 := (p4.below H10 (Nat.le_refl _)).mono H10.size
    have pout := (pout.below H10 (Nat.le_refl _)).mono H10.size
    have hbox10 := hb9.below h10 hb9.lt
    have hbl10 := hbox10.lt
    obtain ⟨ag, capg, hvg, pg⟩ := owned_shape3 u4
    subst hvg
    have HUL : Hid (∀ x ∈ us, x.length ≤ maxLen) := fun x hx => by
      rcases (u2 x).1 hx with h | h
      · exact HLEN.out x h
      · rw [zip_keys HF.out.1] at h; exact HKL.out x h
    have HCK : Hid (ChOK (chgs (fun x => heldF x (ks.zip vs)) (fun x => stand x s1 s2 s3 s4) us)) := chok u1 HUL.out
    have hcl : (chgs (fun x => heldF x (ks.zip vs)) (fun x => stand x s1 s2 s3 s4) us).length ≤ 200000 := Nat.le_trans (chgs_le _ _ _) u3
    generalize hcs : chgs (fun x => heldF x (ks.zip vs)) (fun x => stand x s1 s2 s3 s4) us = cs at pg HCK hcl ⊢
    have HCS : Hid (cs = chgs (fun x => heldF x (ks.zip vs)) (fun x => stand x s1 s2 s3 s4) us) := hcs.symm
    have HU1 := show Hid _ from u1
    have HU2 := show Hid _ from u2
    clear hcs u1 u2 u3 u4 h9 h10 H9 H10 hb9 hm9
    go_wp2_with fail
    go_loopw [15] (fun i wr => ∃ k : Nat, k ≤ cs.length ∧ i = .int .i64 k ∧ Below w10.heap.size w10 wr) (fun i _ => cs.length - (intOf i).toNat)
    case atStart => exact ⟨0, Nat.zero_le _, rfl, Below.refl _ _⟩
    case round =>
      obtain ⟨k, hk, rfl, hbel⟩ := hrel
      by_cases hlt : k < cs.length
      · obtain ⟨bg, og, rfl, hbg, hcc⟩ := change_k (pg.below hbel (Nat.le_refl _)) (by omega)
        have hne := HCK.out.ne k hlt
        obtain ⟨g0, g1, g3⟩ := hcc k hlt
        have hki : (k : Int) < (cs.length : Int) := by omega
        by_cases hk0 : 0 < k
        · obtain ⟨m, rfl⟩ : ∃ m, k = m + 1 := ⟨k - 1, by omega⟩
          have g2 := (hcc m (by omega)).1
          have hup := HCK.out.up m hlt
          obtain ⟨x, hx⟩ : ∃ x, x = cs[m].1 := ⟨_, rfl⟩
          obtain ⟨c, hc⟩ : ∃ c, c = cs[m + 1] := ⟨_, rfl⟩
          rw [← hx] at g2 hup
          rw [← hc] at g0 g1 g3 hne hup
          clear hx hc hcc pg
          have hjd : decide ((0 : Int) < ((m + 1 : Nat) : Int)) = true := decide_eq_true (by omega)
          have hji' : ((m + 1 : Nat) : Int) - 1 < (cs.length : Int) := by omega
          go_wp2_with fail
          go_quiet (fail)
          go_wp2_with fail
          go_quiet (fail)
          go_wp2_with fail
          go_roundw
          case rel => exact ⟨m + 1 + 1, by omega, by go_num, Below.drewN hbel _⟩
          case measure => simp [intOf]; omega
        · obtain rfl : k = 0 := by omega
          obtain ⟨c, hc⟩ : ∃ c, c = cs[0] := ⟨_, rfl⟩
          rw [← hc] at g0 g1 g3 hne
          clear hc hcc pg
          have hjd : decide ((0 : Int) < ((0 : Nat) : Int)) = false := decide_eq_false (by omega)
          go_wp2_with fail
          go_quiet (fail)
          go_wp2_with fail
          go_quiet (fail)
          go_wp2_with fail
          go_roundw
          case rel => exact ⟨1, by omega, by go_num, Below.drewN hbel _⟩
          case measure => simp [intOf]; omega
      · have pk1 := pk.below hbel (Nat.le_refl _)
        have pv1 := pv.below hbel (Nat.le_refl _)
        have zA := hbel.size
        go_wp2_with fail
        refine (heldMap_any ak' av' ks.length vs.length ks vs w10.heap.size wr pk1 pv1 zA HF.out.1 nk HKL.out HVB.out).mono ?_
        rintro e w11 ⟨rfl, hm11, h11⟩
        have C11 : Below w10.heap.size w10 w11 := hbel.trans (h11.mono zA)
        generalize hbA : wr.heap.size = bA at hm11 zA ⊢
        clear hbA h11 pk1 pv1 hbel
        go_wp2_with fail
        go_loopw [17] (fun i wr => ∃ k : Nat, k ≤ cs.length ∧ i = .int .i64 k ∧ MapIs wr bA (ks.length + k) (laidOn (ks.zip vs) (cs.take k)) ∧ Below w10.heap.size w10 wr) (fun i _ => cs.length - (intOf i).toNat)
        case atStart => exact ⟨0, Nat.zero_le _, rfl, by rw [List.take_zero, laidOn_nil]; exact hm11, C11⟩
        case round =>
          clear C11 hm11
          obtain ⟨k, hk, rfl, hm, hbel⟩ := hrel
          by_cases hlt : k < cs.length
          · obtain ⟨bg, og, rfl, hbg, hcc⟩ := change_k (pg.below hbel (Nat.le_refl _)) (by omega)
            have hcl' := HCK.out.len k hlt
            have hcb := HCK.out.bd k hlt
            obtain ⟨g0, -, g1⟩ := hcc k hlt
            have hki : (k : Int) < (cs.length : Int) := by omega
            have hz : Hid (laidOn (ks.zip vs) (cs.take (k + 1)) = laidOn (ks.zip vs) (cs.take k) ++ [(cs[k].1, cs[k].2.2)]) := by
              unfold Hid
              rw [take_succ _ k hlt, laidOn_snoc]
            obtain ⟨c, hc⟩ : ∃ c, c = cs[k] := ⟨_, rfl⟩
            rw [← hc] at g0 g1 hcl' hcb hz
            clear hc hcc pg
            obtain ⟨w', hrun, hm', hg'⟩ := hm.drew.put (by omega) c.1 hcl' c.2.2 hcb.1 hcb.2
            go_wp2_with fail
            go_region
            all_goals go_wp2_with fail
            all_goals go_roundw
            case rel => exact ⟨k + 1, by omega, by go_num, by rw [hz.out]; exact hm', hbel.drew.grown hg' hbel.size (fun j e => by cases e; exact zA)⟩
            case measure => simp [intOf]; omega
          · have e : Hid (cs.take k = cs) := List.take_of_length_le (by omega)
            have e2 : Hid (k = cs.length) := by unfold Hid; omega
            rw [e.out, e2.out] at hm
            have zB := hbel.size
            go_wp2_with fail
            refine (union_any a1' a2' a3' a4' ak' s1.length s2.length s3.length s4.length ks.length s1 s2 s3 s4 ks w10.heap.size wr (p1.below hbel (Nat.le_refl _)) (p2.below hbel (Nat.le_refl _)) (p3.below hbel (Nat.le_refl _)) (p4.below hbel (Nat.le_refl _)) (pk.below hbel (Nat.le_refl _)) zB nlk.out HV.out nk).mono ?_
            rintro e w12 ⟨⟨au, cu, us2, rfl, pu, hu⟩, h12⟩
            have C12 : Below w10.heap.size w10 w12 := hbel.trans (h12.mono zB)
            have hm12 := hm.below h12 hm.lt
            obtain rfl : us = us2 := eq_of_sorted HU1.out hu.up (fun x => by
              rw [HU2.out x, hu.mem x, List.mem_append, mem_merge, mem_merge, zip_keys HF.out.1]
              simp only [or_assoc])
            have hul := hu.le
            have hcu : cs.length ≤ 100000 := by rw [HCS.out]; exact Nat.le_trans (chgs_le _ _ _) hul
            clear hu h12 hm hbel zB
            have p1 := p1.below C12 (Nat.le_refl _)
            have p2 := p2.below C12 (Nat.le_refl _)
            have p3 := p3.below C12 (Nat.le_refl _)
            have p4 := p4.below C12 (Nat.le_refl _)
            have po := pout.below C12 (Nat.le_refl _)
            go_wp2_with fail
            go_loop [19] (fun iv => ∃ i : Nat, i ≤ us.length ∧ iv = .int .i64 i) (fun iv => us.length - (intOf iv).toNat)
            case atStart => exact ⟨0, Nat.zero_le _, rfl⟩
            case round =>
              obtain ⟨i, hi, rfl⟩ := hrel
              by_cases hlt : i < us.length
              · obtain ⟨bu, ou, rfl, hbu, hcu⟩ := pu.at hlt
                have hxl := HUL.out _ (List.getElem_mem hlt)
                have HE : Hid (heldF us[i] (laidOn (ks.zip vs) cs) = stand us[i] s1 s2 s3 s4) := by
                  rw [HCS.out]; exact laid_eq (st := fun x => stand x s1 s2 s3 s4) (List.getElem_mem hlt)
                obtain ⟨x, hx⟩ : ∃ x, x = us[i] := ⟨_, rfl⟩
                rw [← hx] at hcu hxl HE
                clear hx pu
                obtain ⟨ok, hlk, hok⟩ := hm12.look_ok x hxl
                rw [HE.out] at hlk hok
                have hii : (i : Int) < (us.length : Int) := by omega
                cases ok
                · have hok := hok rfl
                  rw [hok] at hlk
                  go_wp2_with (go_at_call 24; refine (modelStanding_any a1' a2' a3' a4' s1.length s2.length s3.length s4.length s1 s2 s3 s4 x _ _ p1 p2 p3 p4 m1 m2 m3 m4).mono ?_; rw [hok]; rintro e w12 ⟨rfl, rfl⟩)
                  go_round
                  case rel => exact ⟨i + 1, by omega, by go_num⟩
                  case measure => simp [intOf]; omega
                · clear hok
                  go_wp2_with (go_at_call 24; refine (modelStanding_any a1' a2' a3' a4' s1.length s2.length s3.length s4.length s1 s2 s3 s4 x _ _ p1 p2 p3 p4 m1 m2 m3 m4).mono ?_; rintro e w12 ⟨rfl, rfl⟩)
                  go_round
                  case rel => exact ⟨i + 1, by omega, by go_num⟩
                  case measure => simp [intOf]; omega
              · have hbox12 := hbox10.below C12 hbl10
                have q0' := hbox12.cell (i := 0) (by simp)
                have q1' := hbox12.cell (i := 1) (by simp)
                have q2' := hbox12.cell (i := 2) (by simp)
                have q3' := hbox12.cell (i := 3) (by simp)
                have q4' := hbox12.cell (i := 4) (by simp)
                simp only [List.getElem_cons_zero, List.getElem_cons_succ] at q0' q1' q2' q3' q4'
                have SEEN : Seen w12 w10.heap.size a1' (some ⟨g, 0, none⟩) a2' a3' a4' s1.length cg s1 (mergeL s2 (mergeL s3 s4)) s2 s3 s4 :=
                  { h0 := p1, h1 := po, h2 := p2, h3 := p3, h4 := p4, z0 := fun e => ⟨nl1.out e, (by rw [nl1.out e]; rfl)⟩, z1 := fun e => (by cases e), n0 := n1, n1 := (by rw [merge_len, merge_len]; omega), n2 := n2, n3 := n3, n4 := n4,
                    p0 := HV.out.p1, p2 := HV.out.p2, p3 := HV.out.p3, p4 := HV.out.p4, nd := view_nodup HV.out, out := fun x => (by rw [mem_merge, mem_merge]), len := HLEN.out }
                have HPL2 : Hid (∀ p ∈ laidOn (ks.zip vs) cs, p.1.length ≤ maxLen) := by
                  intro p hp
                  rcases List.mem_append.1 hp with h | h
                  · exact HPL.out p h
                  · obtain ⟨c, hc, rfl⟩ := List.mem_map.1 h
                    rw [HCS.out] at hc
                    exact HUL.out _ (mem_chgs.1 hc).1
                go_wp2_with fail
                refine (zzchangesTo_any bA (ks.length + cs.length) (laidOn (ks.zip vs) cs) a1' (some ⟨g, 0, none⟩) a2' a3' a4' s1.length cg s2.length s3.length s4.length s1 (mergeL s2 (mergeL s3 s4)) s2 s3 s4 w10.heap.size w12 C12.size hm12 (by omega) SEEN HPL2.out).mono ?_
                rintro e w13 ⟨⟨vg2, rfl, us3, v1, v2, v3, v4⟩, h13⟩
                have hnone : chgs (fun x => heldF x (laidOn (ks.zip vs) cs)) (fun x => stand x s1 s2 s3 s4) us3 = [] := by
                  refine chgs_none fun x hx => ?_
                  have hxu : x ∈ us := by
                    rw [HU2.out x]
                    rcases (v2 x).1 hx with h | h
                    · exact .inl h
                    · rcases laid_keys.1 h with h | h
                      · exact .inr h
                      · obtain ⟨c, hc, rfl⟩ := List.mem_map.1 h
                        rw [HCS.out] at hc
                        exact (HU2.out _).1 (mem_chgs.1 hc).1
                  rw [HCS.out]
                  exact laid_eq (st := fun x => stand x s1 s2 s3 s4) hxu
                rw [hnone] at v4
                obtain ⟨a9, cap9, hv9, -⟩ := owned_shape3 v4
                subst hv9
                clear v1 v2 v3 v4 hnone SEEN
                go_wp2_with fail
                go_ret
                exact ⟨rfl, B10.trans ((C12.trans (h13.mono C12.size)).mono z10)⟩
end Go.Proofs.Qxb6003793a
