import Derived.Test.Qxb6003818aBtU3
namespace Go.Proofs.Qxb6003818a
open Go.ChangeShapes Go.WideShapes Go.ChangeAt Go.RowKit
set_option linter.unusedVariables false
set_option linter.unusedSimpArgs false

theorem Turns.grow {w w1 w2 : World} {t t1 : Kid} (h : Turns w w1 t t1) (hu : Upd w1 w2 []) : Turns w w2 t t1 := ⟨h.upd.trans hu (fun _ _ _ => by simp), h.g, h.fresh⟩

set_option maxHeartbeats 8000000 in
set_option maxRecDepth 100000 in
/-- remove at an inner node: the item of a key. -/
theorem remove_inner_key (GA : GrowAny) (h : Nat) (IH : RemAny h) (lo : Nat) (t : Kid) (key : Str) (w : World) (HT : Tree w (h + 1) lo t) (ha : Asc t.fl) (hs : Sep t) (hn : t.fl.length ≤ 50000) (hlo : 1 ≤ lo) :
    Calls Try.prog 66 #[ptr t.g, strV key, .bool false] w fun e w' => ∃ it b, e = .returned (.tuple #[aggI it, .bool b]) ∧ ∃ t', RemOK w w' (h + 1) (lo - 1) t t' key false it b := by
  obtain ⟨W, hW⟩ : ∃ W, W = w.alloc (.cells #[.string ⟨#[]⟩, .string ⟨#[]⟩, .string ⟨#[]⟩, .bool false, .bool false] 105) := ⟨_, rfl⟩
  have hu : Upd w W [] := by rw [hW]; exact Upd.alloc w _ _
  have hbx : Blk W w.heap.size 105 [.string ⟨#[]⟩, .string ⟨#[]⟩, .string ⟨#[]⟩, .bool false, .bool false] := by rw [hW]; exact blk_new w _ _
  have hbl : ∀ k, w.heap.size ≤ k → t.ft.count k = 0 := tree_lt HT
  have HT' := tree_upd hu HT (fun _ _ => by simp)
  have ST : RemAt W h lo t key false w.heap.size 1 W := RemAt.start HT' ha hbx
  have HF : Hid (Upd w W [] ∧ Blk W w.heap.size 105 [.string ⟨#[]⟩, .string ⟨#[]⟩, .string ⟨#[]⟩, .bool false, .bool false] ∧ (∀ k, w.heap.size ≤ k → t.ft.count k = 0) ∧ Asc t.fl ∧ Sep t ∧ t.fl.length ≤ 50000) := ⟨hu, hbx, hbl, ha, hs, hn⟩
  have HGA : Hid GrowAny := GA
  have HIH : Hid (RemAny h) := IH
  clear hu hbx hbl HT HT' ha hs hn GA IH
  subst hW
  go_enter Try.func66, Try.ntmps66
  go_wp2
  generalize (w.alloc (.cells #[.string ⟨#[]⟩, .string ⟨#[]⟩, .string ⟨#[]⟩, .bool false, .bool false] 105)) = W at *
  generalize hbe : w.heap.size = bx at *
  have HB : Hid (w.heap.size = bx) := hbe
  clear hbe
  go_loopg [8] 1 (fun kx s8 wr => RemAt W h lo t key false bx kx wr)
  case atStart => exact ST
  case round =>
    clear ST
    obtain ⟨t1, T0, e1, ⟨x0, x1, x2, x3, x4, hbx0⟩, lo1, v, c, I, J, A, k, B, N0, hA, hB, hP, hph⟩ := hrel
    obtain ⟨hPI, hPJ⟩ : AllLt key I ∧ AllGe key J := by
      rcases hP with ⟨h2, _⟩ | ⟨_, h2⟩
      · cases h2
      · exact h2
    obtain ⟨-, hbxW, hbl, ha, hs, hn⟩ := HF.out
    have hg1 : t1.g = t.g := T0.g
    have ha1 : Asc t1.fl := by rw [e1]; exact ha
    have hs1 : Sep t1 := T0.sep hs
    have hn1 : t1.fl.length ≤ 50000 := by rw [e1]; exact hn
    have hb1 : t1.ft.count bx = 0 := by
      have h1 := (T0.fresh bx).1 hbxW.lt
      have h2 := hbl bx (Nat.le_refl _)
      omega
    have hai : Asc (I ++ J) := by rw [N0.fl] at ha1; exact asc_its ha1
    have hil : (I ++ J).length ≤ 50000 := by have := its_le_flat (I ++ J) (A ++ k :: B); rw [← N0.fl] at this; omega
    have X := search75 t1.g key v c (I ++ J) wr N0.blk N0.row hai (by omega)
    rw [pos_of hPI hPJ, hg1] at X
    obtain ⟨hit, hhit⟩ : ∃ hit, hit = hitL key (I ++ J) := ⟨_, rfl⟩
    rw [← hhit] at X
    have hcase : (hit = false ∧ AllGt key J) ∨ (hit = true ∧ ∃ u J', J = (key, u) :: J') := by
      obtain ⟨I2, J2, q1, q2, q3, q4⟩ := pos_cases key hai
      rw [pos_of hPI hPJ] at q2
      obtain ⟨z1, z2⟩ := List.append_inj q1 q2.symm
      subst z1 z2
      rw [← hhit] at q4
      rcases q4 with q4 | ⟨u, J', q5, q6⟩
      · exact .inl q4
      · exact .inr ⟨q6, u, J', q5⟩
    obtain ⟨p, hp⟩ : ∃ p, p = I.length := ⟨_, rfl⟩
    rw [← hp] at X
    have HPR : Hid (Turns W wr t t1 ∧ t1.fl = t.fl ∧ Blk wr bx 105 [x0, x1, x2, x3, x4] ∧ NT wr (Below1 wr (h + 1)) (h + 1) lo1 t1 v c (I ++ J) (A ++ k :: B)) := ⟨T0, e1, hbx0, N0⟩
    have HQ : Hid (A.length = I.length ∧ B.length = J.length ∧ AllLt key I ∧ AllGe key J ∧ Sep t1 ∧ Asc t1.fl ∧ t1.fl.length ≤ 50000 ∧ t1.ft.count bx = 0 ∧ t1.g = t.g ∧ p = I.length) := ⟨hA, hB, hPI, hPJ, hs1, ha1, hn1, hb1, hg1, hp⟩
    have HPH : Hid ((gk = 1 ∧ lo1 = lo) ∨ (gk = 0 ∧ lo1 = lo - 1 ∧ Tree wr h 16 k)) := hph
    have HCS : Hid ((hit = false ∧ AllGt key J) ∨ (hit = true ∧ ∃ u J', J = (key, u) :: J')) := hcase
    have hpl : p ≤ (I ++ J).length := by rw [hp]; simp
    obtain ⟨c0', c1', -, -⟩ := N0.blk.two
    rw [hg1] at c0' c1'
    clear T0 e1 hbx0 N0 hA hB hPI hPJ hs1 ha1 hn1 hb1 hg1 hp hP hph hhit hcase hai hil ha hs hn hbl hbxW
    go_wp2_with (go_at_call 75; refine X.mono ?_; rintro e w1 ⟨rfl, hu1⟩; revert hu1)
    intro hu1
    obtain ⟨T0, e1, hbx0, N0⟩ := HPR.out
    obtain ⟨hA, hB, hPI, hPJ, hs1, ha1, hn1, hb1, hg1, hp⟩ := HQ.out
    have T1 := T0.grow hu1
    have N := nt_upd0 N0 hu1
    have hbx := hbx0.upd hu1 (by simp)
    have hmem : k ∈ A ++ k :: B := by simp
    have HTk : Tree w1 h 15 k := N.kids k hmem
    obtain ⟨vk, ck, itk, ksk, Nk⟩ := tree_iff.1 HTk
    have hbk : k.ft.count bx = 0 := by
      have h1 := count_mem hmem bx
      rw [nt_count N] at hb1
      omega
    obtain ⟨n, hn'⟩ : ∃ n, n = (I ++ J).length := ⟨_, rfl⟩
    obtain ⟨nk, hnk⟩ : ∃ nk, nk = (A ++ k :: B).length := ⟨_, rfl⟩
    have hnkn : nk = n + 1 := by rw [hnk, hn', N.inner (by omega)]
    obtain ⟨a, cap, hv⟩ := owns_slice (owns_cast N.row hn'.symm rfl)
    have hpk : p < nk := by omega
    obtain ⟨rc, capc, hc, -, -, -, hrcl, k0, -⟩ := row_kidN (owns_cast N.krow hnk.symm rfl) hnk (i := p) (by omega)
    rw [show (A ++ k :: B)[p]'(by omega) = k by simp [hp, ← hA]] at k0
    clear c0' c1'
    subst hv hc
    obtain ⟨c0, c1, cf0, cf1⟩ := N.blk.two
    rw [hg1] at c0 c1
    obtain ⟨m, hm⟩ : ∃ m, m = itk.length := ⟨_, rfl⟩
    obtain ⟨ak, capk, hvk⟩ := owns_slice (owns_cast Nk.row hm.symm rfl)
    subst hvk
    obtain ⟨kk0, -⟩ := Nk.blk.two
    have hnil := eql63 (some ⟨rc, 0, none⟩) nk capc 0 0
    simp only [Option.isNone_some] at hnil
    have hnz : (p : Int) < (nk : Int) := by omega
    have HN : Hid (Turns W w1 t t1 ∧ t1.fl = t.fl ∧ Blk w1 bx 105 [x0, x1, x2, x3, x4] ∧ NT w1 (Below1 w1 (h + 1)) (h + 1) lo1 t1 (.slice a n cap) (.slice (some ⟨rc, 0, none⟩) nk capc) (I ++ J) (A ++ k :: B) ∧ k.ft.count bx = 0) := ⟨T1, e1, hbx, N, hbk⟩
    by_cases hsm : itk.length ≤ 15
    · have hkx : gk = 1 ∧ lo1 = lo := by
        rcases HPH.out with h1 | ⟨_, _, h3⟩
        · exact h1
        · obtain ⟨v2, c2, it2, ks2, N2⟩ := tree_iff.1 (tree_upd hu1 h3 (fun _ _ => by simp))
          exfalso
          have h1 := N2.lo
          have h2 := N2.blk
          have h3 := Nk.blk
          unfold Blk at h2 h3
          rw [h2] at h3
          have h4 : v2 = .slice ak m capk := by simp at h3; exact h3.1
          obtain ⟨a2, cap2, h5⟩ := owns_slice N2.row
          rw [h4] at h5
          have h6 := (Value.slice.inj h5).2.1
          omega
      obtain ⟨hk1, hl1⟩ := hkx
      subst hk1 hl1
      have Y := HGA.out h lo1 t1 k _ _ _ _ I J itk A B ksk key false w1 N hs1 ha1 hA hB hlo (.inr ⟨rfl, hPI, hPJ⟩) Nk hsm hn1
      rw [← hp, hg1] at Y
      have hm15 : (m : Int) ≤ 15 := by omega
      clear N Nk HTk T0 T1 N0 e1 hbx hbx0 hA hB hPI hPJ hs1 ha1 hn1 hb1 hbk hn' hnk hnkn hm hsm hmem hg1 hp X HPR HPH
      go_wp2_with (go_at_call 79; refine Y.mono ?_; rintro e w2 ⟨rfl, t2, hG⟩; revert hG)
      intro hG
      have HG : Hid (GrowOK w1 w2 h lo1 t1 t2 key false) := hG
      clear hG Y
      go_wp2
      go_roundg 0
      case measure => omega
      case rel =>
        obtain ⟨T1, e1, hbx, -, -⟩ := HN.out
        obtain ⟨-, -, -, -, -, -, -, hb1, -, -⟩ := HQ.out
        obtain ⟨v', c', I', J', A', k', B', n1, n2, n3, n4, n5⟩ := HG.out.ex
        exact ⟨t2, T1.trans HG.out.turns, HG.out.fl.trans e1, ⟨_, _, _, _, _, hbx.upd HG.out.turns.upd hb1⟩, lo1 - 1, v', c', I', J', A', k', B', n1, n2, n3, n4, .inr ⟨rfl, rfl, n5⟩⟩
    · have Hk16 : Tree w1 h 16 k := tree_iff.2 ⟨_, _, _, _, Nk.blk, Nk.row, Nk.krow, by omega, Nk.leaf, Nk.inner, Nk.kids, Nk.fl, Nk.ft⟩
      obtain ⟨f1, f2, f3, f4, f5⟩ := child_facts (n := 50000) (bvl := bx) N hs1 ha1 hA hn1 hb1
      have hlo1 : lo - 1 ≤ lo1 := by rcases HPH.out with ⟨_, h1⟩ | ⟨_, h1, _⟩ <;> omega
      have hm15 : ¬ ((m : Int) ≤ 15) := by omega
      rcases HCS.out with ⟨hh, hgt⟩ | ⟨hh, u, J', hJ⟩
      · subst hh
        have Y := HIH.out 16 k key false w1 Hk16 f2 f3 f4 (fun _ => by omega) (fun h => by cases h)
        have HGT : Hid (AllGt key J) := hgt
        clear N Nk HTk T0 T1 N0 e1 hbx hbx0 hA hB hPI hPJ hs1 ha1 hn1 hb1 hbk hn' hnk hnkn hm hsm hmem hg1 hp X HPR HPH f1 f2 f3 f4 f5 Hk16 hgt HCS
        go_wp2_with (go_at_call 66; refine Y.mono ?_; rintro e w2 ⟨it, b, rfl, k', hR⟩; revert hR)
        intro hR
        obtain ⟨T1, e1, hbx, N, hbk⟩ := HN.out
        obtain ⟨hA, hB, hPI, hPJ, hs1, ha1, hn1, hb1, hg1, hp⟩ := HQ.out
        obtain ⟨hu, hbxW, hbl, -⟩ := HF.out
        obtain ⟨t', ht'⟩ := rem_child N hs1 ha1 hA hB (fun _ => ⟨hPI, HGT.out⟩) (fun h => by cases h) hR
        obtain ⟨ik, is, ie, it1, io⟩ := it
        have FIN := rem_fin hu (by rw [HB.out]; exact hbl) hbxW (Nat.le_of_eq HB.out) ((ht'.after T1 e1).weak hlo1) (strV ik) (strV is) (strV ie) (.bool it1) (.bool io)
        have HFIN : Hid _ := FIN
        obtain ⟨q0, q1, q2, q3, q4, qf0, qf1, qf2, qf3, qf4⟩ := (hbx.upd hR.turns.upd hbk).five
        clear FIN ht' hR T1 e1 hbx N hs1 ha1 hb1 hbk hA hB hPI hPJ hn1 hg1 hp hu hbxW hbl Y c0 c1 cf0 cf1 k0 kk0
        go_wp2
        exact bodyPost_ret (v := .tuple #[aggI (ik, is, ie, it1, io), .bool b]) (by simp [results, Try.results66, go_sem, *]) rfl ⟨(ik, is, ie, it1, io), b, rfl, t', HFIN.out⟩
      · subst hh
        obtain ⟨us, ue, ut, uo⟩ := u
        have hpn : p < n := by rw [hn', hJ, hp]; simp
        have hxp : (I ++ J)[p]'(by omega) = (key, us, ue, ut, uo) := by
          have h1 : (I ++ J)[p]? = some (key, us, ue, ut, uo) := by rw [hJ, hp]; simp
          rw [List.getElem?_eq_getElem (by omega)] at h1
          exact Option.some.inj h1
        obtain ⟨rt, cap', hv, -, -, hown, hrtl, -⟩ := row_itemN (owns_cast N.row hn'.symm rfl) hn' (i := p) (by omega)
        have hav : a = some ⟨rt, 0, none⟩ := (Value.slice.inj hv).1
        subst hav
        cases hv
        obtain ⟨d0, d1, d2, d3, d4, -⟩ := row_itemS (owns_cast N.row hn'.symm rfl) hn' (i := p) (by omega) hxp
        simp only at d0 d1 d2 d3 d4
        have hpz : (p : Int) < (n : Int) := by omega
        have hkl := Nk.blk.lt
        have hgl := N.blk.lt
        rw [hg1] at hgl
        have HTT : Hid (Tree w1 h 16 k ∧ Asc k.fl ∧ Sep k ∧ k.fl.length ≤ 50000 ∧ n = (I ++ J).length ∧ J = (key, us, ue, ut, uo) :: J' ∧ rt < w1.heap.size ∧ p < n) := ⟨Hk16, f2, f3, f4, hn', hJ, hrtl, hpn⟩
        clear N Nk HTk T0 T1 N0 e1 hbx hbx0 hA hB hPI hPJ hs1 ha1 hn1 hb1 hbk hn' hnk hnkn hm hsm hmem hg1 hp X HPR HPH f1 f2 f3 f4 f5 Hk16 HCS hJ hxp
        go_wp2
        obtain ⟨T1, e1, hbx, N, hbk⟩ := HN.out
        obtain ⟨hA, hB, hPI, hPJ, hs1, ha1, hn1, hb1, hg1, hp⟩ := HQ.out
        obtain ⟨Hk16, f2, f3, f4, hn', hJ, hrtl, hpn⟩ := HTT.out
        obtain ⟨W3, hW3⟩ : ∃ W3, W3 = (w1.alloc (.cells #[strV key, strV us, strV ue, .bool ut, .bool uo] 105)).drew := ⟨_, rfl⟩
        have hu3 : Upd w1 W3 [] := by rw [hW3]; exact (Upd.alloc w1 _ _).trans (Upd.drew _ _) (fun _ _ h => h)
        have hib : Blk W3 w1.heap.size 105 [strV key, strV us, strV ue, .bool ut, .bool uo] := by rw [hW3]; exact blk_new w1 _ _
        have N3 := nt_upd0 N hu3
        have T3 := T1.grow hu3
        have hbx3 := hbx.upd hu3 (by simp)
        have Y := HIH.out 16 k [] true W3 (tree_upd hu3 Hk16 (fun _ _ => by simp)) f2 f3 f4 (fun _ => by omega) (fun _ => by omega)
        have hik : k.ft.count w1.heap.size = 0 := tree_lt Hk16 _ (Nat.le_refl _)
        have hbw : bx < w1.heap.size := hbx.lt
        have hit1 : t1.ft.count w1.heap.size = 0 := tree_lt (tree_iff.2 ⟨_, _, _, _, N⟩) _ (Nat.le_refl _)
        have hrb : ¬ bx = rt := fun e => by
          rw [nt_count N, hown, e] at hb1
          simp at hb1
        have hri : ¬ w1.heap.size = rt := by omega
        have hbi : ¬ bx = w1.heap.size := by omega
        have hri' : ¬ rt = w1.heap.size := by omega
        have hrb' : ¬ rt = bx := fun e => hrb e.symm
        have hki : ¬ k.g = w1.heap.size := by omega
        have hgi : ¬ t.g = w1.heap.size := by omega
        subst hJ
        have HALL : Hid (Turns W W3 t t1 ∧ t1.fl = t.fl ∧ Blk W3 bx 105 [x0, x1, x2, x3, x4] ∧ NT W3 (Below1 W3 (h + 1)) (h + 1) lo1 t1 (.slice (some ⟨rt, 0, none⟩) n cap) (.slice (some ⟨rc, 0, none⟩) nk capc) (I ++ (key, us, ue, ut, uo) :: J') (A ++ k :: B) ∧ Blk W3 w1.heap.size 105 [strV key, strV us, strV ue, .bool ut, .bool uo] ∧ k.ft.count bx = 0 ∧ k.ft.count w1.heap.size = 0 ∧ n = (I ++ (key, us, ue, ut, uo) :: J').length ∧ p = I.length ∧ t1.g = t.g ∧ Sep t1 ∧ Asc t1.fl ∧ A.length = I.length ∧ B.length = J'.length + 1 ∧ ownB (.slice (some ⟨rt, 0, none⟩) n cap) = [rt]) := ⟨T3, e1, hbx3, N3, hib, hbk, hik, hn', hp, hg1, hs1, ha1, hA, by simpa using hB, hown⟩
        clear T1 e1 hbx N hbk hA hB hPI hPJ hs1 ha1 hn1 hb1 hg1 hp Hk16 f2 f3 f4 hn' hrtl hu3 hib N3 T3 hbx3 hik hbw hit1 HQ HTT HN
        subst hW3
        go_region_with (first | (go_at_call 66; refine Y.mono ?_; rintro e w5 ⟨it, b, rfl, k', hR⟩; obtain ⟨T3, e1, hbx3, N3, hib, hbk, hik, hn', hp, hg1, hs1, ha1, hA, hB, hown'⟩ := HALL.out; have N5 := (child_turns N3 hs1 hR.turns hR.tree).1; obtain ⟨g0, g1, gf0, gf1⟩ := N5.blk.two; simp only [hg1] at g0 g1 gf0 gf1; obtain ⟨m0, m1, m2, m3, m4, mf⟩ := row_itemS (owns_cast N5.row hn'.symm rfl) hn' (i := p) (by omega) (x := (key, us, ue, ut, uo)) (by simp [hp]); have mf0 := mf (p * 5); have mf1 := mf (p * 5 + 1); have mf2 := mf (p * 5 + 2); have mf3 := mf (p * 5 + 3); have mf4 := mf (p * 5 + 4); obtain ⟨q0, q1, q2, q3, q4, qf0, qf1, qf2, qf3, qf4⟩ := (hbx3.upd hR.turns.upd hbk).five; obtain ⟨i0, i1, i2, i3, i4, -⟩ := (hib.upd hR.turns.upd hik).five; have HR : Hid (RemOK _ w5 h 15 k k' [] true it b) := hR; obtain ⟨ik, is, ie, it1, io⟩ := it; simp only at m0 m1 m2 m3 m4; clear mf hR T3 e1 hbx3 N3 hib hbk hik hn' hp hg1 hs1 ha1 hA hB hown' N5))
        all_goals go_wp2
        all_goals (
          obtain ⟨T3, e1, hbx3, N3, hib, hbk, hik, hn', hp, hg1, hs1, ha1, hA, hB, hown'⟩ := HALL.out
          obtain ⟨hu, hbxW, hbl, -⟩ := HF.out
          obtain ⟨t', ht'⟩ := rem_found (r := rt) (n := n) N3 hs1 ha1 hA hB hown' HR.out
          rw [← hp] at ht'
          have FIN := rem_fin hu (by rw [HB.out]; exact hbl) hbxW (Nat.le_of_eq HB.out) ((ht'.after T3 e1).weak hlo1) (strV key) (strV us) (strV ue) (.bool ut) (.bool uo)
          have HFIN : Hid _ := FIN
          clear FIN ht' T3 e1 hbx3 N3 hib hbk hik hn' hp hg1 hs1 ha1 hA hB hown' hu hbxW hbl
          exact bodyPost_ret (v := .tuple #[aggI (key, us, ue, ut, uo), .bool true]) (by simp [results, Try.results66, go_sem, *]) rfl ⟨(key, us, ue, ut, uo), true, rfl, t', HFIN.out⟩)
end Go.Proofs.Qxb6003818a
