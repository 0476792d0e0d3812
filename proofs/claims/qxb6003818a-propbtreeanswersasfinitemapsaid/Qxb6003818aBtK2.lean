import Derived.Test.Qxb6003818aBtK
namespace Go.Proofs.Qxb6003818a
open Go.ChangeShapes Go.WideShapes Go.ChangeAt Go.RowKit
set_option linter.unusedVariables false
set_option linter.unusedSimpArgs false

set_option maxHeartbeats 8000000 in
set_option maxRecDepth 100000 in
theorem seek67 (tb : Nat) (nv : Value) (key : Str) (w : World) (h : Nat) (t : Kid) (htb : Blk w tb 61 [ptr t.g, nv]) (HT : Tree w h 0 t) (ha : Asc t.fl) (hn : t.fl.length ≤ 100000) :
    Calls Try.prog 67 #[ptr tb, strV key, .bool false] w fun e w' => ∃ x b, e = .returned (.tuple #[aggI x, .bool b]) ∧ Upd w w' [] ∧ Found key t.fl x b := by
  obtain ⟨W, hW⟩ : ∃ W, W = w.alloc (.cells #[.string ⟨#[]⟩, .string ⟨#[]⟩, .string ⟨#[]⟩, .bool false, .bool false] 105) := ⟨_, rfl⟩
  have hu : Upd w W [] := by rw [hW]; exact Upd.alloc w _ _
  have hbx : Blk W w.heap.size 105 [.string ⟨#[]⟩, .string ⟨#[]⟩, .string ⟨#[]⟩, .bool false, .bool false] := by rw [hW]; exact blk_new w _ _
  have htb' := htb.upd hu (by simp)
  obtain ⟨q0, q1, -, -⟩ := htb'.two
  have HT' := tree_upd hu HT (fun k _ => by simp)
  have ST : SeekAt w key t.fl w.heap.size h (.pointer none) (ptr t.g) W := ⟨⟨t, rfl, HT', ha, hn, fun u => Iff.rfl⟩, .inl rfl, hu, Nat.le_refl _, _, _, _, _, _, hbx⟩
  generalize t.fl = fl at *
  clear HT HT' htb htb' hbx
  subst hW
  generalize hbx : w.heap.size = bx at *
  go_enter Try.func67, Try.ntmps67
  go_wp2
  clear hn ha hu q0 q1
  have HBX := show Hid _ from hbx
  clear hbx
  go_loopg [8, 9] h (fun k s8 s9 wr => SeekAt w key fl bx k s8 s9 wr)
  case atStart => exact ST
  case round =>
    clear ST
    obtain ⟨⟨t, rfl, HT, ha, hn, hiff⟩, hL, hu, hsz, x0, x1, x2, x3, x4, hb⟩ := hrel
    have HIFF := show Hid _ from hiff
    clear hiff
    obtain ⟨v, c, its, ks, N⟩ := tree_iff.1 HT
    have haf : Asc (flat its ks) := by rw [← N.fl]; exact ha
    have hil : its.length ≤ 100000 := by have := its_le_flat its ks; rw [← N.fl] at this; omega
    have X := search75 t.g key v c its _ N.blk N.row (asc_its haf) hil
    obtain ⟨I, J, hIJ, hI, hIlt, hcase⟩ := pos_cases key (asc_its haf)
    have hple := pos_le key its
    have HN : Hid _ := N
    have HA : Hid _ := haf
    clear N haf HT
    rcases hcase with ⟨hhit, hgt⟩ | ⟨u, J', rfl, hhit⟩
    · rw [hhit] at X
      cases gk with
      | zero =>
        obtain ⟨rfl, rfl⟩ := HN.out.leaf rfl
        have HNO : Hid (∀ u, (key, u) ∉ fl) := by
          intro u hu'
          have := (HIFF.out u).1 hu'
          rw [HN.out.fl, flat_leaf, hIJ] at this
          rcases List.mem_append.1 this with h1 | h1
          · exact not_in_lt hIlt u h1
          · exact not_in_gt hgt u h1
        have HF : Hid (∀ x b, (b = true → x.1 ≠ key) → Found key fl x b) := fun x b hx => ⟨fun u hm => absurd hm (HNO.out u), fun _ => hx⟩
        by_cases hlt : posL key its < its.length
        · have hne : Hid (its[posL key its].1 ≠ key) := by
            have hm : its[posL key its] ∈ J := by
              have h1 : its[posL key its]? = J[0]? := by rw [← hI]; rw [hIJ, List.getElem?_append_right (Nat.le_refl _), Nat.sub_self]
              rw [List.getElem?_eq_getElem hlt] at h1
              exact List.mem_of_getElem? h1.symm
            exact fun e => ne_of_lt' (hgt _ hm) e.symm
          clear hIJ hI hIlt hhit hL ha hn hgt
          generalize posL key its = p at *
          have hpz : (p : Int) < (its.length : Int) := by omega
          have hnil := eql63 none 0 0 0 0
          simp only [Option.isNone_none] at hnil
          generalize hxx : its[p] = x at *
          have HX := show Hid _ from hxx
          clear hxx
          go_wp2_with (go_at_call 75; refine X.mono ?_; rintro e w1 ⟨rfl, hu1⟩; have N1 := nt_upd0 HN.out hu1; obtain ⟨c0, c1, -, -⟩ := N1.blk.two; obtain ⟨r, cap, rfl, hcap, hcap2, hown, hr, d0, d1, d2, d3, d4, -⟩ := row_item N1.row hlt; rw [HX.out] at d0 d1 d2 d3 d4; obtain ⟨e0, e1, e2, e3, e4, f0, f1, f2, f3, f4⟩ := (hb.upd hu1 (by simp)).five)
          have hU := ((hu.trans hu1 (fun _ _ h => h)).own5 (hb.upd hu1 (by simp)) hsz (strV x.1) (strV x.2.1) (strV x.2.2.1) (.bool x.2.2.2.1) (.bool x.2.2.2.2))
          exact bodyPost_ret (v := .tuple #[aggI x, .bool true]) (by simp [results, Try.results67, go_sem, *]) rfl ⟨x, true, rfl, hU.1, HF.out x true (fun _ => hne.out)⟩
        · have hpe : posL key its = its.length := by omega
          rw [hpe] at X
          obtain ⟨a, cap, rfl⟩ := row_slice HN.out.row
          clear hIJ hI hIlt hhit ha hn hgt hple hlt hpe
          have hnil := eql63 none 0 0 0 0
          simp only [Option.isNone_none] at hnil
          rcases hL with rfl | ⟨x, b0, o0, rfl, hne, l0, l1, l2, l3, l4⟩
          · go_wp2_with (go_at_call 75; refine X.mono ?_; rintro e w1 ⟨rfl, hu1⟩; have N1 := nt_upd0 HN.out hu1; obtain ⟨c0, c1, -, -⟩ := N1.blk.two; obtain ⟨e0, e1, e2, e3, e4, f0, f1, f2, f3, f4⟩ := (hb.upd hu1 (by simp)).five)
            have hU := ((hu.trans hu1 (fun _ _ h => h)).own5 (hb.upd hu1 (by simp)) hsz (.string ⟨#[]⟩) (.string ⟨#[]⟩) (.string ⟨#[]⟩) (.bool false) (.bool false))
            exact bodyPost_ret (v := .tuple #[aggI ([], [], [], false, false), .bool false]) (by simp [results, Try.results67, go_sem, *]) rfl ⟨([], [], [], false, false), false, rfl, hU.1, HF.out _ false (fun h => by cases h)⟩
          · have HNE := show Hid _ from hne
            clear hne
            go_wp2_with (go_at_call 75; refine X.mono ?_; rintro e w1 ⟨rfl, hu1⟩; have N1 := nt_upd0 HN.out hu1; obtain ⟨c0, c1, -, -⟩ := N1.blk.two; have d0 := cell_upd l0 hu1; have d1 := cell_upd l1 hu1; have d2 := cell_upd l2 hu1; have d3 := cell_upd l3 hu1; have d4 := cell_upd l4 hu1; obtain ⟨e0, e1, e2, e3, e4, f0, f1, f2, f3, f4⟩ := (hb.upd hu1 (by simp)).five)
            have hU := ((hu.trans hu1 (fun _ _ h => h)).own5 (hb.upd hu1 (by simp)) hsz (strV x.1) (strV x.2.1) (strV x.2.2.1) (.bool x.2.2.2.1) (.bool x.2.2.2.2))
            exact bodyPost_ret (v := .tuple #[aggI x, .bool true]) (by simp [results, Try.results67, go_sem, *]) rfl ⟨x, true, rfl, hU.1, HF.out x true (fun _ => HNE.out)⟩
      | succ kk =>
        have hkl := HN.out.inner (by omega)
        have hpk : posL key its < ks.length := by omega
        have NEXT : Hid (∀ w1, Upd wr w1 [] → ∃ t' : Kid, ptr ks[posL key its].g = ptr t'.g ∧ Tree w1 kk 0 t' ∧ Asc t'.fl ∧ t'.fl.length ≤ 100000 ∧ (∀ u, (key, u) ∈ fl ↔ (key, u) ∈ t'.fl)) := by
          intro w1 hu1
          have hkl2 := hkl
          rw [hIJ] at hkl2
          obtain ⟨A, k, B, hks, hA, hB⟩ := split_ks hkl2
          have hk : ks[posL key its] = k := by
            have h1 : ks[posL key its]? = some k := by rw [hks, List.getElem?_append_right (by omega), hA, hI, Nat.sub_self]; rfl
            rw [List.getElem?_eq_getElem hpk] at h1
            exact Option.some.inj h1
          have hfl : t.fl = lefts A I ++ k.fl ++ rights B J := by rw [HN.out.fl, hks, hIJ]; exact flat_at hA k B J
          have ha2 := ha
          rw [hfl] at ha2
          obtain ⟨a1, a2, a3⟩ := asc_mid ha2
          refine ⟨k, by rw [hk], ?_, a2, by rw [hfl] at hn; simp at hn; omega, fun u => ?_⟩
          · have := HN.out.kids k (by rw [hks]; simp)
            exact tree_lo (tree_upd hu1 this (fun _ _ => by simp)) (Nat.zero_le _)
          · rw [HIFF.out u, hfl]
            have n1 := not_in_lt (lefts_lt hA a1 hIlt) u
            have n2 := not_in_gt (rights_gt hB a3 hgt) u
            simp [n1, n2]
        by_cases hlt : posL key its < its.length
        · have hne : Hid (its[posL key its].1 ≠ key) := by
            have hm : its[posL key its] ∈ J := by
              have h1 : its[posL key its]? = J[0]? := by rw [← hI]; rw [hIJ, List.getElem?_append_right (Nat.le_refl _), Nat.sub_self]
              rw [List.getElem?_eq_getElem hlt] at h1
              exact List.mem_of_getElem? h1.symm
            exact fun e => ne_of_lt' (hgt _ hm) e.symm
          clear hIJ hI hIlt hhit hL ha hn hgt
          generalize posL key its = p at *
          have hpz : (p : Int) < (its.length : Int) := by omega
          have hpz2 : (p : Int) < (ks.length : Int) := by omega
          generalize hxx : its[p] = x at *
          have HX := show Hid _ from hxx
          clear hxx
          generalize hkk : ks[p] = kd at *
          have HK := show Hid _ from hkk
          clear hkk hkl
          go_wp2_with (go_at_call 75; refine X.mono ?_; rintro e w1 ⟨rfl, hu1⟩; have N1 := nt_upd0 HN.out hu1; obtain ⟨c0, c1, -, -⟩ := N1.blk.two; obtain ⟨r, cap, rfl, hcap, hcap2, hown, hr, d0, d1, d2, d3, d4, -⟩ := row_item N1.row hlt; rw [HX.out] at d0 d1 d2 d3 d4; obtain ⟨r2, cap2, rfl, hcap3, hcap4, hown2, hr2, k0, -⟩ := row_kid N1.krow hpk; rw [HK.out] at k0; have hnil := eql63 (some ⟨r2, 0, none⟩) ks.length cap2 0 0; simp only [Option.isNone_some] at hnil)
          go_roundg kk
          case measure => omega
          case rel => exact ⟨NEXT.out _ hu1, .inr ⟨x, r, p * 5, rfl, hne.out, d0, d1, d2, d3, d4⟩, hu.trans hu1 (fun _ _ h => h), hsz, _, _, _, _, _, hb.upd hu1 (by simp)⟩
        · have hpe : posL key its = its.length := by omega
          rw [hpe] at X
          obtain ⟨a, cap, rfl⟩ := row_slice HN.out.row
          have hLl : its.length < ks.length := by omega
          have NEXT2 : Hid (∀ w1, Upd wr w1 [] → ∃ t' : Kid, ptr ks[its.length].g = ptr t'.g ∧ Tree w1 kk 0 t' ∧ Asc t'.fl ∧ t'.fl.length ≤ 100000 ∧ (∀ u, (key, u) ∈ fl ↔ (key, u) ∈ t'.fl)) := by
            have := NEXT.out
            simp only [hpe] at this
            exact this
          clear NEXT hIJ hI hIlt hhit ha hn hgt hple hlt hpe hpk
          have hpz2 : (its.length : Int) < (ks.length : Int) := by omega
          generalize hkk : ks[its.length] = kd at *
          have HK := show Hid _ from hkk
          clear hkk hkl
          go_wp2_with (go_at_call 75; refine X.mono ?_; rintro e w1 ⟨rfl, hu1⟩; have N1 := nt_upd0 HN.out hu1; obtain ⟨c0, c1, -, -⟩ := N1.blk.two; obtain ⟨r2, cap2, rfl, hcap3, hcap4, hown2, hr2, k0, -⟩ := row_kid N1.krow hLl; rw [HK.out] at k0; have hnil := eql63 (some ⟨r2, 0, none⟩) ks.length cap2 0 0; simp only [Option.isNone_some] at hnil)
          go_roundg kk
          case measure => omega
          case rel => exact ⟨NEXT2.out _ hu1, hL.upd hu1, hu.trans hu1 (fun _ _ h => h), hsz, _, _, _, _, _, hb.upd hu1 (by simp)⟩
    · rw [hhit] at X
      have hlt : posL key its < its.length := by rw [hIJ, List.length_append, ← hIJ, hI, List.length_cons]; omega
      have hxe : its[posL key its] = (key, u) := by
        have h1 : its[posL key its]? = some (key, u) := by rw [← hI]; rw [hIJ]; simp
        rw [List.getElem?_eq_getElem hlt] at h1
        exact Option.some.inj h1
      have HF : Hid (Found key fl (key, u) true) := by
        have hm : (key, u) ∈ t.fl := by rw [HN.out.fl]; exact mem_mix_right _ _ _ (by rw [← hxe]; exact List.getElem_mem hlt)
        refine ⟨fun u' hu' => ⟨rfl, ?_⟩, fun hno _ => absurd ((HIFF.out u).2 hm) (hno u)⟩
        rw [asc_uniq ha hm ((HIFF.out u').1 hu')]
      clear hIJ hI hIlt hhit hL ha hn
      generalize posL key its = p at *
      have hpz : (p : Int) < (its.length : Int) := by omega
      go_wp2_with (go_at_call 75; refine X.mono ?_; rintro e w1 ⟨rfl, hu1⟩; have N1 := nt_upd0 HN.out hu1; obtain ⟨c0, c1, -, -⟩ := N1.blk.two; obtain ⟨r, cap, rfl, hcap, hcap2, hown, hr, d0, d1, d2, d3, d4, -⟩ := row_item N1.row hlt; rw [hxe] at d0 d1 d2 d3 d4; obtain ⟨e0, e1, e2, e3, e4, f0, f1, f2, f3, f4⟩ := (hb.upd hu1 (by simp)).five; simp only at d0 d1 d2 d3 d4)
      have hU := ((hu.trans hu1 (fun _ _ h => h)).own5 (hb.upd hu1 (by simp)) hsz (strV key) (strV u.1) (strV u.2.1) (.bool u.2.2.1) (.bool u.2.2.2))
      exact bodyPost_ret (v := .tuple #[aggI (key, u), .bool true]) (by simp [results, Try.results67, go_sem, *]) rfl ⟨(key, u), true, rfl, hU.1, HF.out⟩
end Go.Proofs.Qxb6003818a
