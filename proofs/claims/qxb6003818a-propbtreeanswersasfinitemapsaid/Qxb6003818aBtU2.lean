import Derived.Test.Qxb6003818aBtU
namespace Go.Proofs.Qxb6003818a
open Go.ChangeShapes Go.WideShapes Go.ChangeAt Go.RowKit
set_option linter.unusedVariables false
set_option linter.unusedSimpArgs false

set_option maxHeartbeats 8000000 in
set_option maxRecDepth 100000 in
/-- remove at a leaf: the item of a key. -/
theorem remove_leaf_key (lo : Nat) (t : Kid) (key : Str) (w : World) (HT : Tree w 0 lo t) (ha : Asc t.fl) (hs : Sep t) (hn : t.fl.length ≤ 50000) :
    Calls Try.prog 66 #[ptr t.g, strV key, .bool false] w fun e w' => ∃ it b, e = .returned (.tuple #[aggI it, .bool b]) ∧ ∃ t', RemOK w w' 0 (lo - 1) t t' key false it b := by
  obtain ⟨v, c, its, ks, N⟩ := tree_iff.1 HT
  obtain ⟨hks, hc⟩ := N.leaf rfl
  subst hks hc
  have hil : its.length ≤ 50000 := by have := its_le_flat its []; rw [← N.fl] at this; omega
  have haf : Asc its := by have := ha; rw [N.fl] at this; exact this
  obtain ⟨W, hW⟩ : ∃ W, W = w.alloc (.cells #[.string ⟨#[]⟩, .string ⟨#[]⟩, .string ⟨#[]⟩, .bool false, .bool false] 105) := ⟨_, rfl⟩
  have hu : Upd w W [] := by rw [hW]; exact Upd.alloc w _ _
  have hbx : Blk W w.heap.size 105 [.string ⟨#[]⟩, .string ⟨#[]⟩, .string ⟨#[]⟩, .bool false, .bool false] := by rw [hW]; exact blk_new w _ _
  have hbl : ∀ k, w.heap.size ≤ k → t.ft.count k = 0 := tree_lt HT
  have N1 := nt_upd0 N hu
  have X := search75 t.g key v (.slice none 0 0) its W N1.blk N1.row haf (by omega)
  have HS : Hid (Sep t ∧ Asc t.fl) := ⟨hs, ha⟩
  have HN : Hid (NT W (Below1 W 0) 0 lo t v (.slice none 0 0) its [] ∧ Upd w W [] ∧ Blk W w.heap.size 105 [.string ⟨#[]⟩, .string ⟨#[]⟩, .string ⟨#[]⟩, .bool false, .bool false] ∧ (∀ k, w.heap.size ≤ k → t.ft.count k = 0)) := ⟨N1, hu, hbx, hbl⟩
  obtain ⟨I, J, hIJ, hI, hIlt, hcase⟩ := pos_cases key haf
  have hnil := eql63 none 0 0 0 0
  simp only [Option.isNone_none] at hnil
  clear N N1 hu hbx hbl HT hs ha haf
  subst hW
  rcases hcase with ⟨hhit, hgt⟩ | ⟨u, J', hJ, hhit⟩
  · rw [hhit] at X
    generalize posL key its = p at *
    have HI : Hid (its = I ++ J ∧ AllLt key I ∧ AllGt key J) := ⟨hIJ, hIlt, hgt⟩
    clear hIJ hI hIlt hgt hhit
    go_enter Try.func66, Try.ntmps66
    go_wp2
    refine wp_loop_once ?_
    generalize (w.alloc (.cells #[.string ⟨#[]⟩, .string ⟨#[]⟩, .string ⟨#[]⟩, .bool false, .bool false] 105)) = W at *
    generalize hbe : w.heap.size = bx at *
    have HB : Hid (w.heap.size = bx) := hbe
    clear hbe
    obtain ⟨c0, c1, -, -⟩ := HN.out.1.blk.two
    go_wp2_with (go_at_call 75; refine X.mono ?_; rintro e w1 ⟨rfl, hu1⟩; revert hu1)
    intro hu1
    obtain ⟨N1, hu, hbx, hbl⟩ := HN.out
    have N2 := nt_upd0 N1 hu1
    obtain ⟨q0, q1, -, -⟩ := N2.blk.two
    obtain ⟨e0, e1, e2, e3, e4, ef0, ef1, ef2, ef3, ef4⟩ := (hbx.upd hu1 (by simp)).five
    have hu2 := hu.trans hu1 (fun _ _ h => h)
    have ht' : RemOK w1 w1 0 (lo - 1) t t key false ([], [], [], false, false) false := by
      obtain ⟨h1, h2, h3⟩ := HI.out
      have e0 : t.fl = I ++ J := by rw [N1.fl, flat_leaf, h1]
      refine ⟨tree_lo (tree_iff.2 ⟨_, _, _, _, N2⟩) (by omega), Turns.refl w1 t (tree_lt (tree_iff.2 ⟨_, _, _, _, N2⟩)), fun _ => ?_, fun h => by cases h⟩
      rw [e0]
      exact ⟨(delL_new h2 h3).symm, (hasL_new h2 h3).symm⟩
    have FIN := rem_fin hu2 (by rw [HB.out]; exact hbl) (hbx.upd hu1 (by simp)) (Nat.le_of_eq HB.out) ht' (.string ⟨#[]⟩) (.string ⟨#[]⟩) (.string ⟨#[]⟩) (.bool false) (.bool false)
    have HFIN : Hid _ := FIN
    clear FIN ht' N1 hu hbx hbl N2 hu1 hu2 X c0 c1
    go_wp2
    exact bodyPost_ret (v := .tuple #[aggI ([], [], [], false, false), .bool false]) (by simp [results, Try.results66, go_sem, *]) rfl ⟨([], [], [], false, false), false, rfl, t, HFIN.out⟩
  · rw [hhit] at X
    subst hJ
    obtain ⟨n, hn'⟩ : ∃ n, n = its.length := ⟨_, rfl⟩
    have hlt : posL key its < its.length := by rw [hIJ, List.length_append, ← hIJ, hI, List.length_cons]; omega
    obtain ⟨rt, cap, hv, -, -, hown, -⟩ := row_itemN (owns_cast HN.out.1.row hn'.symm rfl) hn' hlt
    subst hv
    generalize hpp : posL key its = p at *
    have HI : Hid (its = I ++ (key, u) :: J' ∧ I.length = p ∧ AllLt key I ∧ n = its.length) := ⟨hIJ, hI, hIlt, hn'⟩
    have hpz : (p : Int) < (n : Int) := by omega
    have hpn : p < n := by omega
    have hn5 : n ≤ 50000 := by omega
    have hw2 : IntKind.i64.wrap ((p : Int) + 1) = (p : Int) + 1 := by rw [IntKind.wrap_i64]; omega
    clear hIJ hI hIlt hhit hpp hn' hlt hil
    go_enter Try.func66, Try.ntmps66
    go_wp2
    refine wp_loop_once ?_
    generalize (w.alloc (.cells #[.string ⟨#[]⟩, .string ⟨#[]⟩, .string ⟨#[]⟩, .bool false, .bool false] 105)) = W at *
    generalize hbe : w.heap.size = bx at *
    have HB : Hid (w.heap.size = bx) := hbe
    clear hbe
    obtain ⟨c0, c1, -, -⟩ := HN.out.1.blk.two
    go_wp2_with (go_at_call 75; refine X.mono ?_; rintro e W2 ⟨rfl, hu1⟩; revert hu1)
    intro hu1
    obtain ⟨N1, hu, hbx, hbl⟩ := HN.out
    have N2 := nt_upd0 N1 hu1
    have hbx2 := hbx.upd hu1 (by simp)
    have hu2 := hu.trans hu1 (fun _ _ h => h)
    clear c0 c1 N1 hu hbx
    obtain ⟨hIJ, hI, hIlt, hn'⟩ := HI.out
    have hxp : its[p]'(by omega) = (key, u) := by
      have h1 : its[p]? = some (key, u) := by rw [hIJ, ← hI]; simp
      rw [List.getElem?_eq_getElem (by omega)] at h1
      exact Option.some.inj h1
    obtain ⟨d0, d1, d2, d3, d4, -⟩ := row_itemS (owns_cast N2.row hn'.symm rfl) hn' (i := p) (by omega) hxp
    obtain ⟨c0, c1, cf0, cf1⟩ := N2.blk.two
    obtain ⟨us, ue, ut, uo⟩ := u
    simp only at d0 d1 d2 d3 d4
    have hgl : t.g < W2.heap.size := N2.blk.lt
    have hbl2 : bx < W2.heap.size := hbx2.lt
    obtain ⟨W3, hW3⟩ : ∃ W3, W3 = W2.alloc (.cells #[strV key, strV us, strV ue, .bool ut, .bool uo] 105) := ⟨_, rfl⟩
    have hu3 : Upd W2 W3 [] := by rw [hW3]; exact Upd.alloc _ _ _
    have hib : Blk W3 W2.heap.size 105 [strV key, strV us, strV ue, .bool ut, .bool uo] := by rw [hW3]; exact blk_new _ _ _
    have Z := del78 (.slice (some ⟨rt, 0, none⟩) n cap) n p (its.flatMap encI) W3 (owns_upd (owns_cast N2.row hn'.symm rfl) hu3 (fun _ _ => by simp)) (by omega) (flatI_one _)
    have hgv : (ownB (.slice (some ⟨rt, 0, none⟩) n cap)).count t.g = 0 := by
      have h1 := HS.out.1 t.g
      rw [nt_count N2, if_pos rfl] at h1
      omega
    have hbv : (ownB (.slice (some ⟨rt, 0, none⟩) n cap)).count bx = 0 := by
      have h1 := hbl bx (Nat.le_refl _)
      rw [nt_count N2] at h1
      omega
    have hiv : (ownB (.slice (some ⟨rt, 0, none⟩) n cap)).count W2.heap.size = 0 := owns_lt N2.row _ (Nat.le_refl _)
    have hne1 : ¬ t.g = W2.heap.size := by omega
    have hne2 : ¬ bx = W2.heap.size := by omega
    have hne3 : ¬ t.g = bx := fun e => by
      have h1 := hbl bx (Nat.le_refl _)
      rw [nt_count N2, if_pos e] at h1
      omega
    have HN2 : Hid (NT W2 (Below1 W2 0) 0 lo t (.slice (some ⟨rt, 0, none⟩) n cap) (.slice none 0 0) its [] ∧ Upd w W2 [] ∧ Blk W2 bx 105 [.string ⟨#[]⟩, .string ⟨#[]⟩, .string ⟨#[]⟩, .bool false, .bool false] ∧ Upd W2 W3 [] ∧ Blk W3 W2.heap.size 105 [strV key, strV us, strV ue, .bool ut, .bool uo] ∧ (∀ k, bx ≤ k → t.ft.count k = 0)) := ⟨N2, hu2, hbx2, hu3, hib, hbl⟩
    clear N2 hu2 hbx2 hu3 hib hIJ hI hIlt hn' hxp hbl X hu1
    subst hW3
    go_wp2_with (go_at_call 78; refine Z.mono ?_; rintro e w4 ⟨v4, rfl, ho4, hu4, hf4⟩; revert hf4)
    intro hf4
    obtain ⟨a4, cap4, rfl⟩ := owns_slice ho4
    obtain ⟨N2, hu2, hbx2, hu3, hib, hbl⟩ := HN2.out
    obtain ⟨hIJ, hI, hIlt, hn'⟩ := HI.out
    have ho4' : w4.ownsRow 0 105 5 (.slice a4 (n - 1) cap4) (n - 1) ((I ++ J').flatMap encI) := owns_cast ho4 rfl (by have := flatI_del I J' (key, us, ue, ut, uo); rw [hI, ← hIJ] at this; exact this)
    have N2' := N2
    rw [hIJ] at N2'
    obtain ⟨t', ht'⟩ := rem_leaf (key := key) (gr := false) (b := true) N2' HS.out.1 HS.out.2 hu3 ho4' (by rw [hn', hIJ]; simp) hu4 hf4 (fun _ => ⟨rfl, rfl⟩) (fun h => by cases h)
    have FIN := rem_fin hu2 (by rw [HB.out]; exact hbl) hbx2 (Nat.le_of_eq HB.out) ht' (strV key) (strV us) (strV ue) (.bool ut) (.bool uo)
    have HFIN : Hid _ := FIN
    obtain ⟨g0, g1, gf0, gf1⟩ := ((N2.blk.upd hu3 (by simp)).upd hu4 hgv).two
    obtain ⟨e0, e1, e2, e3, e4, ef0, ef1, ef2, ef3, ef4⟩ := ((hbx2.upd hu3 (by simp)).upd hu4 hbv).five
    obtain ⟨i0, i1, i2, i3, i4, -⟩ := (hib.upd hu4 hiv).five
    clear FIN ht' ho4' ho4 hu4 hf4 hib hu3 hbx2 hu2 N2 N2' Z hIJ hI hIlt hn' hbl c0 c1 cf0 cf1 d0 d1 d2 d3 d4
    go_wp2
    exact bodyPost_ret (v := .tuple #[aggI (key, us, ue, ut, uo), .bool true]) (by simp [results, Try.results66, go_sem, *]) rfl ⟨(key, us, ue, ut, uo), true, rfl, t', HFIN.out⟩
end Go.Proofs.Qxb6003818a
