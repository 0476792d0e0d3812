import Derived.Test.Qxb6003818aBtU
namespace Go.Proofs.Qxb6003818a
open Go.ChangeShapes Go.WideShapes Go.ChangeAt Go.RowKit
set_option linter.unusedVariables false
set_option linter.unusedSimpArgs false

set_option maxHeartbeats 8000000 in
set_option maxRecDepth 100000 in
/-- remove at a leaf: its greatest item. -/
theorem remove_leaf_gr (lo : Nat) (t : Kid) (key : Str) (w : World) (HT : Tree w 0 lo t) (ha : Asc t.fl) (hs : Sep t) (hn : t.fl.length ≤ 50000) (hlo : 1 ≤ lo) :
    Calls Try.prog 66 #[ptr t.g, strV key, .bool true] w fun e w' => ∃ it b, e = .returned (.tuple #[aggI it, .bool b]) ∧ ∃ t', RemOK w w' 0 (lo - 1) t t' key true it b := by
  obtain ⟨v, c, its, ks, N⟩ := tree_iff.1 HT
  obtain ⟨hks, hc⟩ := N.leaf rfl
  subst hks hc
  have hil : its.length ≤ 50000 := by have := its_le_flat its []; rw [← N.fl] at this; omega
  obtain ⟨I, x, hI⟩ : ∃ I x, its = I ++ [x] := by
    rcases List.eq_nil_or_concat its with h0 | ⟨I, x, h0⟩
    · have := N.lo; rw [h0] at this; simp at this; omega
    · exact ⟨I, x, by rw [h0, List.concat_eq_append]⟩
  subst hI
  obtain ⟨xk, xs, xe, xt, xo⟩ := x
  obtain ⟨m, hm⟩ : ∃ m, m = I.length := ⟨_, rfl⟩
  have hlm : m + 1 = (I ++ [(xk, xs, xe, xt, xo)]).length := by simp [hm]
  obtain ⟨W, hW⟩ : ∃ W, W = w.alloc (.cells #[.string ⟨#[]⟩, .string ⟨#[]⟩, .string ⟨#[]⟩, .bool false, .bool false] 105) := ⟨_, rfl⟩
  have hu : Upd w W [] := by rw [hW]; exact Upd.alloc w _ _
  have hbx : Blk W w.heap.size 105 [.string ⟨#[]⟩, .string ⟨#[]⟩, .string ⟨#[]⟩, .bool false, .bool false] := by rw [hW]; exact blk_new w _ _
  have hbl : ∀ k, w.heap.size ≤ k → t.ft.count k = 0 := tree_lt HT
  have N1 := nt_upd0 N hu
  obtain ⟨rt, cap, hv, -, -, hown, hrl, -⟩ := row_itemN (owns_cast N1.row hlm.symm rfl) hlm (i := m) (by omega)
  subst hv
  have HN : Hid (NT W (Below1 W 0) 0 lo t (.slice (some ⟨rt, 0, none⟩) (m + 1) cap) (.slice none 0 0) (I ++ [(xk, xs, xe, xt, xo)]) []) := N1
  have HF : Hid (Upd w W [] ∧ Blk W w.heap.size 105 [.string ⟨#[]⟩, .string ⟨#[]⟩, .string ⟨#[]⟩, .bool false, .bool false] ∧ (∀ k, w.heap.size ≤ k → t.ft.count k = 0) ∧ m = I.length) := ⟨hu, hbx, hbl, hm⟩
  obtain ⟨c0, c1, cf0, cf1⟩ := N1.blk.two
  obtain ⟨e0, e1, e2, e3, e4, ef0, ef1, ef2, ef3, ef4⟩ := hbx.five
  obtain ⟨d0, d1, d2, d3, d4, -⟩ := row_itemS (owns_cast N1.row hlm.symm rfl) hlm (i := m) (by omega) (x := (xk, xs, xe, xt, xo)) (by simp [hm])
  simp only at d0 d1 d2 d3 d4
  have hnil := eql63 none 0 0 0 0
  simp only [Option.isNone_none] at hnil
  have hm5 : m ≤ 50000 := by simp at hil; omega
  have hi1 : (m : Int) + 1 - 1 = (m : Int) := by omega
  have hw1 : IntKind.i64.wrap (m : Int) = m := by rw [IntKind.wrap_i64]; omega
  have hw2 : IntKind.i64.wrap ((m : Int) + 1) = (m : Int) + 1 := by rw [IntKind.wrap_i64]; omega
  have hi2 : (0 : Int) < (m : Int) + 1 := by omega
  have hi3 : (m : Int) < (m : Int) + 1 := by omega
  clear N N1 hu hbx hbl hm hlm HT hil
  subst hW
  go_enter Try.func66, Try.ntmps66
  go_wp2
  refine wp_loop_once ?_
  go_wp2
  have HS : Hid (Sep t ∧ Asc t.fl) := ⟨hs, ha⟩
  generalize (w.alloc (.cells #[.string ⟨#[]⟩, .string ⟨#[]⟩, .string ⟨#[]⟩, .bool false, .bool false] 105)) = W at *
  generalize hbe : w.heap.size = bx at *
  have HB : Hid (w.heap.size = bx) := hbe
  clear hbe hs ha
  go_quiet (fail)
  have N2 := nt_upd0 HN.out (Upd.drewN W nq [])
  have hbx2 := HF.out.2.1.upd (Upd.drewN W nq []) (by simp)
  have hu2 : Upd w (W.drewN nq) [] := HF.out.1.trans (Upd.drewN W nq []) (fun _ _ h => h)
  clear c0 c1 cf0 cf1 e0 e1 e2 e3 e4 ef0 ef1 ef2 ef3 ef4 d0 d1 d2 d3 d4 hrl
  generalize W.drewN nq = W2 at *
  obtain ⟨c0, c1, cf0, cf1⟩ := N2.blk.two
  have hlm : m + 1 = (I ++ [(xk, xs, xe, xt, xo)]).length := by simp [HF.out.2.2.2]
  obtain ⟨d0, d1, d2, d3, d4, -⟩ := row_itemS (owns_cast N2.row hlm.symm rfl) hlm (i := m) (by omega) (x := (xk, xs, xe, xt, xo)) (by simp [HF.out.2.2.2])
  simp only at d0 d1 d2 d3 d4
  have hgl : t.g < W2.heap.size := N2.blk.lt
  have hbl2 : bx < W2.heap.size := hbx2.lt
  obtain ⟨W3, hW3⟩ : ∃ W3, W3 = W2.alloc (.cells #[strV xk, strV xs, strV xe, .bool xt, .bool xo] 105) := ⟨_, rfl⟩
  have hu3 : Upd W2 W3 [] := by rw [hW3]; exact Upd.alloc _ _ _
  have hib : Blk W3 W2.heap.size 105 [strV xk, strV xs, strV xe, .bool xt, .bool xo] := by rw [hW3]; exact blk_new _ _ _
  have Z := del78 (.slice (some ⟨rt, 0, none⟩) (m + 1) cap) (m + 1) m ((I ++ [(xk, xs, xe, xt, xo)]).flatMap encI) W3 (owns_upd (owns_cast N2.row hlm.symm rfl) hu3 (fun _ _ => by simp)) (by omega) (flatI_one _)
  rw [Nat.add_sub_cancel] at Z
  have HN2 : Hid (NT W2 (Below1 W2 0) 0 lo t (.slice (some ⟨rt, 0, none⟩) (m + 1) cap) (.slice none 0 0) (I ++ [(xk, xs, xe, xt, xo)]) [] ∧ Upd w W2 [] ∧ Blk W2 bx 105 [.string ⟨#[]⟩, .string ⟨#[]⟩, .string ⟨#[]⟩, .bool false, .bool false] ∧ Upd W2 W3 [] ∧ Blk W3 W2.heap.size 105 [strV xk, strV xs, strV xe, .bool xt, .bool xo]) := ⟨N2, hu2, hbx2, hu3, hib⟩
  have hgv : (ownB (.slice (some ⟨rt, 0, none⟩) (m + 1) cap)).count t.g = 0 := by
    have h1 := HS.out.1 t.g
    rw [nt_count N2, if_pos rfl] at h1
    omega
  have hbv : (ownB (.slice (some ⟨rt, 0, none⟩) (m + 1) cap)).count bx = 0 := by
    have h1 := HF.out.2.2.1 bx (Nat.le_refl _)
    rw [nt_count N2] at h1
    omega
  have hiv : (ownB (.slice (some ⟨rt, 0, none⟩) (m + 1) cap)).count W2.heap.size = 0 := owns_lt N2.row _ (Nat.le_refl _)
  have hne1 : ¬ t.g = W2.heap.size := by omega
  have hne2 : ¬ bx = W2.heap.size := by omega
  have hne3 : ¬ t.g = bx := fun e => by
    have h1 := HF.out.2.2.1 bx (Nat.le_refl _)
    rw [nt_count N2, if_pos e] at h1
    omega
  clear N2 hu2 hbx2 hu3 hib hlm
  subst hW3
  go_wp2_with (go_at_call 78; refine Z.mono ?_; rintro e w4 ⟨v4, rfl, ho4, hu4, hf4⟩; revert hf4)
  intro hf4
  obtain ⟨a4, cap4, rfl⟩ := owns_slice ho4
  obtain ⟨N2, hu2, hbx2, hu3, hib⟩ := HN2.out
  have ho4' : w4.ownsRow 0 105 5 (.slice a4 m cap4) m ((I ++ []).flatMap encI) := owns_cast ho4 rfl (by have := flatI_del I [] (xk, xs, xe, xt, xo); rw [← HF.out.2.2.2] at this; exact this)
  obtain ⟨t', ht'⟩ := rem_leaf (key := key) (gr := true) (b := true) N2 HS.out.1 HS.out.2 hu3 ho4' (by simp [HF.out.2.2.2]) hu4 hf4 (fun h => by cases h) (fun _ => rfl)
  have FIN := rem_fin hu2 (by rw [HB.out]; exact HF.out.2.2.1) hbx2 (Nat.le_of_eq HB.out) ht' (strV xk) (strV xs) (strV xe) (.bool xt) (.bool xo)
  have HFIN : Hid _ := FIN
  obtain ⟨g0, g1, gf0, gf1⟩ := ((N2.blk.upd hu3 (by simp)).upd hu4 hgv).two
  obtain ⟨e0, e1, e2, e3, e4, ef0, ef1, ef2, ef3, ef4⟩ := ((hbx2.upd hu3 (by simp)).upd hu4 hbv).five
  obtain ⟨i0, i1, i2, i3, i4, -⟩ := (hib.upd hu4 hiv).five
  clear FIN ht' ho4' ho4 hu4 hf4 hib hu3 hbx2 hu2 N2 Z
  go_wp2
  exact bodyPost_ret (v := .tuple #[aggI (xk, xs, xe, xt, xo), .bool true]) (by simp [results, Try.results66, go_sem, *]) rfl ⟨(xk, xs, xe, xt, xo), true, rfl, t', HFIN.out⟩
end Go.Proofs.Qxb6003818a
