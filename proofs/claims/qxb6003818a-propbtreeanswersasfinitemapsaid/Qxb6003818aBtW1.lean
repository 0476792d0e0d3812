import Derived.Test.Qxb6003818aBtW
import Derived.Test.Qxb6003818aBtId5
import Derived.Test.Qxb6003818aBtId1
namespace Go.Proofs.Qxb6003818a
open Go.ChangeShapes Go.WideShapes Go.ChangeAt Go.RowKit
set_option linter.unusedVariables false
set_option linter.unusedSimpArgs false

set_option maxHeartbeats 8000000 in
set_option maxRecDepth 100000 in
/-- grow: an item comes over from the left. -/
theorem grow_left (h lo q ml : Nat) (t l r : Kid) (v c vl cl vr cr : Value) (I J itl itr : List Item) (x y : Item) (A B ksl ksr : List Kid) (w : World)
    (N : NT w (Below1 w (h + 1)) (h + 1) lo t v c (I ++ x :: J) (A ++ l :: r :: B)) (hs : Sep t) (Nl : NT w (Below1 w h) h 15 l vl cl (itl ++ [y]) ksl) (Nr : NT w (Below1 w h) h 15 r vr cr itr ksr)
    (hA : A.length = I.length) (hB : B.length = J.length) (hq : I.length = q) (hml : itl.length = ml) (hl : 15 ≤ ml) (hlen : (I ++ x :: J).length ≤ 50000) (hlenl : ml ≤ 50000) (hlenr : itr.length ≤ 50000) :
    Calls Try.prog 79 #[ptr t.g, .int .i64 ((q : Int) + 1)] w fun e w' => e = .returned (.tuple #[]) ∧
      ∃ t' l' r' v' c', NT w' (Below1 w' (h + 1)) (h + 1) lo t' v' c' (I ++ y :: J) (A ++ l' :: r' :: B) ∧ Turns w w' t t' ∧ t'.fl = t.fl ∧ Tree w' h (itr.length + 1) r' := by
  obtain ⟨xk, xs, xe, xt, xo⟩ := x
  obtain ⟨yk, ys, ye, yt, yo⟩ := y
  have S0 := open2 N hs Nl Nr
  obtain ⟨nt, hnt⟩ : ∃ nt, nt = (I ++ (xk, xs, xe, xt, xo) :: J).length := ⟨_, rfl⟩
  obtain ⟨nk, hnk⟩ : ∃ nk, nk = (A ++ l :: r :: B).length := ⟨_, rfl⟩
  obtain ⟨nr, hnr⟩ : ∃ nr, nr = itr.length := ⟨_, rfl⟩
  have hnk' : nk = nt + 1 := by rw [hnk, N.inner (by omega), hnt]
  have hqn : q < nt := by rw [hnt, List.length_append, List.length_cons]; omega
  have hx : (I ++ (xk, xs, xe, xt, xo) :: J)[q]'(by omega) = (xk, xs, xe, xt, xo) := by simp [← hq]
  have hl0 : (A ++ l :: r :: B)[q]'(by omega) = l := by simp [← hq, ← hA]
  have hr0 : (A ++ l :: r :: B)[q + 1]'(by omega) = r := by simp [← hq, ← hA]
  have hy : (itl ++ [(yk, ys, ye, yt, yo)])[ml]'(by simp; omega) = (yk, ys, ye, yt, yo) := by simp [← hml]
  obtain ⟨rt, capt, hv, hct, -, ht1, ht2, d0, d1, d2, d3, d4, -⟩ := row_itemN (owns_cast N.row hnt.symm rfl) hnt (i := q) (by omega)
  rw [hx] at d0 d1 d2 d3 d4
  obtain ⟨rc, capc, hc, hck, -, hc1, hc2, k0, -⟩ := row_kidN (owns_cast N.krow hnk.symm rfl) hnk (i := q) (by omega)
  rw [hl0] at k0
  obtain ⟨rc', capc', hc', -, -, -, -, k1, -⟩ := row_kidN (owns_cast N.krow hnk.symm rfl) hnk (i := q + 1) (by omega)
  rw [hr0] at k1
  rw [hc] at hc'
  cases hc'
  have hlm : ml + 1 = (itl ++ [(yk, ys, ye, yt, yo)]).length := by simp [hml]
  obtain ⟨rl, capl, hvl, hcl1, -, hl1, hl2, y0, y1, y2, y3, y4, -⟩ := row_itemN (owns_cast Nl.row hlm.symm rfl) hlm (i := ml) (by omega)
  rw [hy] at y0 y1 y2 y3 y4
  have hr15 : 15 ≤ nr := by rw [hnr]; exact Nr.lo
  obtain ⟨rr, capr, hvr, hcr1, -, hr1, hr2, -⟩ := row_itemN (owns_cast Nr.row hnr.symm rfl) hnr (i := 0) (by omega)
  subst hv hc hvl hvr
  have hsl : Sep l := fun k => by
    have h1 := hs k
    have h2 := count_mem (show l ∈ A ++ l :: r :: B by simp) k
    rw [nt_count N] at h1
    omega
  have hsr : Sep r := fun k => by
    have h1 := hs k
    have h2 := count_mem (show r ∈ A ++ l :: r :: B by simp) k
    rw [nt_count N] at h1
    omega
  have hrv : (ownB (.slice (some ⟨rr, 0, none⟩) nr capr)).count r.g = 0 := by
    have h1 := hsr r.g
    rw [nt_count Nr, if_pos rfl] at h1
    omega
  obtain ⟨t0, t1, tf0, tf1⟩ := N.blk.two
  obtain ⟨l0, l1, lf0, lf1⟩ := Nl.blk.two
  obtain ⟨r0, r1, rf0, rf1⟩ := Nr.blk.two
  have hrl : r.g < w.heap.size := Nr.blk.lt
  have htl : t.g < w.heap.size := N.blk.lt
  rw [← hnt, ← hnk, ← hlm, ← hnr] at S0
  have HS0 : Hid (Star w t.ft w (S13 h t.g [.slice (some ⟨rt, 0, none⟩) nt capt, .slice (some ⟨rc, 0, none⟩) nk capc] (rI (.slice (some ⟨rt, 0, none⟩) nt capt) nt (I ++ (xk, xs, xe, xt, xo) :: J)) (rK (.slice (some ⟨rc, 0, none⟩) nk capc) nk (A ++ l :: r :: B)) A l.g [.slice (some ⟨rl, 0, none⟩) (ml + 1) capl, cl] (rI (.slice (some ⟨rl, 0, none⟩) (ml + 1) capl) (ml + 1) (itl ++ [(yk, ys, ye, yt, yo)])) (rK cl ksl.length ksl) ksl r.g [.slice (some ⟨rr, 0, none⟩) nr capr, cr] (rI (.slice (some ⟨rr, 0, none⟩) nr capr) nr itr) (rK cr ksr.length ksr) ksr B)) := S0
  have HN : Hid (NT w (Below1 w (h + 1)) (h + 1) lo t (.slice (some ⟨rt, 0, none⟩) nt capt) (.slice (some ⟨rc, 0, none⟩) nk capc) (I ++ (xk, xs, xe, xt, xo) :: J) (A ++ l :: r :: B) ∧ NT w (Below1 w h) h 15 l (.slice (some ⟨rl, 0, none⟩) (ml + 1) capl) cl (itl ++ [(yk, ys, ye, yt, yo)]) ksl ∧ NT w (Below1 w h) h 15 r (.slice (some ⟨rr, 0, none⟩) nr capr) cr itr ksr) := ⟨N, Nl, Nr⟩
  have HH : Hid (nt = (I ++ (xk, xs, xe, xt, xo) :: J).length ∧ nk = (A ++ l :: r :: B).length ∧ nr = itr.length ∧ nk = nt + 1 ∧ itl.length = ml ∧ I.length = q ∧ A.length = I.length ∧ B.length = J.length) := ⟨hnt, hnk, hnr, hnk', hml, hq, hA, hB⟩
  have hnr5 : nr ≤ 50000 := by omega
  have hnt5 : nt ≤ 50000 := by omega
  have hi1 : (q : Int) + 1 < (nk : Int) := by omega
  have hi2 : (q : Int) < (nk : Int) := by omega
  have hi3 : (q : Int) < (nt : Int) := by omega
  have hi4 : (0 : Int) < (q : Int) + 1 := by omega
  have hi5 : (15 : Int) < (ml : Int) + 1 := by omega
  have hi6 : (0 : Int) ≤ (q : Int) + 1 := by omega
  have hi7 : ((q : Int) + 1).toNat = q + 1 := by omega
  have hi8 : (q : Int) + 1 - 1 = (q : Int) := by omega
  have hi9 : (ml : Int) + 1 - 1 = (ml : Int) := by omega
  have hw1 : IntKind.i64.wrap (q : Int) = q := by rw [IntKind.wrap_i64]; omega
  have hw2 : IntKind.i64.wrap (ml : Int) = ml := by rw [IntKind.wrap_i64]; omega
  have hw3 : IntKind.i64.wrap ((ml : Int) + 1) = (ml : Int) + 1 := by rw [IntKind.wrap_i64]; omega
  have hi10 : (ml : Int) < (ml : Int) + 1 := by omega
  clear N Nl Nr S0 hnt hnk hnr hnk' hml hq hA hB hx hl0 hr0 hy hlm
  go_enter Try.func79, Try.ntmps79
  go_wp2
  obtain ⟨W4, hW4⟩ : ∃ W4, W4 = w.drew.alloc (.cells #[strV xk, strV xs, strV xe, .bool xt, .bool xo] 105) := ⟨_, rfl⟩
  have hu4 : Upd w W4 [] := by rw [hW4]; exact (Upd.drew w _).trans (Upd.alloc _ _ _) (fun _ _ h => h)
  have hvb : Blk W4 w.heap.size 105 (encI (xk, xs, xe, xt, xo)) := by rw [hW4]; exact blk_new w.drew _ _
  have hor := owns_cast HN.out.2.2.row HH.out.2.2.1.symm rfl
  have Y := ins76 (.slice (some ⟨rr, 0, none⟩) nr capr) nr 0 w.heap.size (itr.flatMap encI) (encI (xk, xs, xe, xt, xo)) W4 (owns_upd hor hu4 (fun _ _ => by simp)) (by omega) (by omega) hvb rfl (owns_lt hor _ (Nat.le_refl _)) (flatI_one _) (encI_one _)
  rw [show ((0 : Nat) : Int) = 0 from rfl] at Y
  have hgb := HN.out.2.2.blk.upd hu4 (by simp)
  subst hW4
  apply wp_midF (R := fun a5 cap5 w' => ∃ w5, (w5.ownsRow 0 105 5 (.slice a5 (nr + 1) cap5) (nr + 1) (((itr.flatMap encI).take (0 * 5)) ++ encI (xk, xs, xe, xt, xo) ++ ((itr.flatMap encI).drop (0 * 5))) ∧ Upd (w.drew.alloc (.cells #[strV xk, strV xs, strV xe, .bool xt, .bool xo] 105)) w5 (ownB (.slice (some ⟨rr, 0, none⟩) nr capr)) ∧ Fresh (w.drew.alloc (.cells #[strV xk, strV xs, strV xe, .bool xt, .bool xo] 105)) (ownB (.slice (some ⟨rr, 0, none⟩) nr capr)) (ownB (.slice a5 (nr + 1) cap5))) ∧ w' = w5.setCell ⟨r.g, 0, none⟩ (.slice a5 (nr + 1) cap5))
  · go_region_with (first | (go_at_call 76; refine Y.mono ?_; rintro e w5 ⟨v5, rfl, ho5, hu5, hf5⟩; obtain ⟨a5, cap5, rfl⟩ := owns_slice ho5; have hgb5 := hgb.upd hu5 hrv; obtain ⟨g50, g51, g52, g53⟩ := hgb5.two))
    all_goals exact ⟨a5, cap5, ⟨w5, ⟨ho5, hu5, hf5⟩, rfl⟩, rfl⟩
  · intro a5 cap5 w' hw'
    obtain ⟨w5, ⟨ho5, hu5, hf5⟩, rfl⟩ := hw'
    have ho5' : w5.ownsRow 0 105 5 (.slice a5 (nr + 1) cap5) (nr + 1) (((xk, xs, xe, xt, xo) :: itr).flatMap encI) := owns_cast ho5 rfl (by simp)
    have S6 : Star w t.ft (w5.setCell ⟨r.g, 0, none⟩ (.slice a5 (nr + 1) cap5)) (S13 h t.g [(.slice (some ⟨rt, 0, none⟩) nt capt), (.slice (some ⟨rc, 0, none⟩) nk capc)] (rI (.slice (some ⟨rt, 0, none⟩) nt capt) nt (I ++ (xk, xs, xe, xt, xo) :: J)) (rK (.slice (some ⟨rc, 0, none⟩) nk capc) nk (A ++ l :: r :: B)) A l.g [(.slice (some ⟨rl, 0, none⟩) (ml + 1) capl), cl] (rI (.slice (some ⟨rl, 0, none⟩) (ml + 1) capl) (ml + 1) (itl ++ [(yk, ys, ye, yt, yo)])) (rK cl ksl.length (ksl)) (ksl) r.g [(.slice a5 (nr + 1) cap5), cr] (rI (.slice a5 (nr + 1) cap5) (nr + 1) ((xk, xs, xe, xt, xo) :: itr)) (rK cr ksr.length (ksr)) (ksr) B) := ((HS0.out.grow hu4).ins (X := [_, _, _, _, _, _, _, _, _]) ho5' hu5 hf5).set (X := [_, _, _, _, _, _, _, _]) (i := 0) (.slice a5 (nr + 1) cap5)
    clear ho5 ho5' hu5 hf5 Y hgb hvb hor hu4
    generalize w5.setCell ⟨r.g, 0, none⟩ (.slice a5 (nr + 1) cap5) = W6 at *
    clear t0 t1 tf0 tf1 l0 l1 lf0 lf1 r0 r1 rf0 rf1 d0 d1 d2 d3 d4 y0 y1 y2 y3 y4 k0 k1
    have bt : Blk W6 t.g 65 [(.slice (some ⟨rt, 0, none⟩) nt capt), (.slice (some ⟨rc, 0, none⟩) nk capc)] := S6.get (X := [])
    have bl : Blk W6 l.g 65 [(.slice (some ⟨rl, 0, none⟩) (ml + 1) capl), cl] := S6.get (X := [_, _, _, _])
    have rtw : W6.ownsRow 0 105 5 (.slice (some ⟨rt, 0, none⟩) nt capt) nt ((I ++ (xk, xs, xe, xt, xo) :: J).flatMap encI) := S6.get (X := [_])
    have rlw : W6.ownsRow 0 105 5 (.slice (some ⟨rl, 0, none⟩) (ml + 1) capl) (ml + 1) ((itl ++ [(yk, ys, ye, yt, yo)]).flatMap encI) := S6.get (X := [_, _, _, _, _])
    obtain ⟨hnt, hnk, hnr, hnk', hml, hq, hA, hB⟩ := HH.out
    obtain ⟨t0, t1, tf0, tf1⟩ := bt.two
    obtain ⟨l0, l1, lf0, lf1⟩ := bl.two
    obtain ⟨d0, d1, d2, d3, d4, df⟩ := row_itemS rtw hnt (i := q) (by omega) (x := (xk, xs, xe, xt, xo)) (by simp [← hq])
    obtain ⟨y0, y1, y2, y3, y4, -⟩ := row_itemS rlw (by simp [hml]) (i := ml) (by simp; omega) (x := (yk, ys, ye, yt, yo)) (by simp [← hml])
    have df0 := df (q * 5); have df1 := df (q * 5 + 1); have df2 := df (q * 5 + 2); have df3 := df (q * 5 + 3); have df4 := df (q * 5 + 4)
    simp only at d0 d1 d2 d3 d4 y0 y1 y2 y3 y4
    have HS6 : Hid (Star w t.ft W6 (S13 h t.g [(.slice (some ⟨rt, 0, none⟩) nt capt), (.slice (some ⟨rc, 0, none⟩) nk capc)] (rI (.slice (some ⟨rt, 0, none⟩) nt capt) nt (I ++ (xk, xs, xe, xt, xo) :: J)) (rK (.slice (some ⟨rc, 0, none⟩) nk capc) nk (A ++ l :: r :: B)) A l.g [(.slice (some ⟨rl, 0, none⟩) (ml + 1) capl), cl] (rI (.slice (some ⟨rl, 0, none⟩) (ml + 1) capl) (ml + 1) (itl ++ [(yk, ys, ye, yt, yo)])) (rK cl ksl.length (ksl)) (ksl) r.g [(.slice a5 (nr + 1) cap5), cr] (rI (.slice a5 (nr + 1) cap5) (nr + 1) ((xk, xs, xe, xt, xo) :: itr)) (rK cr ksr.length (ksr)) (ksr) B)) := S6
    have HRT : Hid (W6.ownsRow 0 105 5 (.slice (some ⟨rt, 0, none⟩) nt capt) nt ((I ++ (xk, xs, xe, xt, xo) :: J).flatMap encI)) := rtw
    clear S6 bt bl rtw rlw df hnt hnk hnr hnk' hml hq hA hB
    go_wp2
    apply wp_mid0 (R := fun w' => w' = (W6.setCells rt (q * 5) (encI (yk, ys, ye, yt, yo))).drew)
    · go_region
      all_goals exact ⟨rfl, rfl⟩
    · intro w' hw'
      subst hw'
      obtain ⟨hnt, hnk, hnr, hnk', hml, hq, hA, hB⟩ := HH.out
      have S7 : Star w t.ft (W6.setCells rt (q * 5) (encI (yk, ys, ye, yt, yo))).drew (S13 h t.g [(.slice (some ⟨rt, 0, none⟩) nt capt), (.slice (some ⟨rc, 0, none⟩) nk capc)] (rI (.slice (some ⟨rt, 0, none⟩) nt capt) nt (I ++ (yk, ys, ye, yt, yo) :: J)) (rK (.slice (some ⟨rc, 0, none⟩) nk capc) nk (A ++ l :: r :: B)) A l.g [(.slice (some ⟨rl, 0, none⟩) (ml + 1) capl), cl] (rI (.slice (some ⟨rl, 0, none⟩) (ml + 1) capl) (ml + 1) (itl ++ [(yk, ys, ye, yt, yo)])) (rK cl ksl.length (ksl)) (ksl) r.g [(.slice a5 (nr + 1) cap5), cr] (rI (.slice a5 (nr + 1) cap5) (nr + 1) ((xk, xs, xe, xt, xo) :: itr)) (rK cr ksr.length (ksr)) (ksr) B) := by
        obtain ⟨z1, z2⟩ := owns_setitem (yk, ys, ye, yt, yo) HRT.out hnt (r := rt) rfl
        rw [hq] at z1 z2
        exact (HS6.out.step (X := [_]) (a' := (rI (.slice (some ⟨rt, 0, none⟩) nt capt) nt (I ++ (yk, ys, ye, yt, yo) :: J))) z2 z1 (aRow_ok _ _ _ _ _) (fresh_same _ _ (fun k => ownB_le (.slice (some ⟨rt, 0, none⟩) nt capt) k))).grow (Upd.drew _ _)
      clear t0 t1 tf0 tf1 l0 l1 lf0 lf1 d0 d1 d2 d3 d4 y0 y1 y2 y3 y4 df0 df1 df2 df3 df4 HRT HS6
      generalize (W6.setCells rt (q * 5) (encI (yk, ys, ye, yt, yo))).drew = W7 at *
      have bl : Blk W7 l.g 65 [(.slice (some ⟨rl, 0, none⟩) (ml + 1) capl), cl] := S7.get (X := [_, _, _, _])
      have rlw : W7.ownsRow 0 105 5 (.slice (some ⟨rl, 0, none⟩) (ml + 1) capl) (ml + 1) ((itl ++ [(yk, ys, ye, yt, yo)]).flatMap encI) := S7.get (X := [_, _, _, _, _])
      obtain ⟨l0, l1, lf0, lf1⟩ := bl.two
      have Z := del78 (.slice (some ⟨rl, 0, none⟩) (ml + 1) capl) (ml + 1) ml ((itl ++ [(yk, ys, ye, yt, yo)]).flatMap encI) W7 rlw (by omega) (flatI_one _)
      rw [Nat.add_sub_cancel] at Z
      have HS7 : Hid (Star w t.ft W7 (S13 h t.g [(.slice (some ⟨rt, 0, none⟩) nt capt), (.slice (some ⟨rc, 0, none⟩) nk capc)] (rI (.slice (some ⟨rt, 0, none⟩) nt capt) nt (I ++ (yk, ys, ye, yt, yo) :: J)) (rK (.slice (some ⟨rc, 0, none⟩) nk capc) nk (A ++ l :: r :: B)) A l.g [(.slice (some ⟨rl, 0, none⟩) (ml + 1) capl), cl] (rI (.slice (some ⟨rl, 0, none⟩) (ml + 1) capl) (ml + 1) (itl ++ [(yk, ys, ye, yt, yo)])) (rK cl ksl.length (ksl)) (ksl) r.g [(.slice a5 (nr + 1) cap5), cr] (rI (.slice a5 (nr + 1) cap5) (nr + 1) ((xk, xs, xe, xt, xo) :: itr)) (rK cr ksr.length (ksr)) (ksr) B)) := S7
      clear S7 bl rlw hnt hnk hnr hnk' hml hq hA hB
      go_wp2_with (go_at_call 78; refine Z.mono ?_; rintro e w8 ⟨v8, rfl, ho8, hu8, hf8⟩; revert hf8)
      intro hf8
      obtain ⟨hnt, hnk, hnr, hnk', hml, hq, hA, hB⟩ := HH.out
      obtain ⟨a8, cap8, rfl⟩ := owns_slice ho8
      have ho8' : w8.ownsRow 0 105 5 (.slice a8 ml cap8) ml (itl.flatMap encI) := owns_cast ho8 rfl (by have := flatI_del itl [] (yk, ys, ye, yt, yo); rw [hml, List.append_nil] at this; exact this)
      have S8 := HS7.out.ins (X := [_, _, _, _, _]) ho8' hu8 hf8
      have bl8 : Blk w8 l.g 65 [(.slice (some ⟨rl, 0, none⟩) (ml + 1) capl), cl] := S8.get (X := [_, _, _, _])
      obtain ⟨l0, l1, lf0, lf1⟩ := bl8.two
      have S9 : Star w t.ft (w8.setCell ⟨l.g, 0, none⟩ (.slice a8 ml cap8)) (S13 h t.g [(.slice (some ⟨rt, 0, none⟩) nt capt), (.slice (some ⟨rc, 0, none⟩) nk capc)] (rI (.slice (some ⟨rt, 0, none⟩) nt capt) nt (I ++ (yk, ys, ye, yt, yo) :: J)) (rK (.slice (some ⟨rc, 0, none⟩) nk capc) nk (A ++ l :: r :: B)) A l.g [(.slice a8 ml cap8), cl] (rI (.slice a8 ml cap8) ml (itl)) (rK cl ksl.length (ksl)) (ksl) r.g [(.slice a5 (nr + 1) cap5), cr] (rI (.slice a5 (nr + 1) cap5) (nr + 1) ((xk, xs, xe, xt, xo) :: itr)) (rK cr ksr.length (ksr)) (ksr) B) := S8.set (X := [_, _, _, _]) (i := 0) (.slice a8 ml cap8)
      have HS9 : Hid (Star w t.ft (w8.setCell ⟨l.g, 0, none⟩ (.slice a8 ml cap8)) (S13 h t.g [(.slice (some ⟨rt, 0, none⟩) nt capt), (.slice (some ⟨rc, 0, none⟩) nk capc)] (rI (.slice (some ⟨rt, 0, none⟩) nt capt) nt (I ++ (yk, ys, ye, yt, yo) :: J)) (rK (.slice (some ⟨rc, 0, none⟩) nk capc) nk (A ++ l :: r :: B)) A l.g [(.slice a8 ml cap8), cl] (rI (.slice a8 ml cap8) ml (itl)) (rK cl ksl.length (ksl)) (ksl) r.g [(.slice a5 (nr + 1) cap5), cr] (rI (.slice a5 (nr + 1) cap5) (nr + 1) ((xk, xs, xe, xt, xo) :: itr)) (rK cr ksr.length (ksr)) (ksr) B)) := S9
      clear S8 S9 bl8 ho8 ho8' hu8 hf8 Z HS7 hnt hnk hnr hnk' hml hq hA hB
      cases h with
      | zero =>
        obtain ⟨hksl, hcl⟩ := HN.out.2.1.leaf rfl
        obtain ⟨hksr, hcr⟩ := HN.out.2.2.leaf rfl
        subst hksl hcl hksr hcr
        have hnil := neq63 none 0 0 0 0
        simp only [Option.isSome_none] at hnil
        go_wp2
        first | (refine bodyPost_ret (results_none rfl _ _ _) rfl ?_) | (refine bodyPost_end (results_none rfl _ _ _) rfl ?_)
        obtain ⟨hnt, hnk, hnr, hnk', hml, hq, hA, hB⟩ := HH.out
        obtain ⟨N, Nl, Nr⟩ := HN.out
        refine ⟨rfl, ?_⟩
        have hlo := N.lo
        obtain ⟨t', l', r', q1, q2, q3, q4, q5⟩ := close2 (lo := lo) nt nk ml 0 (nr + 1) 0 HS9.out (by rw [hnt]; simp) (by rw [hnk]; simp; try omega) hml.symm rfl (by rw [hnr]; simp) rfl hA hB (by simp at hlo ⊢; exact hlo) (by omega) (by simp; omega) (fun _ => ⟨rfl, rfl, rfl, rfl⟩) (fun h => by omega)
        refine ⟨t', l', r', _, _, q1, q2, ?_, by simpa using q5⟩
        rw [q3, N.fl, flat_two hA, Nl.fl, Nr.fl]
        simp [flat_leaf]
      | succ h =>
        have hkll : ksl.length = ml + 2 := by
          have := HN.out.2.1.inner (by omega)
          rw [this]; simp; have := HH.out.2.2.2.2.1; omega
        have hkrl : ksr.length = nr + 1 := by rw [HN.out.2.2.inner (by omega), ← HH.out.2.2.1]
        have S9 := HS9.out
        rw [hkll, hkrl] at S9
        obtain ⟨kl0, z, hz⟩ : ∃ kl0 z, ksl = kl0 ++ [z] := ⟨ksl.dropLast, ksl.getLast (fun e => by rw [e] at hkll; simp at hkll), (List.dropLast_concat_getLast _).symm⟩
        have hkl0 : kl0.length = ml + 1 := by rw [hz] at hkll; simp at hkll; omega
        obtain ⟨rcl, capcl, hcl⟩ := kids_row (owns_cast HN.out.2.1.krow hkll rfl) (by omega)
        obtain ⟨rcr, capcr, hcr⟩ := kids_row (owns_cast HN.out.2.2.krow hkrl rfl) (by omega)
        subst hz hcl hcr
        have hnil := neq63 (some ⟨rcl, 0, none⟩) (ml + 2) capcl 0 0
        simp only [Option.isSome_some] at hnil
        have HS9b : Hid (Star w t.ft (w8.setCell ⟨l.g, 0, none⟩ (.slice a8 ml cap8)) (S13 (h + 1) t.g [(.slice (some ⟨rt, 0, none⟩) nt capt), (.slice (some ⟨rc, 0, none⟩) nk capc)] (rI (.slice (some ⟨rt, 0, none⟩) nt capt) nt (I ++ (yk, ys, ye, yt, yo) :: J)) (rK (.slice (some ⟨rc, 0, none⟩) nk capc) nk (A ++ l :: r :: B)) A l.g [(.slice a8 ml cap8), (.slice (some ⟨rcl, 0, none⟩) (ml + 2) capcl)] (rI (.slice a8 ml cap8) ml (itl)) (rK (.slice (some ⟨rcl, 0, none⟩) (ml + 2) capcl) (ml + 2) (kl0 ++ [z])) (kl0 ++ [z]) r.g [(.slice a5 (nr + 1) cap5), (.slice (some ⟨rcr, 0, none⟩) (nr + 1) capcr)] (rI (.slice a5 (nr + 1) cap5) (nr + 1) ((xk, xs, xe, xt, xo) :: itr)) (rK (.slice (some ⟨rcr, 0, none⟩) (nr + 1) capcr) (nr + 1) (ksr)) (ksr) B)) := S9
        have HKL : Hid (kl0.length = ml + 1 ∧ ksr.length = nr + 1) := ⟨hkl0, hkrl⟩
        clear S9 HS9 hkll hkrl hkl0
        go_wp2
        have S9 := HS9b.out
        clear l0 l1 lf0 lf1 HS9b
        generalize w8.setCell ⟨l.g, 0, none⟩ (.slice a8 ml cap8) = W9 at *
        have bl : Blk W9 l.g 65 [(.slice a8 ml cap8), (.slice (some ⟨rcl, 0, none⟩) (ml + 2) capcl)] := S9.get (X := [_, _, _, _])
        have br : Blk W9 r.g 65 [(.slice a5 (nr + 1) cap5), (.slice (some ⟨rcr, 0, none⟩) (nr + 1) capcr)] := S9.get (X := [_, _, _, _, _, _, _, _])
        have rkl : W9.ownsRow 0 59 1 (.slice (some ⟨rcl, 0, none⟩) (ml + 2) capcl) (ml + 2) ((kl0 ++ [z]).map (fun k => ptr k.g)) := S9.get (X := [_, _, _, _, _, _])
        have rkr : W9.ownsRow 0 59 1 (.slice (some ⟨rcr, 0, none⟩) (nr + 1) capcr) (nr + 1) (ksr.map (fun k => ptr k.g)) := S9.get (X := [_, _, _, _, _, _, _, _, _, _])
        obtain ⟨l0, l1, lf0, lf1⟩ := bl.two
        obtain ⟨r0, r1, rf0, rf1⟩ := br.two
        have z0 := row_kidS rkl (by simp [HKL.out.1]) (i := ml + 1) (by simp [HKL.out.1]) (k := z) (by simp [← HKL.out.1])
        have hlg := bl.lt
        have hrg := br.lt
        obtain ⟨W10, hW10⟩ : ∃ W10, W10 = W9.drew.alloc (.cells #[ptr z.g] 59) := ⟨_, rfl⟩
        have hu10 : Upd W9 W10 [] := by rw [hW10]; exact (Upd.drew W9 _).trans (Upd.alloc _ _ _) (fun _ _ h => h)
        have hvb : Blk W10 W9.heap.size 59 [ptr z.g] := by rw [hW10]; exact blk_new W9.drew _ _
        have Y2 := ins77 (.slice (some ⟨rcr, 0, none⟩) (nr + 1) capcr) (nr + 1) 0 W9.heap.size (ksr.map (fun k => ptr k.g)) [ptr z.g] W10 (owns_upd rkr hu10 (fun _ _ => by simp)) (by omega) (by omega) hvb rfl (owns_lt rkr _ (Nat.le_refl _)) (ptrs_one _) (by intro u hu; simp at hu; subst hu; rfl)
        rw [show ((0 : Nat) : Int) = 0 from rfl] at Y2
        have hrc : (ownB (.slice (some ⟨rcr, 0, none⟩) (nr + 1) capcr)).count r.g = 0 := by
          have h1 := hsr r.g
          rw [nt_count HN.out.2.2, if_pos rfl] at h1
          omega
        have hlc : (ownB (.slice (some ⟨rcr, 0, none⟩) (nr + 1) capcr)).count l.g = 0 := by
          have h1 := S9.sep l.g
          simp only [cnt_cons, cnt_nil, cnt_blk, cnt_row, if_pos] at h1
          omega
        have hgb := br.upd hu10 (by simp)
        have hj1 : (ml : Int) + 1 < (ml : Int) + 2 := by omega
        have hj2 : ((ml : Int) + 1).toNat = ml + 1 := by omega
        have hj3 : (0 : Int) ≤ (ml : Int) + 1 := by omega
        have hj4 : IntKind.i64.wrap ((ml : Int) + 2) = (ml : Int) + 2 := by rw [IntKind.wrap_i64]; omega
        have HS9c : Hid (Star w t.ft W9 (S13 (h + 1) t.g [(.slice (some ⟨rt, 0, none⟩) nt capt), (.slice (some ⟨rc, 0, none⟩) nk capc)] (rI (.slice (some ⟨rt, 0, none⟩) nt capt) nt (I ++ (yk, ys, ye, yt, yo) :: J)) (rK (.slice (some ⟨rc, 0, none⟩) nk capc) nk (A ++ l :: r :: B)) A l.g [(.slice a8 ml cap8), (.slice (some ⟨rcl, 0, none⟩) (ml + 2) capcl)] (rI (.slice a8 ml cap8) ml (itl)) (rK (.slice (some ⟨rcl, 0, none⟩) (ml + 2) capcl) (ml + 2) (kl0 ++ [z])) (kl0 ++ [z]) r.g [(.slice a5 (nr + 1) cap5), (.slice (some ⟨rcr, 0, none⟩) (nr + 1) capcr)] (rI (.slice a5 (nr + 1) cap5) (nr + 1) ((xk, xs, xe, xt, xo) :: itr)) (rK (.slice (some ⟨rcr, 0, none⟩) (nr + 1) capcr) (nr + 1) (ksr)) (ksr) B)) := S9
        clear S9 bl br rkl rkr hvb
        subst hW10
        apply wp_midF (R := fun a11 cap11 w' => ∃ w11, (w11.ownsRow 0 59 1 (.slice a11 (nr + 1 + 1) cap11) (nr + 1 + 1) (((ksr.map (fun k => ptr k.g)).take 0) ++ [ptr z.g] ++ ((ksr.map (fun k => ptr k.g)).drop 0)) ∧ Upd (W9.drew.alloc (.cells #[ptr z.g] 59)) w11 (ownB (.slice (some ⟨rcr, 0, none⟩) (nr + 1) capcr)) ∧ Fresh (W9.drew.alloc (.cells #[ptr z.g] 59)) (ownB (.slice (some ⟨rcr, 0, none⟩) (nr + 1) capcr)) (ownB (.slice a11 (nr + 1 + 1) cap11))) ∧ w' = w11.setCell ⟨r.g, 1, none⟩ (.slice a11 (nr + 1 + 1) cap11))
        · go_region_with (first | (go_at_call 77; refine Y2.mono ?_; rintro e w11 ⟨v11, rfl, ho11, hu11, hf11⟩; obtain ⟨a11, cap11, rfl⟩ := owns_slice ho11; have hgb11 := hgb.upd hu11 hrc; obtain ⟨g50, g51, g52, g53⟩ := hgb11.two))
          all_goals exact ⟨a11, cap11, ⟨w11, ⟨ho11, hu11, hf11⟩, rfl⟩, rfl⟩
        · intro a11 cap11 w' hw'
          obtain ⟨w11, ⟨ho11, hu11, hf11⟩, rfl⟩ := hw'
          have ho11' : w11.ownsRow 0 59 1 (.slice a11 (nr + 1 + 1) cap11) (nr + 1 + 1) ((z :: ksr).map (fun k => ptr k.g)) := owns_cast ho11 rfl (by simp)
          have S11 : Star w t.ft (w11.setCell ⟨r.g, 1, none⟩ (.slice a11 (nr + 1 + 1) cap11)) (S13 (h + 1) t.g [(.slice (some ⟨rt, 0, none⟩) nt capt), (.slice (some ⟨rc, 0, none⟩) nk capc)] (rI (.slice (some ⟨rt, 0, none⟩) nt capt) nt (I ++ (yk, ys, ye, yt, yo) :: J)) (rK (.slice (some ⟨rc, 0, none⟩) nk capc) nk (A ++ l :: r :: B)) A l.g [(.slice a8 ml cap8), (.slice (some ⟨rcl, 0, none⟩) (ml + 2) capcl)] (rI (.slice a8 ml cap8) ml (itl)) (rK (.slice (some ⟨rcl, 0, none⟩) (ml + 2) capcl) (ml + 2) (kl0 ++ [z])) (kl0 ++ [z]) r.g [(.slice a5 (nr + 1) cap5), (.slice a11 (nr + 1 + 1) cap11)] (rI (.slice a5 (nr + 1) cap5) (nr + 1) ((xk, xs, xe, xt, xo) :: itr)) (rK (.slice a11 (nr + 1 + 1) cap11) (nr + 1 + 1) (z :: ksr)) (ksr) B) := ((HS9c.out.grow hu10).ins (X := [_, _, _, _, _, _, _, _, _, _]) ho11' hu11 hf11).set (X := [_, _, _, _, _, _, _, _]) (i := 1) (.slice a11 (nr + 1 + 1) cap11)
          clear ho11 ho11' hu11 hf11 Y2 hgb hu10 HS9c l0 l1 lf0 lf1 r0 r1 rf0 rf1 z0 hlg hrg
          generalize w11.setCell ⟨r.g, 1, none⟩ (.slice a11 (nr + 1 + 1) cap11) = W12 at *
          have bl : Blk W12 l.g 65 [(.slice a8 ml cap8), (.slice (some ⟨rcl, 0, none⟩) (ml + 2) capcl)] := S11.get (X := [_, _, _, _])
          have rkl : W12.ownsRow 0 59 1 (.slice (some ⟨rcl, 0, none⟩) (ml + 2) capcl) (ml + 2) ((kl0 ++ [z]).map (fun k => ptr k.g)) := S11.get (X := [_, _, _, _, _, _])
          obtain ⟨l0, l1, lf0, lf1⟩ := bl.two
          have Z2 := del87 (.slice (some ⟨rcl, 0, none⟩) (ml + 2) capcl) (ml + 2) (ml + 1) ((kl0 ++ [z]).map (fun k => ptr k.g)) W12 rkl (by omega) (ptrs_one _)
          rw [show ((ml + 1 : Nat) : Int) + 1 = (ml : Int) + 2 by omega, show ((ml + 1 : Nat) : Int) = (ml : Int) + 1 by omega, show ml + 2 - 1 = ml + 1 by omega] at Z2
          have HS11 : Hid (Star w t.ft W12 (S13 (h + 1) t.g [(.slice (some ⟨rt, 0, none⟩) nt capt), (.slice (some ⟨rc, 0, none⟩) nk capc)] (rI (.slice (some ⟨rt, 0, none⟩) nt capt) nt (I ++ (yk, ys, ye, yt, yo) :: J)) (rK (.slice (some ⟨rc, 0, none⟩) nk capc) nk (A ++ l :: r :: B)) A l.g [(.slice a8 ml cap8), (.slice (some ⟨rcl, 0, none⟩) (ml + 2) capcl)] (rI (.slice a8 ml cap8) ml (itl)) (rK (.slice (some ⟨rcl, 0, none⟩) (ml + 2) capcl) (ml + 2) (kl0 ++ [z])) (kl0 ++ [z]) r.g [(.slice a5 (nr + 1) cap5), (.slice a11 (nr + 1 + 1) cap11)] (rI (.slice a5 (nr + 1) cap5) (nr + 1) ((xk, xs, xe, xt, xo) :: itr)) (rK (.slice a11 (nr + 1 + 1) cap11) (nr + 1 + 1) (z :: ksr)) (ksr) B)) := S11
          clear S11 bl rkl
          go_wp2_with (go_at_call 87; refine Z2.mono ?_; rintro e w13 ⟨v13, rfl, ho13, hu13, hf13⟩; revert hf13)
          intro hf13
          obtain ⟨a13, cap13, rfl⟩ := owns_slice ho13
          have ho13' : w13.ownsRow 0 59 1 (.slice a13 (ml + 1) cap13) (ml + 1) (kl0.map (fun k => ptr k.g)) := owns_cast ho13 rfl (by have := ptrs_del kl0 [] z; rw [HKL.out.1, List.append_nil] at this; exact this)
          have S13' := HS11.out.ins (X := [_, _, _, _, _, _]) ho13' hu13 hf13
          have bl13 : Blk w13 l.g 65 [(.slice a8 ml cap8), (.slice (some ⟨rcl, 0, none⟩) (ml + 2) capcl)] := S13'.get (X := [_, _, _, _])
          have S14 : Star w t.ft (w13.setCell ⟨l.g, 1, none⟩ (.slice a13 (ml + 1) cap13)) (S13 (h + 1) t.g [(.slice (some ⟨rt, 0, none⟩) nt capt), (.slice (some ⟨rc, 0, none⟩) nk capc)] (rI (.slice (some ⟨rt, 0, none⟩) nt capt) nt (I ++ (yk, ys, ye, yt, yo) :: J)) (rK (.slice (some ⟨rc, 0, none⟩) nk capc) nk (A ++ l :: r :: B)) A l.g [(.slice a8 ml cap8), (.slice a13 (ml + 1) cap13)] (rI (.slice a8 ml cap8) ml (itl)) (rK (.slice a13 (ml + 1) cap13) (ml + 1) (kl0)) (kl0 ++ [z]) r.g [(.slice a5 (nr + 1) cap5), (.slice a11 (nr + 1 + 1) cap11)] (rI (.slice a5 (nr + 1) cap5) (nr + 1) ((xk, xs, xe, xt, xo) :: itr)) (rK (.slice a11 (nr + 1 + 1) cap11) (nr + 1 + 1) (z :: ksr)) (ksr) B) := S13'.set (X := [_, _, _, _]) (i := 1) (.slice a13 (ml + 1) cap13)
          have S15 : Star w t.ft (w13.setCell ⟨l.g, 1, none⟩ (.slice a13 (ml + 1) cap13)) (S13 (h + 1) t.g [(.slice (some ⟨rt, 0, none⟩) nt capt), (.slice (some ⟨rc, 0, none⟩) nk capc)] (rI (.slice (some ⟨rt, 0, none⟩) nt capt) nt (I ++ (yk, ys, ye, yt, yo) :: J)) (rK (.slice (some ⟨rc, 0, none⟩) nk capc) nk (A ++ l :: r :: B)) A l.g [(.slice a8 ml cap8), (.slice a13 (ml + 1) cap13)] (rI (.slice a8 ml cap8) ml (itl)) (rK (.slice a13 (ml + 1) cap13) (ml + 1) (kl0)) (kl0) r.g [(.slice a5 (nr + 1) cap5), (.slice a11 (nr + 1 + 1) cap11)] (rI (.slice a5 (nr + 1) cap5) (nr + 1) ((xk, xs, xe, xt, xo) :: itr)) (rK (.slice a11 (nr + 1 + 1) cap11) (nr + 1 + 1) (z :: ksr)) (z :: ksr) B) := by
            refine S14.retell _ (fun k => ?_) ?_
            · simp only [cnt_cons, cnt_nil, cnt_blk, cnt_row, cnt_kids, List.flatMap_append, List.flatMap_cons, List.flatMap_nil, List.append_nil, List.count_append]
              omega
            · intro b hb
              simp only [List.mem_cons, List.not_mem_nil, or_false] at hb
              have hk7 : ∀ x ∈ kl0 ++ [z], Below1 (w13.setCell ⟨l.g, 1, none⟩ (.slice a13 (ml + 1) cap13)) (h + 1) x := S14.get (X := [_, _, _, _, _, _, _])
              have hk11 : ∀ x ∈ ksr, Below1 (w13.setCell ⟨l.g, 1, none⟩ (.slice a13 (ml + 1) cap13)) (h + 1) x := S14.get (X := [_, _, _, _, _, _, _, _, _, _, _])
              rcases hb with rfl | rfl | rfl | rfl | rfl | rfl | rfl | rfl | rfl | rfl | rfl | rfl | rfl
              · exact S14.all _ (by simp)
              · exact S14.all _ (by simp)
              · exact S14.all _ (by simp)
              · exact S14.all _ (by simp)
              · exact S14.all _ (by simp)
              · exact S14.all _ (by simp)
              · exact S14.all _ (by simp)
              · exact ⟨fun x hx => hk7 x (by simp [hx]), aKids_ok _ _⟩
              · exact S14.all _ (by simp)
              · exact S14.all _ (by simp)
              · exact S14.all _ (by simp)
              · exact ⟨fun x hx => by
                  rcases List.mem_cons.1 hx with rfl | hx
                  · exact hk7 _ (by simp)
                  · exact hk11 x hx, aKids_ok _ _⟩
              · exact S14.all _ (by simp)
          obtain ⟨l0, l1, lf0, lf1⟩ := bl13.two
          have HS15 : Hid (Star w t.ft (w13.setCell ⟨l.g, 1, none⟩ (.slice a13 (ml + 1) cap13)) (S13 (h + 1) t.g [(.slice (some ⟨rt, 0, none⟩) nt capt), (.slice (some ⟨rc, 0, none⟩) nk capc)] (rI (.slice (some ⟨rt, 0, none⟩) nt capt) nt (I ++ (yk, ys, ye, yt, yo) :: J)) (rK (.slice (some ⟨rc, 0, none⟩) nk capc) nk (A ++ l :: r :: B)) A l.g [(.slice a8 ml cap8), (.slice a13 (ml + 1) cap13)] (rI (.slice a8 ml cap8) ml (itl)) (rK (.slice a13 (ml + 1) cap13) (ml + 1) (kl0)) (kl0) r.g [(.slice a5 (nr + 1) cap5), (.slice a11 (nr + 1 + 1) cap11)] (rI (.slice a5 (nr + 1) cap5) (nr + 1) ((xk, xs, xe, xt, xo) :: itr)) (rK (.slice a11 (nr + 1 + 1) cap11) (nr + 1 + 1) (z :: ksr)) (z :: ksr) B)) := S15
          clear S13' S14 S15 bl13 ho13 ho13' hu13 hf13 Z2 HS11
          go_wp2
          first | (refine bodyPost_ret (results_none rfl _ _ _) rfl ?_) | (refine bodyPost_end (results_none rfl _ _ _) rfl ?_)
          obtain ⟨hnt, hnk, hnr, hnk', hml, hq, hA, hB⟩ := HH.out
          obtain ⟨N, Nl, Nr⟩ := HN.out
          refine ⟨rfl, ?_⟩
          have hlo := N.lo
          have HS16 := HS15.out
          obtain ⟨t', l', r', q1, q2, q3, q4, q5⟩ := close2 (lo := lo) nt nk ml (ml + 1) (nr + 1) (nr + 1 + 1) HS16 (by rw [hnt]; simp) (by rw [hnk]; simp; try omega) hml.symm HKL.out.1.symm (by rw [hnr]; simp) (by simp [HKL.out.2]) hA hB (by simp at hlo ⊢; exact hlo) (by omega) (by simp; omega) (fun h => by omega) (fun _ => ⟨by rw [HKL.out.1, hml], by simp [HKL.out.2, hnr]⟩)
          refine ⟨t', l', r', _, _, q1, q2, ?_, by simpa using q5⟩
          rw [q3, N.fl, flat_two hA, Nl.fl, Nr.fl, flat_join (I := itl) (J := []) (A := kl0) (K := [z]) (by rw [HKL.out.1, hml])]
          simp [flat, mix]
end Go.Proofs.Qxb6003818a
