import Derived.Test.Qxb6003818aBtW
import Derived.Test.Qxb6003818aBtId5
import Derived.Test.Qxb6003818aBtId1
namespace Go.Proofs.Qxb6003818a
open Go.ChangeShapes Go.WideShapes Go.ChangeAt Go.RowKit Go.Shelf Go.Lib
set_option linter.unusedVariables false
set_option linter.unusedSimpArgs false

set_option maxHeartbeats 8000000 in
set_option maxRecDepth 100000 in
/-- grow: an item comes over from the right. -/
theorem grow_right1 (h lo q mr : Nat) (t l r : Kid) (v c vl cl vr cr : Value) (I J itl itr : List Item) (x y : Item) (A B ksl ksr : List Kid) (w : World) (q0 : Nat) (s : Kid) (vs cs : Value) (its2 : List Item) (ks2 : List Kid)
    (N : NT w (Below1 w (h + 1)) (h + 1) lo t v c (I ++ x :: J) (A ++ l :: r :: B)) (hs : Sep t) (Nl : NT w (Below1 w h) h 15 l vl cl itl ksl) (Nr : NT w (Below1 w h) h 15 r vr cr (y :: itr) ksr)
    (hA : A.length = I.length) (hB : B.length = J.length) (hq : I.length = q) (hmr : itr.length = mr) (hr : 15 ≤ mr) (hlen : (I ++ x :: J).length ≤ 50000) (hlenl : itl.length ≤ 50000) (hlenr : mr ≤ 50000) (hq0 : q = q0 + 1) (hsA : (A ++ l :: r :: B)[q0]? = some s) (Ns : NT w (Below1 w h) h 15 s vs cs its2 ks2) (hs15 : its2.length = 15) :
    Calls Try.prog 79 #[ptr t.g, .int .i64 (q : Int)] w fun e w' => e = .returned (.tuple #[]) ∧
      ∃ t' l' r' v' c', NT w' (Below1 w' (h + 1)) (h + 1) lo t' v' c' (I ++ y :: J) (A ++ l' :: r' :: B) ∧ Turns w w' t t' ∧ t'.fl = t.fl ∧ Tree w' h (itl.length + 1) l' := by
  obtain ⟨xk, xs, xe, xt, xo⟩ := x
  obtain ⟨yk, ys, ye, yt, yo⟩ := y
  obtain ⟨i0, hi0, hz0, hzs, hzb⟩ := info_parts info105
  obtain ⟨i1, hi1', hz1, hzs1, hzb1⟩ := info_parts info59
  have S0 := open2 N hs Nl Nr
  obtain ⟨nt, hnt⟩ : ∃ nt, nt = (I ++ (xk, xs, xe, xt, xo) :: J).length := ⟨_, rfl⟩
  obtain ⟨nk, hnk⟩ : ∃ nk, nk = (A ++ l :: r :: B).length := ⟨_, rfl⟩
  obtain ⟨nl, hnl⟩ : ∃ nl, nl = itl.length := ⟨_, rfl⟩
  have hnk' : nk = nt + 1 := by rw [hnk, N.inner (by omega), hnt]
  have hqn : q < nt := by rw [hnt, List.length_append, List.length_cons]; omega
  have hx : (I ++ (xk, xs, xe, xt, xo) :: J)[q]'(by omega) = (xk, xs, xe, xt, xo) := by simp [← hq]
  have hl0 : (A ++ l :: r :: B)[q]'(by omega) = l := by simp [← hq, ← hA]
  have hr0 : (A ++ l :: r :: B)[q + 1]'(by omega) = r := by simp [← hq, ← hA]
  obtain ⟨rt, capt, hv, hct, -, ht1, ht2, d0, d1, d2, d3, d4, -⟩ := row_itemN (owns_cast N.row hnt.symm rfl) hnt (i := q) (by omega)
  rw [hx] at d0 d1 d2 d3 d4
  obtain ⟨rc, capc, hc, hck, -, hc1, hc2, k0, -⟩ := row_kidN (owns_cast N.krow hnk.symm rfl) hnk (i := q) (by omega)
  rw [hl0] at k0
  obtain ⟨rc', capc', hc', -, -, -, -, k1, -⟩ := row_kidN (owns_cast N.krow hnk.symm rfl) hnk (i := q + 1) (by omega)
  rw [hr0] at k1
  rw [hc] at hc'
  cases hc'
  have hs0 : q0 < (A ++ l :: r :: B).length := by omega
  have hsk : (A ++ l :: r :: B)[q0] = s := by rw [List.getElem?_eq_getElem hs0] at hsA; exact Option.some.inj hsA
  obtain ⟨rc2, capc2, hc2', -, -, -, -, k2, -⟩ := row_kidN (owns_cast N.krow hnk.symm rfl) hnk (i := q0) (by omega)
  rw [hsk] at k2
  rw [hc] at hc2'
  cases hc2'
  obtain ⟨as2, caps, hvs⟩ := owns_slice Ns.row
  rw [hs15] at hvs
  subst hvs
  obtain ⟨s0, -⟩ := Ns.blk.two
  have hrm : mr + 1 = ((yk, ys, ye, yt, yo) :: itr).length := by simp [hmr]
  obtain ⟨rr, capr, hvr, hcr1, -, hr1, hr2, y0, y1, y2, y3, y4, -⟩ := row_itemN (owns_cast Nr.row hrm.symm rfl) hrm (i := 0) (by omega)
  have hl15 : 15 ≤ nl := by rw [hnl]; exact Nl.lo
  obtain ⟨rl, capl, hvl, hcl1, -, hl1, hl2, -⟩ := row_itemN (owns_cast Nl.row hnl.symm rfl) hnl (i := 0) (by omega)
  subst hv hc hvl hvr
  have hsl : Sep l := fun k => by
    have h1 := hs k
    have h2 := count_mem (show l ∈ A ++ l :: r :: B by simp) k
    rw [nt_count N] at h1
    omega
  have hrv : (ownB (.slice (some ⟨rl, 0, none⟩) nl capl)).count l.g = 0 := by
    have h1 := hsl l.g
    rw [nt_count Nl, if_pos rfl] at h1
    omega
  obtain ⟨t0, t1, tf0, tf1⟩ := N.blk.two
  obtain ⟨l0, l1, lf0, lf1⟩ := Nl.blk.two
  obtain ⟨r0, r1, rf0, rf1⟩ := Nr.blk.two
  have hll : l.g < w.heap.size := Nl.blk.lt
  have htl : t.g < w.heap.size := N.blk.lt
  rw [← hnt, ← hnk, ← hrm, ← hnl] at S0
  have HS0 : Hid (Star w t.ft w (S13 h t.g [(.slice (some ⟨rt, 0, none⟩) nt capt), (.slice (some ⟨rc, 0, none⟩) nk capc)] (rI (.slice (some ⟨rt, 0, none⟩) nt capt) nt (I ++ (xk, xs, xe, xt, xo) :: J)) (rK (.slice (some ⟨rc, 0, none⟩) nk capc) nk (A ++ l :: r :: B)) A l.g [(.slice (some ⟨rl, 0, none⟩) nl capl), cl] (rI (.slice (some ⟨rl, 0, none⟩) nl capl) nl (itl)) (rK cl ksl.length (ksl)) (ksl) r.g [(.slice (some ⟨rr, 0, none⟩) (mr + 1) capr), cr] (rI (.slice (some ⟨rr, 0, none⟩) (mr + 1) capr) (mr + 1) ((yk, ys, ye, yt, yo) :: itr)) (rK cr ksr.length (ksr)) (ksr) B)) := S0
  have HN : Hid (NT w (Below1 w (h + 1)) (h + 1) lo t (.slice (some ⟨rt, 0, none⟩) nt capt) (.slice (some ⟨rc, 0, none⟩) nk capc) (I ++ (xk, xs, xe, xt, xo) :: J) (A ++ l :: r :: B) ∧ NT w (Below1 w h) h 15 l (.slice (some ⟨rl, 0, none⟩) nl capl) cl itl ksl ∧ NT w (Below1 w h) h 15 r (.slice (some ⟨rr, 0, none⟩) (mr + 1) capr) cr ((yk, ys, ye, yt, yo) :: itr) ksr) := ⟨N, Nl, Nr⟩
  have HH : Hid (nt = (I ++ (xk, xs, xe, xt, xo) :: J).length ∧ nk = (A ++ l :: r :: B).length ∧ nl = itl.length ∧ nk = nt + 1 ∧ itr.length = mr ∧ I.length = q ∧ A.length = I.length ∧ B.length = J.length) := ⟨hnt, hnk, hnl, hnk', hmr, hq, hA, hB⟩
  have hnl5 : nl ≤ 50000 := by omega
  have hnt5 : nt ≤ 50000 := by omega
  have hi1 : (q : Int) + 1 < (nk : Int) := by omega
  have hi2 : (q : Int) < (nk : Int) := by omega
  have hi3 : (q : Int) < (nt : Int) := by omega
  have hi5 : (15 : Int) < (mr : Int) + 1 := by omega
  have hi6 : (0 : Int) ≤ (q : Int) + 1 := by omega
  have hi7 : ((q : Int) + 1).toNat = q + 1 := by omega
  have hw1 : IntKind.i64.wrap ((q : Int) + 1) = (q : Int) + 1 := by rw [IntKind.wrap_i64]; omega
  have hm1 : IntKind.i64.wrap ((q : Int) - 1) = (q0 : Int) := by rw [IntKind.wrap_i64]; omega
  have hm2 : (0 : Int) < (q : Int) := by omega
  have hm3 : (q0 : Int) < (nk : Int) := by omega
  clear N Nl Nr S0 hnt hnk hnl hnk' hmr hq hA hB hx hl0 hr0 hrm y0 y1 y2 y3 y4
  clear hsk hsA Ns hs15 hs0 hq0
  go_enter Try.func79, Try.ntmps79
  go_wp2
  obtain ⟨W4, hW4⟩ : ∃ W4, W4 = w.drew.alloc (.cells #[strV xk, strV xs, strV xe, .bool xt, .bool xo] 105) := ⟨_, rfl⟩
  have hu4 : Upd w W4 [] := by rw [hW4]; exact (Upd.drew w _).trans (Upd.alloc _ _ _) (fun _ _ h => h)
  have hvb : Blk W4 w.heap.size 105 (encI (xk, xs, xe, xt, xo)) := by rw [hW4]; exact blk_new w.drew _ _
  have hor := owns_upd (owns_cast HN.out.2.1.row HH.out.2.2.1.symm rfl) hu4 (fun _ _ => by simp)
  obtain ⟨v5, w5, hrun, ho5, hu5, hf5⟩ := run_append_own' (P := Try.prog) W4 62 62 105 i0 _ 5 56 Try.underlying62 hi0 hz0 hzs hzb (by rfl) (by omega) (.slice (some ⟨rl, 0, none⟩) nl capl) nl (itl.flatMap encI) hor ⟨w.heap.size, 0, none⟩ 1 1 (encI (xk, xs, xe, xt, xo)) (by simp [encI, encK]) (fun j u hj => by
    rw [Addr.add_lit, Nat.zero_add]
    obtain ⟨q1, q2⟩ := List.getElem?_eq_some_iff.1 hj
    have := hvb.cell q1
    rw [q2] at this
    exact this) (encI_one _) (by unfold maxLen; omega) (by omega)
  obtain ⟨a5, cap5, rfl⟩ := owns_slice ho5
  have hgb := (HN.out.2.1.blk.upd hu4 (by simp)).upd hu5 hrv
  obtain ⟨g50, g51, g52, g53⟩ := hgb.two
  have ho5' : w5.ownsRow 0 105 5 (.slice a5 (nl + 1) cap5) (nl + 1) ((itl ++ [(xk, xs, xe, xt, xo)]).flatMap encI) := owns_cast ho5 rfl (by simp)
  have S6 : Star w t.ft (w5.setCell ⟨l.g, 0, none⟩ (.slice a5 (nl + 1) cap5)) (S13 h t.g [(.slice (some ⟨rt, 0, none⟩) nt capt), (.slice (some ⟨rc, 0, none⟩) nk capc)] (rI (.slice (some ⟨rt, 0, none⟩) nt capt) nt (I ++ (xk, xs, xe, xt, xo) :: J)) (rK (.slice (some ⟨rc, 0, none⟩) nk capc) nk (A ++ l :: r :: B)) A l.g [(.slice a5 (nl + 1) cap5), cl] (rI (.slice a5 (nl + 1) cap5) (nl + 1) (itl ++ [(xk, xs, xe, xt, xo)])) (rK cl ksl.length (ksl)) (ksl) r.g [(.slice (some ⟨rr, 0, none⟩) (mr + 1) capr), cr] (rI (.slice (some ⟨rr, 0, none⟩) (mr + 1) capr) (mr + 1) ((yk, ys, ye, yt, yo) :: itr)) (rK cr ksr.length (ksr)) (ksr) B) := ((HS0.out.grow hu4).ins (X := [_, _, _, _, _]) ho5' hu5 hf5).set (X := [_, _, _, _]) (i := 0) (.slice a5 (nl + 1) cap5)
  have HS6 : Hid (Star w t.ft (w5.setCell ⟨l.g, 0, none⟩ (.slice a5 (nl + 1) cap5)) (S13 h t.g [(.slice (some ⟨rt, 0, none⟩) nt capt), (.slice (some ⟨rc, 0, none⟩) nk capc)] (rI (.slice (some ⟨rt, 0, none⟩) nt capt) nt (I ++ (xk, xs, xe, xt, xo) :: J)) (rK (.slice (some ⟨rc, 0, none⟩) nk capc) nk (A ++ l :: r :: B)) A l.g [(.slice a5 (nl + 1) cap5), cl] (rI (.slice a5 (nl + 1) cap5) (nl + 1) (itl ++ [(xk, xs, xe, xt, xo)])) (rK cl ksl.length (ksl)) (ksl) r.g [(.slice (some ⟨rr, 0, none⟩) (mr + 1) capr), cr] (rI (.slice (some ⟨rr, 0, none⟩) (mr + 1) capr) (mr + 1) ((yk, ys, ye, yt, yo) :: itr)) (rK cr ksr.length (ksr)) (ksr) B)) := S6
  clear S6 ho5 ho5' hu5 hf5 hor hvb hu4 hgb
  subst hW4
  apply wp_mid0 (R := fun w' => w' = w5.setCell ⟨l.g, 0, none⟩ (.slice a5 (nl + 1) cap5))
  · go_region_law (refine step_append_run rfl _ _ 62 62 rfl _ _ (by simp [Act.eval, Act.put]) (by simp [Act.eval, Act.put]) hrun ?_)
    all_goals exact ⟨rfl, rfl⟩
  · intro w' hw'
    subst hw'
    have S6 := HS6.out
    clear HS6 hrun g50 g51 g52 g53
    generalize w5.setCell ⟨l.g, 0, none⟩ (.slice a5 (nl + 1) cap5) = W6 at *
    clear t0 t1 tf0 tf1 l0 l1 lf0 lf1 r0 r1 rf0 rf1 d0 d1 d2 d3 d4 k0 k1
    have bt : Blk W6 t.g 65 [(.slice (some ⟨rt, 0, none⟩) nt capt), (.slice (some ⟨rc, 0, none⟩) nk capc)] := S6.get (X := [])
    have br : Blk W6 r.g 65 [(.slice (some ⟨rr, 0, none⟩) (mr + 1) capr), cr] := S6.get (X := [_, _, _, _, _, _, _, _])
    have rtw : W6.ownsRow 0 105 5 (.slice (some ⟨rt, 0, none⟩) nt capt) nt ((I ++ (xk, xs, xe, xt, xo) :: J).flatMap encI) := S6.get (X := [_])
    have rrw : W6.ownsRow 0 105 5 (.slice (some ⟨rr, 0, none⟩) (mr + 1) capr) (mr + 1) (((yk, ys, ye, yt, yo) :: itr).flatMap encI) := S6.get (X := [_, _, _, _, _, _, _, _, _])
    obtain ⟨hnt, hnk, hnl, hnk', hmr, hq, hA, hB⟩ := HH.out
    obtain ⟨t0, t1, tf0, tf1⟩ := bt.two
    obtain ⟨r0, r1, rf0, rf1⟩ := br.two
    obtain ⟨d0, d1, d2, d3, d4, df⟩ := row_itemS rtw hnt (i := q) (by omega) (x := (xk, xs, xe, xt, xo)) (by simp [← hq])
    obtain ⟨y0, y1, y2, y3, y4, -⟩ := row_itemS rrw (by simp [hmr]) (i := 0) (by simp) (x := (yk, ys, ye, yt, yo)) rfl
    have df0 := df (q * 5); have df1 := df (q * 5 + 1); have df2 := df (q * 5 + 2); have df3 := df (q * 5 + 3); have df4 := df (q * 5 + 4)
    simp only [Nat.zero_mul, Nat.zero_add] at d0 d1 d2 d3 d4 y0 y1 y2 y3 y4
    have HS6 : Hid (Star w t.ft W6 (S13 h t.g [(.slice (some ⟨rt, 0, none⟩) nt capt), (.slice (some ⟨rc, 0, none⟩) nk capc)] (rI (.slice (some ⟨rt, 0, none⟩) nt capt) nt (I ++ (xk, xs, xe, xt, xo) :: J)) (rK (.slice (some ⟨rc, 0, none⟩) nk capc) nk (A ++ l :: r :: B)) A l.g [(.slice a5 (nl + 1) cap5), cl] (rI (.slice a5 (nl + 1) cap5) (nl + 1) (itl ++ [(xk, xs, xe, xt, xo)])) (rK cl ksl.length (ksl)) (ksl) r.g [(.slice (some ⟨rr, 0, none⟩) (mr + 1) capr), cr] (rI (.slice (some ⟨rr, 0, none⟩) (mr + 1) capr) (mr + 1) ((yk, ys, ye, yt, yo) :: itr)) (rK cr ksr.length (ksr)) (ksr) B)) := S6
    have HRT : Hid (W6.ownsRow 0 105 5 (.slice (some ⟨rt, 0, none⟩) nt capt) nt ((I ++ (xk, xs, xe, xt, xo) :: J).flatMap encI)) := rtw
    clear S6 bt br rtw rrw df hnt hnk hnl hnk' hmr hq hA hB
    have hi20 : (0 : Int) < (mr : Int) + 1 := by omega
    go_wp2
    apply wp_mid0 (R := fun w' => w' = (W6.setCells rt (q * 5) (encI (yk, ys, ye, yt, yo))).drew)
    · go_region
      all_goals exact ⟨rfl, rfl⟩
    · intro w' hw'
      subst hw'
      obtain ⟨hnt, hnk, hnl, hnk', hmr, hq, hA, hB⟩ := HH.out
      have S7 : Star w t.ft (W6.setCells rt (q * 5) (encI (yk, ys, ye, yt, yo))).drew (S13 h t.g [(.slice (some ⟨rt, 0, none⟩) nt capt), (.slice (some ⟨rc, 0, none⟩) nk capc)] (rI (.slice (some ⟨rt, 0, none⟩) nt capt) nt (I ++ (yk, ys, ye, yt, yo) :: J)) (rK (.slice (some ⟨rc, 0, none⟩) nk capc) nk (A ++ l :: r :: B)) A l.g [(.slice a5 (nl + 1) cap5), cl] (rI (.slice a5 (nl + 1) cap5) (nl + 1) (itl ++ [(xk, xs, xe, xt, xo)])) (rK cl ksl.length (ksl)) (ksl) r.g [(.slice (some ⟨rr, 0, none⟩) (mr + 1) capr), cr] (rI (.slice (some ⟨rr, 0, none⟩) (mr + 1) capr) (mr + 1) ((yk, ys, ye, yt, yo) :: itr)) (rK cr ksr.length (ksr)) (ksr) B) := by
        obtain ⟨z1, z2⟩ := owns_setitem (yk, ys, ye, yt, yo) HRT.out hnt (r := rt) rfl
        rw [hq] at z1 z2
        exact (HS6.out.step (X := [_]) (a' := (rI (.slice (some ⟨rt, 0, none⟩) nt capt) nt (I ++ (yk, ys, ye, yt, yo) :: J))) z2 z1 (aRow_ok _ _ _ _ _) (fresh_same _ _ (fun k => ownB_le (.slice (some ⟨rt, 0, none⟩) nt capt) k))).grow (Upd.drew _ _)
      clear t0 t1 tf0 tf1 r0 r1 rf0 rf1 d0 d1 d2 d3 d4 y0 y1 y2 y3 y4 df0 df1 df2 df3 df4 HRT HS6
      generalize (W6.setCells rt (q * 5) (encI (yk, ys, ye, yt, yo))).drew = W7 at *
      have br : Blk W7 r.g 65 [(.slice (some ⟨rr, 0, none⟩) (mr + 1) capr), cr] := S7.get (X := [_, _, _, _, _, _, _, _])
      have rrw : W7.ownsRow 0 105 5 (.slice (some ⟨rr, 0, none⟩) (mr + 1) capr) (mr + 1) (((yk, ys, ye, yt, yo) :: itr).flatMap encI) := S7.get (X := [_, _, _, _, _, _, _, _, _])
      obtain ⟨r0, r1, rf0, rf1⟩ := br.two
      have Z := del78 (.slice (some ⟨rr, 0, none⟩) (mr + 1) capr) (mr + 1) 0 (((yk, ys, ye, yt, yo) :: itr).flatMap encI) W7 rrw (by omega) (flatI_one _)
      rw [Nat.add_sub_cancel, show ((0 : Nat) : Int) + 1 = 1 from rfl, show ((0 : Nat) : Int) = 0 from rfl] at Z
      have HS7 : Hid (Star w t.ft W7 (S13 h t.g [(.slice (some ⟨rt, 0, none⟩) nt capt), (.slice (some ⟨rc, 0, none⟩) nk capc)] (rI (.slice (some ⟨rt, 0, none⟩) nt capt) nt (I ++ (yk, ys, ye, yt, yo) :: J)) (rK (.slice (some ⟨rc, 0, none⟩) nk capc) nk (A ++ l :: r :: B)) A l.g [(.slice a5 (nl + 1) cap5), cl] (rI (.slice a5 (nl + 1) cap5) (nl + 1) (itl ++ [(xk, xs, xe, xt, xo)])) (rK cl ksl.length (ksl)) (ksl) r.g [(.slice (some ⟨rr, 0, none⟩) (mr + 1) capr), cr] (rI (.slice (some ⟨rr, 0, none⟩) (mr + 1) capr) (mr + 1) ((yk, ys, ye, yt, yo) :: itr)) (rK cr ksr.length (ksr)) (ksr) B)) := S7
      clear S7 br rrw hnt hnk hnl hnk' hmr hq hA hB
      go_wp2_with (go_at_call 78; refine Z.mono ?_; rintro e w8 ⟨v8, rfl, ho8, hu8, hf8⟩; revert hf8)
      intro hf8
      obtain ⟨a8, cap8, rfl⟩ := owns_slice ho8
      have ho8' : w8.ownsRow 0 105 5 (.slice a8 mr cap8) mr (itr.flatMap encI) := owns_cast ho8 rfl (by have := flatI_del [] itr (yk, ys, ye, yt, yo); simpa using this)
      have S8 := HS7.out.ins (X := [_, _, _, _, _, _, _, _, _]) ho8' hu8 hf8
      have br8 : Blk w8 r.g 65 [(.slice (some ⟨rr, 0, none⟩) (mr + 1) capr), cr] := S8.get (X := [_, _, _, _, _, _, _, _])
      obtain ⟨r0, r1, rf0, rf1⟩ := br8.two
      have S9 : Star w t.ft (w8.setCell ⟨r.g, 0, none⟩ (.slice a8 mr cap8)) (S13 h t.g [(.slice (some ⟨rt, 0, none⟩) nt capt), (.slice (some ⟨rc, 0, none⟩) nk capc)] (rI (.slice (some ⟨rt, 0, none⟩) nt capt) nt (I ++ (yk, ys, ye, yt, yo) :: J)) (rK (.slice (some ⟨rc, 0, none⟩) nk capc) nk (A ++ l :: r :: B)) A l.g [(.slice a5 (nl + 1) cap5), cl] (rI (.slice a5 (nl + 1) cap5) (nl + 1) (itl ++ [(xk, xs, xe, xt, xo)])) (rK cl ksl.length (ksl)) (ksl) r.g [(.slice a8 mr cap8), cr] (rI (.slice a8 mr cap8) mr (itr)) (rK cr ksr.length (ksr)) (ksr) B) := S8.set (X := [_, _, _, _, _, _, _, _]) (i := 0) (.slice a8 mr cap8)
      have HS9 : Hid (Star w t.ft (w8.setCell ⟨r.g, 0, none⟩ (.slice a8 mr cap8)) (S13 h t.g [(.slice (some ⟨rt, 0, none⟩) nt capt), (.slice (some ⟨rc, 0, none⟩) nk capc)] (rI (.slice (some ⟨rt, 0, none⟩) nt capt) nt (I ++ (yk, ys, ye, yt, yo) :: J)) (rK (.slice (some ⟨rc, 0, none⟩) nk capc) nk (A ++ l :: r :: B)) A l.g [(.slice a5 (nl + 1) cap5), cl] (rI (.slice a5 (nl + 1) cap5) (nl + 1) (itl ++ [(xk, xs, xe, xt, xo)])) (rK cl ksl.length (ksl)) (ksl) r.g [(.slice a8 mr cap8), cr] (rI (.slice a8 mr cap8) mr (itr)) (rK cr ksr.length (ksr)) (ksr) B)) := S9
      clear S8 S9 br8 ho8 ho8' hu8 hf8 Z HS7
      cases h with
      | zero =>
        obtain ⟨hksl, hcl⟩ := HN.out.2.1.leaf rfl
        obtain ⟨hksr, hcr⟩ := HN.out.2.2.leaf rfl
        subst hksl hcl hksr hcr
        have hnil := neq63 none 0 0 0 0
        simp only [Option.isSome_none] at hnil
        go_wp2
        first | (refine bodyPost_ret (results_none rfl _ _ _) rfl ?_) | (refine bodyPost_end (results_none rfl _ _ _) rfl ?_)
        obtain ⟨hnt, hnk, hnl, hnk', hmr, hq, hA, hB⟩ := HH.out
        obtain ⟨N, Nl, Nr⟩ := HN.out
        refine ⟨rfl, ?_⟩
        have hlo := N.lo
        obtain ⟨t', l', r', q1, q2, q3, q4, q5⟩ := close2 (lo := lo) nt nk (nl + 1) 0 mr 0 HS9.out (by rw [hnt]; simp) (by rw [hnk]; simp; try omega) (by rw [hnl]; simp) rfl hmr.symm rfl hA hB (by simp at hlo ⊢; exact hlo) (by simp; omega) (by omega) (fun _ => ⟨rfl, rfl, rfl, rfl⟩) (fun h => by omega)
        refine ⟨t', l', r', _, _, q1, q2, ?_, by simpa using q4⟩
        rw [q3, N.fl, flat_two hA, Nl.fl, Nr.fl]
        simp [flat_leaf]
      | succ h =>
        have hkrl : ksr.length = mr + 2 := by
          have := HN.out.2.2.inner (by omega)
          rw [this]; simp; have := HH.out.2.2.2.2.1; omega
        have hkll : ksl.length = nl + 1 := by rw [HN.out.2.1.inner (by omega), ← HH.out.2.2.1]
        have S9 := HS9.out
        rw [hkll, hkrl] at S9
        obtain ⟨z, kr0, hz⟩ : ∃ z kr0, ksr = z :: kr0 := by
          cases ksr with
          | nil => simp at hkrl
          | cons a b => exact ⟨a, b, rfl⟩
        have hkr0 : kr0.length = mr + 1 := by rw [hz] at hkrl; simp at hkrl; omega
        obtain ⟨rcl, capcl, hcl⟩ := kids_row (owns_cast HN.out.2.1.krow hkll rfl) (by omega)
        obtain ⟨rcr, capcr, hcr⟩ := kids_row (owns_cast HN.out.2.2.krow hkrl rfl) (by omega)
        subst hz hcl hcr
        have hnil := neq63 (some ⟨rcr, 0, none⟩) (mr + 2) capcr 0 0
        simp only [Option.isSome_some] at hnil
        have HS9b : Hid (Star w t.ft (w8.setCell ⟨r.g, 0, none⟩ (.slice a8 mr cap8)) (S13 (h + 1) t.g [(.slice (some ⟨rt, 0, none⟩) nt capt), (.slice (some ⟨rc, 0, none⟩) nk capc)] (rI (.slice (some ⟨rt, 0, none⟩) nt capt) nt (I ++ (yk, ys, ye, yt, yo) :: J)) (rK (.slice (some ⟨rc, 0, none⟩) nk capc) nk (A ++ l :: r :: B)) A l.g [(.slice a5 (nl + 1) cap5), (.slice (some ⟨rcl, 0, none⟩) (nl + 1) capcl)] (rI (.slice a5 (nl + 1) cap5) (nl + 1) (itl ++ [(xk, xs, xe, xt, xo)])) (rK (.slice (some ⟨rcl, 0, none⟩) (nl + 1) capcl) (nl + 1) (ksl)) (ksl) r.g [(.slice a8 mr cap8), (.slice (some ⟨rcr, 0, none⟩) (mr + 2) capcr)] (rI (.slice a8 mr cap8) mr (itr)) (rK (.slice (some ⟨rcr, 0, none⟩) (mr + 2) capcr) (mr + 2) (z :: kr0)) (z :: kr0) B)) := S9
        have HKL : Hid (kr0.length = mr + 1 ∧ ksl.length = nl + 1) := ⟨hkr0, hkll⟩
        clear S9 HS9 hkll hkrl hkr0
        go_wp2
        have S9 := HS9b.out
        clear r0 r1 rf0 rf1 HS9b
        generalize w8.setCell ⟨r.g, 0, none⟩ (.slice a8 mr cap8) = W9 at *
        have br : Blk W9 r.g 65 [(.slice a8 mr cap8), (.slice (some ⟨rcr, 0, none⟩) (mr + 2) capcr)] := S9.get (X := [_, _, _, _, _, _, _, _])
        have bl : Blk W9 l.g 65 [(.slice a5 (nl + 1) cap5), (.slice (some ⟨rcl, 0, none⟩) (nl + 1) capcl)] := S9.get (X := [_, _, _, _])
        have rkr : W9.ownsRow 0 59 1 (.slice (some ⟨rcr, 0, none⟩) (mr + 2) capcr) (mr + 2) ((z :: kr0).map (fun k => ptr k.g)) := S9.get (X := [_, _, _, _, _, _, _, _, _, _])
        have rkl : W9.ownsRow 0 59 1 (.slice (some ⟨rcl, 0, none⟩) (nl + 1) capcl) (nl + 1) (ksl.map (fun k => ptr k.g)) := S9.get (X := [_, _, _, _, _, _])
        obtain ⟨l0, l1, lf0, lf1⟩ := bl.two
        obtain ⟨r0, r1, rf0, rf1⟩ := br.two
        have z0 := row_kidS rkr (by simp [HKL.out.1]) (i := 0) (by simp) (k := z) rfl
        have hlg := bl.lt
        have hrg := br.lt
        have hrcrl : rcr < W9.heap.size := by
          have := owns_lt rkr
          rcases Nat.lt_or_ge rcr W9.heap.size with h | h
          · exact h
          · have := this rcr h; simp [ownB, Value.ownBlock] at this
        obtain ⟨W10, hW10⟩ : ∃ W10, W10 = W9.drew.alloc (.cells #[ptr z.g] 59) := ⟨_, rfl⟩
        have hu10 : Upd W9 W10 [] := by rw [hW10]; exact (Upd.drew W9 _).trans (Upd.alloc _ _ _) (fun _ _ h => h)
        have hvb : Blk W10 W9.heap.size 59 [ptr z.g] := by rw [hW10]; exact blk_new W9.drew _ _
        obtain ⟨v11, w11, hrun, ho11, hu11, hf11⟩ := run_append_own' (P := Try.prog) W10 63 63 59 i1 _ 1 8 Try.underlying63 hi1' hz1 hzs1 hzb1 (by rfl) (by omega) (.slice (some ⟨rcl, 0, none⟩) (nl + 1) capcl) (nl + 1) (ksl.map (fun k => ptr k.g)) (owns_upd rkl hu10 (fun _ _ => by simp)) ⟨W9.heap.size, 0, none⟩ 1 1 [ptr z.g] (by simp) (fun j u hj => by
          rw [Addr.add_lit, Nat.zero_add]
          obtain ⟨q1, q2⟩ := List.getElem?_eq_some_iff.1 hj
          have := hvb.cell q1
          rw [q2] at this
          exact this) (by intro u hu; simp at hu; subst hu; rfl) (by unfold maxLen; omega) (by omega)
        have hrc : (ownB (.slice (some ⟨rcl, 0, none⟩) (nl + 1) capcl)).count l.g = 0 := by
          have h1 := hsl l.g
          rw [nt_count HN.out.2.1, if_pos rfl] at h1
          omega
        obtain ⟨a11, cap11, rfl⟩ := owns_slice ho11
        have hgb := (bl.upd hu10 (by simp)).upd hu11 hrc
        obtain ⟨g50, g51, g52, g53⟩ := hgb.two
        have ho11' : w11.ownsRow 0 59 1 (.slice a11 (nl + 1 + 1) cap11) (nl + 1 + 1) ((ksl ++ [z]).map (fun k => ptr k.g)) := owns_cast ho11 rfl (by simp)
        have S11 : Star w t.ft (w11.setCell ⟨l.g, 1, none⟩ (.slice a11 (nl + 1 + 1) cap11)) (S13 (h + 1) t.g [(.slice (some ⟨rt, 0, none⟩) nt capt), (.slice (some ⟨rc, 0, none⟩) nk capc)] (rI (.slice (some ⟨rt, 0, none⟩) nt capt) nt (I ++ (yk, ys, ye, yt, yo) :: J)) (rK (.slice (some ⟨rc, 0, none⟩) nk capc) nk (A ++ l :: r :: B)) A l.g [(.slice a5 (nl + 1) cap5), (.slice a11 (nl + 1 + 1) cap11)] (rI (.slice a5 (nl + 1) cap5) (nl + 1) (itl ++ [(xk, xs, xe, xt, xo)])) (rK (.slice a11 (nl + 1 + 1) cap11) (nl + 1 + 1) (ksl ++ [z])) (ksl) r.g [(.slice a8 mr cap8), (.slice (some ⟨rcr, 0, none⟩) (mr + 2) capcr)] (rI (.slice a8 mr cap8) mr (itr)) (rK (.slice (some ⟨rcr, 0, none⟩) (mr + 2) capcr) (mr + 2) (z :: kr0)) (z :: kr0) B) := ((S9.grow hu10).ins (X := [_, _, _, _, _, _]) ho11' hu11 hf11).set (X := [_, _, _, _]) (i := 1) (.slice a11 (nl + 1 + 1) cap11)
        have HS11 : Hid (Star w t.ft (w11.setCell ⟨l.g, 1, none⟩ (.slice a11 (nl + 1 + 1) cap11)) (S13 (h + 1) t.g [(.slice (some ⟨rt, 0, none⟩) nt capt), (.slice (some ⟨rc, 0, none⟩) nk capc)] (rI (.slice (some ⟨rt, 0, none⟩) nt capt) nt (I ++ (yk, ys, ye, yt, yo) :: J)) (rK (.slice (some ⟨rc, 0, none⟩) nk capc) nk (A ++ l :: r :: B)) A l.g [(.slice a5 (nl + 1) cap5), (.slice a11 (nl + 1 + 1) cap11)] (rI (.slice a5 (nl + 1) cap5) (nl + 1) (itl ++ [(xk, xs, xe, xt, xo)])) (rK (.slice a11 (nl + 1 + 1) cap11) (nl + 1 + 1) (ksl ++ [z])) (ksl) r.g [(.slice a8 mr cap8), (.slice (some ⟨rcr, 0, none⟩) (mr + 2) capcr)] (rI (.slice a8 mr cap8) mr (itr)) (rK (.slice (some ⟨rcr, 0, none⟩) (mr + 2) capcr) (mr + 2) (z :: kr0)) (z :: kr0) B)) := S11
        have hj1 : (0 : Int) < (mr : Int) + 2 := by omega
        clear S9 S11 bl br rkl rkr hvb hgb ho11 ho11' hu11 hf11 hu10
        subst hW10
        apply wp_mid0 (R := fun w' => w' = w11.setCell ⟨l.g, 1, none⟩ (.slice a11 (nl + 1 + 1) cap11))
        · go_region_law (refine step_append_run rfl _ _ 63 63 rfl _ _ (by simp [Act.eval, Act.put]) (by simp [Act.eval, Act.put]) hrun ?_)
          all_goals exact ⟨rfl, rfl⟩
        · intro w' hw'
          subst hw'
          have S11 := HS11.out
          clear HS11 hrun g50 g51 g52 g53 l0 l1 lf0 lf1 r0 r1 rf0 rf1 z0 hlg hrg
          generalize w11.setCell ⟨l.g, 1, none⟩ (.slice a11 (nl + 1 + 1) cap11) = W12 at *
          have br : Blk W12 r.g 65 [(.slice a8 mr cap8), (.slice (some ⟨rcr, 0, none⟩) (mr + 2) capcr)] := S11.get (X := [_, _, _, _, _, _, _, _])
          have rkr : W12.ownsRow 0 59 1 (.slice (some ⟨rcr, 0, none⟩) (mr + 2) capcr) (mr + 2) ((z :: kr0).map (fun k => ptr k.g)) := S11.get (X := [_, _, _, _, _, _, _, _, _, _])
          obtain ⟨r0, r1, rf0, rf1⟩ := br.two
          have Z2 := del87 (.slice (some ⟨rcr, 0, none⟩) (mr + 2) capcr) (mr + 2) 0 ((z :: kr0).map (fun k => ptr k.g)) W12 rkr (by omega) (ptrs_one _)
          rw [show ((0 : Nat) : Int) + 1 = 1 from rfl, show ((0 : Nat) : Int) = 0 from rfl, show mr + 2 - 1 = mr + 1 by omega] at Z2
          have HS11 : Hid (Star w t.ft W12 (S13 (h + 1) t.g [(.slice (some ⟨rt, 0, none⟩) nt capt), (.slice (some ⟨rc, 0, none⟩) nk capc)] (rI (.slice (some ⟨rt, 0, none⟩) nt capt) nt (I ++ (yk, ys, ye, yt, yo) :: J)) (rK (.slice (some ⟨rc, 0, none⟩) nk capc) nk (A ++ l :: r :: B)) A l.g [(.slice a5 (nl + 1) cap5), (.slice a11 (nl + 1 + 1) cap11)] (rI (.slice a5 (nl + 1) cap5) (nl + 1) (itl ++ [(xk, xs, xe, xt, xo)])) (rK (.slice a11 (nl + 1 + 1) cap11) (nl + 1 + 1) (ksl ++ [z])) (ksl) r.g [(.slice a8 mr cap8), (.slice (some ⟨rcr, 0, none⟩) (mr + 2) capcr)] (rI (.slice a8 mr cap8) mr (itr)) (rK (.slice (some ⟨rcr, 0, none⟩) (mr + 2) capcr) (mr + 2) (z :: kr0)) (z :: kr0) B)) := S11
          clear S11 br rkr
          go_wp2_with (go_at_call 87; refine Z2.mono ?_; rintro e w13 ⟨v13, rfl, ho13, hu13, hf13⟩; revert hf13)
          intro hf13
          obtain ⟨a13, cap13, rfl⟩ := owns_slice ho13
          have ho13' : w13.ownsRow 0 59 1 (.slice a13 (mr + 1) cap13) (mr + 1) (kr0.map (fun k => ptr k.g)) := owns_cast ho13 rfl (by simp)
          have S13' := HS11.out.ins (X := [_, _, _, _, _, _, _, _, _, _]) ho13' hu13 hf13
          have br13 : Blk w13 r.g 65 [(.slice a8 mr cap8), (.slice (some ⟨rcr, 0, none⟩) (mr + 2) capcr)] := S13'.get (X := [_, _, _, _, _, _, _, _])
          have S14 : Star w t.ft (w13.setCell ⟨r.g, 1, none⟩ (.slice a13 (mr + 1) cap13)) (S13 (h + 1) t.g [(.slice (some ⟨rt, 0, none⟩) nt capt), (.slice (some ⟨rc, 0, none⟩) nk capc)] (rI (.slice (some ⟨rt, 0, none⟩) nt capt) nt (I ++ (yk, ys, ye, yt, yo) :: J)) (rK (.slice (some ⟨rc, 0, none⟩) nk capc) nk (A ++ l :: r :: B)) A l.g [(.slice a5 (nl + 1) cap5), (.slice a11 (nl + 1 + 1) cap11)] (rI (.slice a5 (nl + 1) cap5) (nl + 1) (itl ++ [(xk, xs, xe, xt, xo)])) (rK (.slice a11 (nl + 1 + 1) cap11) (nl + 1 + 1) (ksl ++ [z])) (ksl) r.g [(.slice a8 mr cap8), (.slice a13 (mr + 1) cap13)] (rI (.slice a8 mr cap8) mr (itr)) (rK (.slice a13 (mr + 1) cap13) (mr + 1) (kr0)) (z :: kr0) B) := S13'.set (X := [_, _, _, _, _, _, _, _]) (i := 1) (.slice a13 (mr + 1) cap13)
          have S15 : Star w t.ft (w13.setCell ⟨r.g, 1, none⟩ (.slice a13 (mr + 1) cap13)) (S13 (h + 1) t.g [(.slice (some ⟨rt, 0, none⟩) nt capt), (.slice (some ⟨rc, 0, none⟩) nk capc)] (rI (.slice (some ⟨rt, 0, none⟩) nt capt) nt (I ++ (yk, ys, ye, yt, yo) :: J)) (rK (.slice (some ⟨rc, 0, none⟩) nk capc) nk (A ++ l :: r :: B)) A l.g [(.slice a5 (nl + 1) cap5), (.slice a11 (nl + 1 + 1) cap11)] (rI (.slice a5 (nl + 1) cap5) (nl + 1) (itl ++ [(xk, xs, xe, xt, xo)])) (rK (.slice a11 (nl + 1 + 1) cap11) (nl + 1 + 1) (ksl ++ [z])) (ksl ++ [z]) r.g [(.slice a8 mr cap8), (.slice a13 (mr + 1) cap13)] (rI (.slice a8 mr cap8) mr (itr)) (rK (.slice a13 (mr + 1) cap13) (mr + 1) (kr0)) (kr0) B) := by
            refine S14.retell _ (fun k => ?_) ?_
            · simp only [cnt_cons, cnt_nil, cnt_blk, cnt_row, cnt_kids, List.flatMap_append, List.flatMap_cons, List.flatMap_nil, List.append_nil, List.count_append]
              omega
            · intro b hb
              simp only [List.mem_cons, List.not_mem_nil, or_false] at hb
              have hk7 : ∀ x ∈ ksl, Below1 (w13.setCell ⟨r.g, 1, none⟩ (.slice a13 (mr + 1) cap13)) (h + 1) x := S14.get (X := [_, _, _, _, _, _, _])
              have hk11 : ∀ x ∈ z :: kr0, Below1 (w13.setCell ⟨r.g, 1, none⟩ (.slice a13 (mr + 1) cap13)) (h + 1) x := S14.get (X := [_, _, _, _, _, _, _, _, _, _, _])
              rcases hb with rfl | rfl | rfl | rfl | rfl | rfl | rfl | rfl | rfl | rfl | rfl | rfl | rfl
              · exact S14.all _ (by simp)
              · exact S14.all _ (by simp)
              · exact S14.all _ (by simp)
              · exact S14.all _ (by simp)
              · exact S14.all _ (by simp)
              · exact S14.all _ (by simp)
              · exact S14.all _ (by simp)
              · exact ⟨fun x hx => by
                  rcases List.mem_append.1 hx with hx | hx
                  · exact hk7 x hx
                  · simp at hx; subst hx; exact hk11 _ (by simp), aKids_ok _ _⟩
              · exact S14.all _ (by simp)
              · exact S14.all _ (by simp)
              · exact S14.all _ (by simp)
              · exact ⟨fun x hx => hk11 x (by simp [hx]), aKids_ok _ _⟩
              · exact S14.all _ (by simp)
          obtain ⟨r0, r1, rf0, rf1⟩ := br13.two
          have HS15 : Hid (Star w t.ft (w13.setCell ⟨r.g, 1, none⟩ (.slice a13 (mr + 1) cap13)) (S13 (h + 1) t.g [(.slice (some ⟨rt, 0, none⟩) nt capt), (.slice (some ⟨rc, 0, none⟩) nk capc)] (rI (.slice (some ⟨rt, 0, none⟩) nt capt) nt (I ++ (yk, ys, ye, yt, yo) :: J)) (rK (.slice (some ⟨rc, 0, none⟩) nk capc) nk (A ++ l :: r :: B)) A l.g [(.slice a5 (nl + 1) cap5), (.slice a11 (nl + 1 + 1) cap11)] (rI (.slice a5 (nl + 1) cap5) (nl + 1) (itl ++ [(xk, xs, xe, xt, xo)])) (rK (.slice a11 (nl + 1 + 1) cap11) (nl + 1 + 1) (ksl ++ [z])) (ksl ++ [z]) r.g [(.slice a8 mr cap8), (.slice a13 (mr + 1) cap13)] (rI (.slice a8 mr cap8) mr (itr)) (rK (.slice a13 (mr + 1) cap13) (mr + 1) (kr0)) (kr0) B)) := S15
          clear S13' S14 S15 br13 ho13 ho13' hu13 hf13 Z2 HS11
          go_wp2
          first | (refine bodyPost_ret (results_none rfl _ _ _) rfl ?_) | (refine bodyPost_end (results_none rfl _ _ _) rfl ?_)
          obtain ⟨hnt, hnk, hnl, hnk', hmr, hq, hA, hB⟩ := HH.out
          obtain ⟨N, Nl, Nr⟩ := HN.out
          refine ⟨rfl, ?_⟩
          have hlo := N.lo
          have HS16 := HS15.out
          obtain ⟨t', l', r', q1, q2, q3, q4, q5⟩ := close2 (lo := lo) nt nk (nl + 1) (nl + 1 + 1) mr (mr + 1) HS16 (by rw [hnt]; simp) (by rw [hnk]; simp; try omega) (by rw [hnl]; simp) (by simp [HKL.out.2]) hmr.symm HKL.out.1.symm hA hB (by simp at hlo ⊢; exact hlo) (by simp; omega) (by omega) (fun h => by omega) (fun _ => ⟨by simp [HKL.out.2, hnl], by rw [HKL.out.1, hmr]⟩)
          refine ⟨t', l', r', _, _, q1, q2, ?_, by simpa using q4⟩
          rw [q3, N.fl, flat_two hA, Nl.fl, Nr.fl, flat_join (I := itl) (J := []) (A := ksl) (K := [z]) (by rw [HKL.out.2, hnl])]
          simp [flat, mix]
end Go.Proofs.Qxb6003818a
