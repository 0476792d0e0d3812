import Derived.Test.Qxb6003818aBtW
import Derived.Test.Qxb6003818aBtId5
import Derived.Test.Qxb6003818aBtId1
namespace Go.Proofs.Qxb6003818a
open Go.ChangeShapes Go.WideShapes Go.ChangeAt Go.RowKit Go.Shelf Go.Lib
set_option linter.unusedVariables false
set_option linter.unusedSimpArgs false

set_option maxHeartbeats 16000000 in
set_option maxRecDepth 100000 in
/-- grow: two children become one. -/
theorem grow_merge0 (h lo q : Nat) (t l r : Kid) (v c vl cl vr cr : Value) (I J itl itr : List Item) (x : Item) (A B ksl ksr : List Kid) (w : World)
    (N : NT w (Below1 w (h + 1)) (h + 1) lo t v c (I ++ x :: J) (A ++ l :: r :: B)) (hs : Sep t) (Nl : NT w (Below1 w h) h 15 l vl cl itl ksl) (Nr : NT w (Below1 w h) h 15 r vr cr itr ksr)
    (hA : A.length = I.length) (hB : B.length = J.length) (hq : I.length = q) (hl15 : itl.length = 15) (hr15 : itr.length = 15) (hlen : (I ++ x :: J).length ≤ 50000) (hq0 : q = 0) :
    Calls Try.prog 79 #[ptr t.g, .int .i64 (q : Int)] w fun e w' => e = .returned (.tuple #[]) ∧
      ∃ t' l' v' c', NT w' (Below1 w' (h + 1)) (h + 1) (lo - 1) t' v' c' (I ++ J) (A ++ l' :: B) ∧ Turns w w' t t' ∧ t'.fl = t.fl ∧ Tree w' h 16 l' := by
  obtain ⟨xk, xs, xe, xt, xo⟩ := x
  obtain ⟨i0, hi0, hz0, hzs, hzb⟩ := info_parts info105
  obtain ⟨i1, hi1', hz1, hzs1, hzb1⟩ := info_parts info59
  have S0 := open2 N hs Nl Nr
  obtain ⟨nt, hnt⟩ : ∃ nt, nt = (I ++ (xk, xs, xe, xt, xo) :: J).length := ⟨_, rfl⟩
  obtain ⟨nk, hnk⟩ : ∃ nk, nk = (A ++ l :: r :: B).length := ⟨_, rfl⟩
  have hnk' : nk = nt + 1 := by rw [hnk, N.inner (by omega), hnt]
  have hqn : q < nt := by rw [hnt, List.length_append, List.length_cons]; omega
  have hx : (I ++ (xk, xs, xe, xt, xo) :: J)[q]'(by omega) = (xk, xs, xe, xt, xo) := by simp [← hq]
  have hl0 : (A ++ l :: r :: B)[q]'(by omega) = l := by simp [← hq, ← hA]
  have hr0 : (A ++ l :: r :: B)[q + 1]'(by omega) = r := by simp [← hq, ← hA]
  obtain ⟨rt, capt, hv, hct, -, ht1, ht2, d0, d1, d2, d3, d4, -⟩ := row_itemN (owns_cast N.row hnt.symm rfl) hnt (i := q) (by omega)
  rw [hx] at d0 d1 d2 d3 d4
  obtain ⟨rc, capc, hc, hck, -, hc1, hc2, k0, -⟩ := row_kidN (owns_cast N.krow hnk.symm rfl) hnk (i := q) (by omega)
  rw [hl0] at k0
  obtain ⟨rc', capc', hc', -, -, -, -, k1, -⟩ := row_kidN (owns_cast N.krow hnk.symm rfl) hnk (i := q + 1) (by omega)
  rw [hr0] at k1
  rw [hc] at hc'
  cases hc'
  obtain ⟨rr, capr, hvr, hcr1, -, hr1, hr2, -⟩ := row_itemN (owns_cast Nr.row hr15 rfl) hr15.symm (i := 0) (by omega)
  obtain ⟨rl, capl, hvl, hcl1, -, hl1, hl2, -⟩ := row_itemN (owns_cast Nl.row hl15 rfl) hl15.symm (i := 0) (by omega)
  subst hv hc hvl hvr
  have hsl : Sep l := fun k => by
    have h1 := hs k
    have h2 := count_mem (show l ∈ A ++ l :: r :: B by simp) k
    rw [nt_count N] at h1
    omega
  obtain ⟨t0, t1, tf0, tf1⟩ := N.blk.two
  obtain ⟨l0, l1, lf0, lf1⟩ := Nl.blk.two
  obtain ⟨r0, r1, rf0, rf1⟩ := Nr.blk.two
  rw [← hnt, ← hnk, hl15, hr15] at S0
  have HS0 : Hid (Star w t.ft w (S13 h t.g [(.slice (some ⟨rt, 0, none⟩) nt capt), (.slice (some ⟨rc, 0, none⟩) nk capc)] (rI (.slice (some ⟨rt, 0, none⟩) nt capt) nt (I ++ (xk, xs, xe, xt, xo) :: J)) (rK (.slice (some ⟨rc, 0, none⟩) nk capc) nk (A ++ l :: r :: B)) A l.g [(.slice (some ⟨rl, 0, none⟩) 15 capl), cl] (rI (.slice (some ⟨rl, 0, none⟩) 15 capl) 15 (itl)) (rK cl ksl.length (ksl)) (ksl) r.g [(.slice (some ⟨rr, 0, none⟩) 15 capr), cr] (rI (.slice (some ⟨rr, 0, none⟩) 15 capr) 15 (itr)) (rK cr ksr.length (ksr)) (ksr) B)) := S0
  have HN : Hid (NT w (Below1 w (h + 1)) (h + 1) lo t (.slice (some ⟨rt, 0, none⟩) nt capt) (.slice (some ⟨rc, 0, none⟩) nk capc) (I ++ (xk, xs, xe, xt, xo) :: J) (A ++ l :: r :: B) ∧ NT w (Below1 w h) h 15 l (.slice (some ⟨rl, 0, none⟩) 15 capl) cl itl ksl ∧ NT w (Below1 w h) h 15 r (.slice (some ⟨rr, 0, none⟩) 15 capr) cr itr ksr) := ⟨N, Nl, Nr⟩
  have HH : Hid (nt = (I ++ (xk, xs, xe, xt, xo) :: J).length ∧ nk = (A ++ l :: r :: B).length ∧ nk = nt + 1 ∧ I.length = q ∧ A.length = I.length ∧ B.length = J.length ∧ itl.length = 15 ∧ itr.length = 15) := ⟨hnt, hnk, hnk', hq, hA, hB, hl15, hr15⟩
  have hnt5 : nt ≤ 50000 := by omega
  have hi1 : (q : Int) + 1 < (nk : Int) := by omega
  have hi2 : (q : Int) < (nk : Int) := by omega
  have hi3 : (q : Int) < (nt : Int) := by omega
  have hi6 : (0 : Int) ≤ (q : Int) + 1 := by omega
  have hi7 : ((q : Int) + 1).toNat = q + 1 := by omega
  have hw1 : IntKind.i64.wrap ((q : Int) + 1) = (q : Int) + 1 := by rw [IntKind.wrap_i64]; omega
  have hw2 : IntKind.i64.wrap ((q : Int) + 2) = (q : Int) + 2 := by rw [IntKind.wrap_i64]; omega
  have hqk : q + 1 < nk := by omega
  have hm2 : ¬ ((0 : Int) < (q : Int)) := by omega
  have hm4 : ((q : Int) == (nt : Int)) = false := by rw [beq_eq_false_iff_ne]; omega
  clear N Nl Nr S0 hnt hnk hnk' hq hA hB hx hl0 hr0 hl15 hr15
  clear hq0
  go_enter Try.func79, Try.ntmps79
  go_wp2
  go_quiet (fail)
  go_wp2
  have S1 := HS0.out.grow (Upd.drewN w nq [])
  clear t0 t1 tf0 tf1 l0 l1 lf0 lf1 r0 r1 rf0 rf1 d0 d1 d2 d3 d4 k0 k1
  generalize w.drewN nq = W3 at *
  have bt : Blk W3 t.g 65 [(.slice (some ⟨rt, 0, none⟩) nt capt), (.slice (some ⟨rc, 0, none⟩) nk capc)] := S1.get (X := [])
  have bl : Blk W3 l.g 65 [(.slice (some ⟨rl, 0, none⟩) 15 capl), cl] := S1.get (X := [_, _, _, _])
  have br : Blk W3 r.g 65 [(.slice (some ⟨rr, 0, none⟩) 15 capr), cr] := S1.get (X := [_, _, _, _, _, _, _, _])
  have rtw : W3.ownsRow 0 105 5 (.slice (some ⟨rt, 0, none⟩) nt capt) nt ((I ++ (xk, xs, xe, xt, xo) :: J).flatMap encI) := S1.get (X := [_])
  have rlw : W3.ownsRow 0 105 5 (.slice (some ⟨rl, 0, none⟩) 15 capl) 15 (itl.flatMap encI) := S1.get (X := [_, _, _, _, _])
  obtain ⟨t0, t1, tf0, tf1⟩ := bt.two
  obtain ⟨l0, l1, lf0, lf1⟩ := bl.two
  obtain ⟨r0, r1, rf0, rf1⟩ := br.two
  obtain ⟨d0, d1, d2, d3, d4, -⟩ := row_itemS rtw HH.out.1 (i := q) (by rw [← HH.out.1]; omega) (x := (xk, xs, xe, xt, xo)) (by simp [← HH.out.2.2.2.1])
  simp only at d0 d1 d2 d3 d4
  have hlW : l.g < W3.heap.size := bl.lt
  have htW : t.g < W3.heap.size := bt.lt
  have hrW : r.g < W3.heap.size := br.lt
  obtain ⟨W4, hW4⟩ : ∃ W4, W4 = W3.drew.alloc (.cells #[strV xk, strV xs, strV xe, .bool xt, .bool xo] 105) := ⟨_, rfl⟩
  have hu4 : Upd W3 W4 [] := by rw [hW4]; exact (Upd.drew W3 _).trans (Upd.alloc _ _ _) (fun _ _ h => h)
  have hvb : Blk W4 W3.heap.size 105 (encI (xk, xs, xe, xt, xo)) := by rw [hW4]; exact blk_new W3.drew _ _
  obtain ⟨v5, w5, hrun5, ho5, hu5, hf5⟩ := run_append_own' (P := Try.prog) W4 62 62 105 i0 _ 5 56 Try.underlying62 hi0 hz0 hzs hzb (by rfl) (by omega) (.slice (some ⟨rl, 0, none⟩) 15 capl) 15 (itl.flatMap encI) (owns_upd rlw hu4 (fun _ _ => by simp)) ⟨W3.heap.size, 0, none⟩ 1 1 (encI (xk, xs, xe, xt, xo)) (by simp [encI, encK]) (fun j u hj => by
    rw [Addr.add_lit, Nat.zero_add]
    obtain ⟨q1, q2⟩ := List.getElem?_eq_some_iff.1 hj
    have := hvb.cell q1
    rw [q2] at this
    exact this) (encI_one _) (by unfold maxLen; omega) (by omega)
  obtain ⟨a5, cap5, rfl⟩ := owns_slice ho5
  simp only [Nat.reduceAdd] at ho5 hf5 hrun5
  have S5 : Star w t.ft w5 (S13 h t.g [(.slice (some ⟨rt, 0, none⟩) nt capt), (.slice (some ⟨rc, 0, none⟩) nk capc)] (rI (.slice (some ⟨rt, 0, none⟩) nt capt) nt (I ++ (xk, xs, xe, xt, xo) :: J)) (rK (.slice (some ⟨rc, 0, none⟩) nk capc) nk (A ++ l :: r :: B)) A l.g [(.slice (some ⟨rl, 0, none⟩) 15 capl), cl] (rI (.slice a5 16 cap5) 16 (itl ++ [(xk, xs, xe, xt, xo)])) (rK cl ksl.length (ksl)) (ksl) r.g [(.slice (some ⟨rr, 0, none⟩) 15 capr), cr] (rI (.slice (some ⟨rr, 0, none⟩) 15 capr) 15 (itr)) (rK cr ksr.length (ksr)) (ksr) B) := (S1.grow hu4).ins (X := [_, _, _, _, _]) (owns_cast ho5 rfl (by simp)) hu5 hf5
  have rrw : w5.ownsRow 0 105 5 (.slice (some ⟨rr, 0, none⟩) 15 capr) 15 (itr.flatMap encI) := S5.get (X := [_, _, _, _, _, _, _, _, _])
  have rl5 : w5.ownsRow 0 105 5 (.slice a5 16 cap5) 16 ((itl ++ [(xk, xs, xe, xt, xo)]).flatMap encI) := S5.get (X := [_, _, _, _, _])
  have br5 : Blk w5 r.g 65 [(.slice (some ⟨rr, 0, none⟩) 15 capr), cr] := S5.get (X := [_, _, _, _, _, _, _, _])
  obtain ⟨s0', s1', -, -⟩ := br5.two
  obtain ⟨v6, w6, hrun6, ho6, hu6, hf6⟩ := run_append_own' (P := Try.prog) w5 62 62 105 i0 _ 5 56 Try.underlying62 hi0 hz0 hzs hzb (by rfl) (by omega) (.slice a5 16 cap5) 16 ((itl ++ [(xk, xs, xe, xt, xo)]).flatMap encI) rl5 ⟨rr, 0, none⟩ 15 capr (itr.flatMap encI) (by rw [flatI_len, HH.out.2.2.2.2.2.2.2]) (rrw.cells rfl) (flatI_one _) (by unfold maxLen; omega) (by omega)
  obtain ⟨a6, cap6, rfl⟩ := owns_slice ho6
  simp only [Nat.reduceAdd] at ho6 hf6 hrun6
  have S6a := S5.ins (X := [_, _, _, _, _]) (owns_cast ho6 rfl (show _ = (itl ++ (xk, xs, xe, xt, xo) :: itr).flatMap encI by simp)) hu6 hf6
  have bl6 : Blk w6 l.g 65 [(.slice (some ⟨rl, 0, none⟩) 15 capl), cl] := S6a.get (X := [_, _, _, _])
  obtain ⟨g0, g1, gf0, gf1⟩ := bl6.two
  have S6 : Star w t.ft (w6.setCell ⟨l.g, 0, none⟩ (.slice a6 31 cap6)) (S13 h t.g [(.slice (some ⟨rt, 0, none⟩) nt capt), (.slice (some ⟨rc, 0, none⟩) nk capc)] (rI (.slice (some ⟨rt, 0, none⟩) nt capt) nt (I ++ (xk, xs, xe, xt, xo) :: J)) (rK (.slice (some ⟨rc, 0, none⟩) nk capc) nk (A ++ l :: r :: B)) A l.g [(.slice a6 31 cap6), cl] (rI (.slice a6 31 cap6) 31 (itl ++ (xk, xs, xe, xt, xo) :: itr)) (rK cl ksl.length (ksl)) (ksl) r.g [(.slice (some ⟨rr, 0, none⟩) 15 capr), cr] (rI (.slice (some ⟨rr, 0, none⟩) 15 capr) 15 (itr)) (rK cr ksr.length (ksr)) (ksr) B) := S6a.set (X := [_, _, _, _]) (i := 0) (.slice a6 31 cap6)
  have HS6 : Hid (Star w t.ft (w6.setCell ⟨l.g, 0, none⟩ (.slice a6 31 cap6)) (S13 h t.g [(.slice (some ⟨rt, 0, none⟩) nt capt), (.slice (some ⟨rc, 0, none⟩) nk capc)] (rI (.slice (some ⟨rt, 0, none⟩) nt capt) nt (I ++ (xk, xs, xe, xt, xo) :: J)) (rK (.slice (some ⟨rc, 0, none⟩) nk capc) nk (A ++ l :: r :: B)) A l.g [(.slice a6 31 cap6), cl] (rI (.slice a6 31 cap6) 31 (itl ++ (xk, xs, xe, xt, xo) :: itr)) (rK cl ksl.length (ksl)) (ksl) r.g [(.slice (some ⟨rr, 0, none⟩) 15 capr), cr] (rI (.slice (some ⟨rr, 0, none⟩) 15 capr) 15 (itr)) (rK cr ksr.length (ksr)) (ksr) B)) := S6
  clear S1 S5 S6a S6 bt bl br rtw rlw hvb ho5 hu5 hf5 rrw rl5 br5 ho6 hu6 hf6 bl6 hu4
  subst hW4
  apply wp_mid0 (R := fun w' => w' = w6.setCell ⟨l.g, 0, none⟩ (.slice a6 31 cap6))
  · go_region_law (first | (refine step_append_run rfl _ _ 62 62 rfl _ _ (by simp [Act.eval, Act.put]) (by simp [Act.eval, Act.put]) hrun5 ?_) | (refine step_append_run rfl _ _ 62 62 rfl _ _ (by simp [Act.eval, Act.put]) (by simp [Act.eval, Act.put]) hrun6 ?_))
    all_goals exact ⟨rfl, rfl⟩
  · intro w' hw'
    subst hw'
    have S6 := HS6.out
    clear HS6 hrun5 hrun6 g0 g1 gf0 gf1 s0' s1' t0 t1 tf0 tf1 l0 l1 lf0 lf1 r0 r1 rf0 rf1 d0 d1 d2 d3 d4 hlW htW hrW
    generalize w6.setCell ⟨l.g, 0, none⟩ (.slice a6 31 cap6) = W6 at *
    have bl : Blk W6 l.g 65 [(.slice a6 31 cap6), cl] := S6.get (X := [_, _, _, _])
    have br : Blk W6 r.g 65 [(.slice (some ⟨rr, 0, none⟩) 15 capr), cr] := S6.get (X := [_, _, _, _, _, _, _, _])
    obtain ⟨l0, l1, lf0, lf1⟩ := bl.two
    obtain ⟨r0, r1, rf0, rf1⟩ := br.two
    go_wp2
    cases h with
    | zero =>
      obtain ⟨hksl, hcl⟩ := HN.out.2.1.leaf rfl
      obtain ⟨hksr, hcr⟩ := HN.out.2.2.leaf rfl
      subst hksl hcl hksr hcr
      have hap : ∀ ty, (Builtin.append_ #[63, 63] ty #[.slice none 0 0, .slice none 0 0]).run Try.prog W6.drew = .ok (.slice none 0 0) W6.drew := fun ty => by
        simp [Builtin.append_, run_underlying Try.underlying63, sizeOf, typeInfo, hi1', Builtin.lenOf, Builtin.firstCells]
      have S7 := (S6.grow (Upd.drew W6 [])).set (X := [_, _, _, _]) (i := 1) (.slice none 0 0)
      have HS7a : Hid (Star w t.ft (W6.drew.setCell ⟨l.g, 1, none⟩ (.slice none 0 0)) (S13 0 t.g [(.slice (some ⟨rt, 0, none⟩) nt capt), (.slice (some ⟨rc, 0, none⟩) nk capc)] (rI (.slice (some ⟨rt, 0, none⟩) nt capt) nt (I ++ (xk, xs, xe, xt, xo) :: J)) (rK (.slice (some ⟨rc, 0, none⟩) nk capc) nk (A ++ l :: r :: B)) A l.g [(.slice a6 31 cap6), (.slice none 0 0)] (rI (.slice a6 31 cap6) 31 (itl ++ (xk, xs, xe, xt, xo) :: itr)) (rK (.slice none 0 0) ([] : List Kid).length ([])) ([]) r.g [(.slice (some ⟨rr, 0, none⟩) 15 capr), (.slice none 0 0)] (rI (.slice (some ⟨rr, 0, none⟩) 15 capr) 15 (itr)) (rK (.slice none 0 0) ([] : List Kid).length ([])) ([]) B)) := S7
      clear S6 S7 bl br
      apply wp_mid0 (R := fun w' => w' = W6.drew.setCell ⟨l.g, 1, none⟩ (.slice none 0 0))
      · go_region_law (refine step_append_run rfl _ _ 63 63 rfl _ _ (by simp [Act.eval, Act.put]) (by simp [Act.eval, Act.put]) (hap _) ?_)
        all_goals exact ⟨rfl, rfl⟩
      · intro w' hw'
        subst hw'
        have S7 := HS7a.out
        clear HS7a hap l0 l1 lf0 lf1 r0 r1 rf0 rf1
        generalize W6.drew.setCell ⟨l.g, 1, none⟩ (.slice none 0 0) = W7 at *
        have bt : Blk W7 t.g 65 [(.slice (some ⟨rt, 0, none⟩) nt capt), (.slice (some ⟨rc, 0, none⟩) nk capc)] := S7.get (X := [])
        have rtw : W7.ownsRow 0 105 5 (.slice (some ⟨rt, 0, none⟩) nt capt) nt ((I ++ (xk, xs, xe, xt, xo) :: J).flatMap encI) := S7.get (X := [_])
        obtain ⟨t0, t1, tf0, tf1⟩ := bt.two
        have Z := del78 (.slice (some ⟨rt, 0, none⟩) nt capt) nt q ((I ++ (xk, xs, xe, xt, xo) :: J).flatMap encI) W7 rtw (by omega) (flatI_one _)
        have HS7 : Hid (Star w t.ft W7 (S13 0 t.g [(.slice (some ⟨rt, 0, none⟩) nt capt), (.slice (some ⟨rc, 0, none⟩) nk capc)] (rI (.slice (some ⟨rt, 0, none⟩) nt capt) nt (I ++ (xk, xs, xe, xt, xo) :: J)) (rK (.slice (some ⟨rc, 0, none⟩) nk capc) nk (A ++ l :: r :: B)) A l.g [(.slice a6 31 cap6), (.slice none 0 0)] (rI (.slice a6 31 cap6) 31 (itl ++ (xk, xs, xe, xt, xo) :: itr)) (rK (.slice none 0 0) ([] : List Kid).length ([])) ([]) r.g [(.slice (some ⟨rr, 0, none⟩) 15 capr), (.slice none 0 0)] (rI (.slice (some ⟨rr, 0, none⟩) 15 capr) 15 (itr)) (rK (.slice none 0 0) ([] : List Kid).length ([])) ([]) B)) := S7
        clear S7 bt rtw
        go_wp2_with (go_at_call 78; refine Z.mono ?_; rintro e w8 ⟨v8, rfl, ho8, hu8, hf8⟩; revert hf8)
        intro hf8
        obtain ⟨a8, cap8, rfl⟩ := owns_slice ho8
        have ho8' : w8.ownsRow 0 105 5 (.slice a8 (nt - 1) cap8) (nt - 1) ((I ++ J).flatMap encI) := owns_cast ho8 rfl (by have := flatI_del I J (xk, xs, xe, xt, xo); rw [HH.out.2.2.2.1] at this; exact this)
        have S8a := HS7.out.ins (X := [_]) ho8' hu8 hf8
        have bt8 : Blk w8 t.g 65 [(.slice (some ⟨rt, 0, none⟩) nt capt), (.slice (some ⟨rc, 0, none⟩) nk capc)] := S8a.get (X := [])
        obtain ⟨t0, t1, tf0, tf1⟩ := bt8.two
        have S8 : Star w t.ft (w8.setCell ⟨t.g, 0, none⟩ (.slice a8 (nt - 1) cap8)) (S13 0 t.g [(.slice a8 (nt - 1) cap8), (.slice (some ⟨rc, 0, none⟩) nk capc)] (rI (.slice a8 (nt - 1) cap8) (nt - 1) (I ++ J)) (rK (.slice (some ⟨rc, 0, none⟩) nk capc) nk (A ++ l :: r :: B)) A l.g [(.slice a6 31 cap6), (.slice none 0 0)] (rI (.slice a6 31 cap6) 31 (itl ++ (xk, xs, xe, xt, xo) :: itr)) (rK (.slice none 0 0) ([] : List Kid).length ([])) ([]) r.g [(.slice (some ⟨rr, 0, none⟩) 15 capr), (.slice none 0 0)] (rI (.slice (some ⟨rr, 0, none⟩) 15 capr) 15 (itr)) (rK (.slice none 0 0) ([] : List Kid).length ([])) ([]) B) := S8a.set (X := []) (i := 0) (.slice a8 (nt - 1) cap8)
        have rkw : (w8.setCell ⟨t.g, 0, none⟩ (.slice a8 (nt - 1) cap8)).ownsRow 0 59 1 (.slice (some ⟨rc, 0, none⟩) nk capc) nk ((A ++ l :: r :: B).map (fun k => ptr k.g)) := S8.get (X := [_, _])
        have Z2 := del87 (.slice (some ⟨rc, 0, none⟩) nk capc) nk (q + 1) ((A ++ l :: r :: B).map (fun k => ptr k.g)) (w8.setCell ⟨t.g, 0, none⟩ (.slice a8 (nt - 1) cap8)) rkw (by omega) (ptrs_one _)
        rw [show ((q + 1 : Nat) : Int) + 1 = (q : Int) + 2 by omega, show ((q + 1 : Nat) : Int) = (q : Int) + 1 by omega] at Z2
        have HS8 : Hid (Star w t.ft (w8.setCell ⟨t.g, 0, none⟩ (.slice a8 (nt - 1) cap8)) (S13 0 t.g [(.slice a8 (nt - 1) cap8), (.slice (some ⟨rc, 0, none⟩) nk capc)] (rI (.slice a8 (nt - 1) cap8) (nt - 1) (I ++ J)) (rK (.slice (some ⟨rc, 0, none⟩) nk capc) nk (A ++ l :: r :: B)) A l.g [(.slice a6 31 cap6), (.slice none 0 0)] (rI (.slice a6 31 cap6) 31 (itl ++ (xk, xs, xe, xt, xo) :: itr)) (rK (.slice none 0 0) ([] : List Kid).length ([])) ([]) r.g [(.slice (some ⟨rr, 0, none⟩) 15 capr), (.slice none 0 0)] (rI (.slice (some ⟨rr, 0, none⟩) 15 capr) 15 (itr)) (rK (.slice none 0 0) ([] : List Kid).length ([])) ([]) B)) := S8
        clear S8 S8a bt8 rkw ho8 ho8' hu8 hf8 Z HS7
        go_wp2_with (go_at_call 87; refine Z2.mono ?_; rintro e w13 ⟨v13, rfl, ho13, hu13, hf13⟩; revert hf13)
        intro hf13
        obtain ⟨a13, cap13, rfl⟩ := owns_slice ho13
        have ho13' : w13.ownsRow 0 59 1 (.slice a13 (nk - 1) cap13) (nk - 1) ((A ++ l :: B).map (fun k => ptr k.g)) := owns_cast ho13 rfl (by
          have h1 := ptrs_del (A ++ [l]) B r
          rw [show (A ++ [l]).length = q + 1 by simp [HH.out.2.2.2.2.1, HH.out.2.2.2.1]] at h1
          simpa using h1)
        have S13' := HS8.out.ins (X := [_, _]) ho13' hu13 hf13
        have bt13 : Blk w13 t.g 65 [(.slice a8 (nt - 1) cap8), (.slice (some ⟨rc, 0, none⟩) nk capc)] := S13'.get (X := [])
        have S14 : Star w t.ft (w13.setCell ⟨t.g, 1, none⟩ (.slice a13 (nk - 1) cap13)) (S13 0 t.g [(.slice a8 (nt - 1) cap8), (.slice a13 (nk - 1) cap13)] (rI (.slice a8 (nt - 1) cap8) (nt - 1) (I ++ J)) (rK (.slice a13 (nk - 1) cap13) (nk - 1) (A ++ l :: B)) A l.g [(.slice a6 31 cap6), (.slice none 0 0)] (rI (.slice a6 31 cap6) 31 (itl ++ (xk, xs, xe, xt, xo) :: itr)) (rK (.slice none 0 0) ([] : List Kid).length ([])) ([]) r.g [(.slice (some ⟨rr, 0, none⟩) 15 capr), (.slice none 0 0)] (rI (.slice (some ⟨rr, 0, none⟩) 15 capr) 15 (itr)) (rK (.slice none 0 0) ([] : List Kid).length ([])) ([]) B) := S13'.set (X := []) (i := 1) (.slice a13 (nk - 1) cap13)
        have S15 : Star w t.ft (w13.setCell ⟨t.g, 1, none⟩ (.slice a13 (nk - 1) cap13)) [aBlk t.g 65 [(.slice a8 (nt - 1) cap8), (.slice a13 (nk - 1) cap13)], (rI (.slice a8 (nt - 1) cap8) (nt - 1) (I ++ J)), (rK (.slice a13 (nk - 1) cap13) (nk - 1) (A ++ l :: B)), aKids (0 + 1) A, aBlk l.g 65 [(.slice a6 31 cap6), (.slice none 0 0)], (rI (.slice a6 31 cap6) 31 (itl ++ (xk, xs, xe, xt, xo) :: itr)), (rK (.slice none 0 0) 0 ([])), aKids 0 ([]), aKids (0 + 1) B] := by
          refine S14.retell _ (fun k => ?_) ?_
          · simp only [cnt_cons, cnt_nil, cnt_blk, cnt_row, cnt_kids, List.flatMap_append, List.flatMap_cons, List.flatMap_nil, List.append_nil, List.count_append, List.count_nil]
            omega
          · intro b hb
            simp only [List.mem_cons, List.not_mem_nil, or_false] at hb
            have hk7 : ∀ x ∈ ([] : List Kid), Below1 (w13.setCell ⟨t.g, 1, none⟩ (.slice a13 (nk - 1) cap13)) 0 x := S14.get (X := [_, _, _, _, _, _, _])
            have hk11 : ∀ x ∈ ([] : List Kid), Below1 (w13.setCell ⟨t.g, 1, none⟩ (.slice a13 (nk - 1) cap13)) 0 x := S14.get (X := [_, _, _, _, _, _, _, _, _, _, _])
            rcases hb with rfl | rfl | rfl | rfl | rfl | rfl | rfl | rfl | rfl
            · exact S14.all _ (by simp)
            · exact S14.all _ (by simp)
            · exact S14.all _ (by simp)
            · exact S14.all _ (by simp)
            · exact S14.all _ (by simp)
            · exact S14.all _ (by simp)
            · exact S14.all _ (by simp)
            · exact ⟨fun x hx => by simp at hx, aKids_ok _ _⟩
            · exact S14.all _ (by simp)
        obtain ⟨t0, t1, tf0, tf1⟩ := bt13.two
        have HS15 : Hid (Star w t.ft (w13.setCell ⟨t.g, 1, none⟩ (.slice a13 (nk - 1) cap13)) [aBlk t.g 65 [(.slice a8 (nt - 1) cap8), (.slice a13 (nk - 1) cap13)], (rI (.slice a8 (nt - 1) cap8) (nt - 1) (I ++ J)), (rK (.slice a13 (nk - 1) cap13) (nk - 1) (A ++ l :: B)), aKids (0 + 1) A, aBlk l.g 65 [(.slice a6 31 cap6), (.slice none 0 0)], (rI (.slice a6 31 cap6) 31 (itl ++ (xk, xs, xe, xt, xo) :: itr)), (rK (.slice none 0 0) 0 ([])), aKids 0 ([]), aKids (0 + 1) B]) := S15
        clear S13' S14 S15 bt13 ho13 ho13' hu13 hf13 Z2 HS8
        go_wp2
        first | (refine bodyPost_ret (results_none rfl _ _ _) rfl ?_) | (refine bodyPost_end (results_none rfl _ _ _) rfl ?_)
        obtain ⟨hnt, hnk, hnk', hq, hA, hB, hl15, hr15⟩ := HH.out
        obtain ⟨N, Nl, Nr⟩ := HN.out
        refine ⟨rfl, ?_⟩
        have hlo := N.lo
        obtain ⟨t', l', q1, q2, q3, q4⟩ := close1 (lo := lo - 1) (nt - 1) (nk - 1) 31 0 HS15.out (by rw [hnt]; simp) (by rw [hnk]; simp; try omega) (by simp; omega) rfl hA hB (by simp at hlo ⊢; omega) (by simp; omega) (fun _ => ⟨rfl, rfl⟩) (fun h => by omega)
        refine ⟨t', l', _, _, q1, q2, ?_, tree_lo q4 (by simp; omega)⟩
        rw [q3, N.fl, flat_two hA, Nl.fl, Nr.fl]
        simp [flat_leaf]

    | succ h =>
      have hkll : ksl.length = 16 := by rw [HN.out.2.1.inner (by omega), HH.out.2.2.2.2.2.2.1]
      have hkrl : ksr.length = 16 := by rw [HN.out.2.2.inner (by omega), HH.out.2.2.2.2.2.2.2]
      rw [hkll, hkrl] at S6
      obtain ⟨rcl, capcl, hcl⟩ := kids_row (owns_cast HN.out.2.1.krow hkll rfl) (by omega)
      obtain ⟨rcr, capcr, hcr⟩ := kids_row (owns_cast HN.out.2.2.krow hkrl rfl) (by omega)
      subst hcl hcr
      have HKL : Hid (ksl.length = 16 ∧ ksr.length = 16) := ⟨hkll, hkrl⟩
      have rkl : W6.ownsRow 0 59 1 (.slice (some ⟨rcl, 0, none⟩) 16 capcl) 16 (ksl.map (fun k => ptr k.g)) := S6.get (X := [_, _, _, _, _, _])
      have rkr : W6.ownsRow 0 59 1 (.slice (some ⟨rcr, 0, none⟩) 16 capcr) 16 (ksr.map (fun k => ptr k.g)) := S6.get (X := [_, _, _, _, _, _, _, _, _, _])
      have hud : Upd W6 W6.drew [] := Upd.drew W6 []
      obtain ⟨v7, w7, hrun7, ho7, hu7, hf7⟩ := run_append_own' (P := Try.prog) W6.drew 63 63 59 i1 _ 1 8 Try.underlying63 hi1' hz1 hzs1 hzb1 (by rfl) (by omega) (.slice (some ⟨rcl, 0, none⟩) 16 capcl) 16 (ksl.map (fun k => ptr k.g)) (owns_upd rkl hud (fun _ _ => by simp)) ⟨rcr, 0, none⟩ 16 capcr (ksr.map (fun k => ptr k.g)) (by simp [hkrl]) ((owns_upd rkr hud (fun _ _ => by simp)).cells rfl) (ptrs_one _) (by unfold maxLen; omega) (by omega)
      obtain ⟨a7, cap7, rfl⟩ := owns_slice ho7
      simp only [Nat.reduceAdd] at ho7 hf7 hrun7
      have S7a := (S6.grow hud).ins (X := [_, _, _, _, _, _]) (owns_cast ho7 rfl (show _ = (ksl ++ ksr).map (fun k => ptr k.g) by simp)) hu7 hf7
      have bl7 : Blk w7 l.g 65 [(.slice a6 31 cap6), (.slice (some ⟨rcl, 0, none⟩) 16 capcl)] := S7a.get (X := [_, _, _, _])
      obtain ⟨g0, g1, gf0, gf1⟩ := bl7.two
      have S7 : Star w t.ft (w7.setCell ⟨l.g, 1, none⟩ (.slice a7 32 cap7)) (S13 (h + 1) t.g [(.slice (some ⟨rt, 0, none⟩) nt capt), (.slice (some ⟨rc, 0, none⟩) nk capc)] (rI (.slice (some ⟨rt, 0, none⟩) nt capt) nt (I ++ (xk, xs, xe, xt, xo) :: J)) (rK (.slice (some ⟨rc, 0, none⟩) nk capc) nk (A ++ l :: r :: B)) A l.g [(.slice a6 31 cap6), (.slice a7 32 cap7)] (rI (.slice a6 31 cap6) 31 (itl ++ (xk, xs, xe, xt, xo) :: itr)) (rK (.slice a7 32 cap7) 32 (ksl ++ ksr)) (ksl) r.g [(.slice (some ⟨rr, 0, none⟩) 15 capr), (.slice (some ⟨rcr, 0, none⟩) 16 capcr)] (rI (.slice (some ⟨rr, 0, none⟩) 15 capr) 15 (itr)) (rK (.slice (some ⟨rcr, 0, none⟩) 16 capcr) 16 (ksr)) (ksr) B) := S7a.set (X := [_, _, _, _]) (i := 1) (.slice a7 32 cap7)
      have HS7a : Hid (Star w t.ft (w7.setCell ⟨l.g, 1, none⟩ (.slice a7 32 cap7)) (S13 (h + 1) t.g [(.slice (some ⟨rt, 0, none⟩) nt capt), (.slice (some ⟨rc, 0, none⟩) nk capc)] (rI (.slice (some ⟨rt, 0, none⟩) nt capt) nt (I ++ (xk, xs, xe, xt, xo) :: J)) (rK (.slice (some ⟨rc, 0, none⟩) nk capc) nk (A ++ l :: r :: B)) A l.g [(.slice a6 31 cap6), (.slice a7 32 cap7)] (rI (.slice a6 31 cap6) 31 (itl ++ (xk, xs, xe, xt, xo) :: itr)) (rK (.slice a7 32 cap7) 32 (ksl ++ ksr)) (ksl) r.g [(.slice (some ⟨rr, 0, none⟩) 15 capr), (.slice (some ⟨rcr, 0, none⟩) 16 capcr)] (rI (.slice (some ⟨rr, 0, none⟩) 15 capr) 15 (itr)) (rK (.slice (some ⟨rcr, 0, none⟩) 16 capcr) 16 (ksr)) (ksr) B)) := S7
      clear S6 S7 S7a bl br rkl rkr ho7 hu7 hf7 bl7 hkll hkrl hud
      apply wp_mid0 (R := fun w' => w' = w7.setCell ⟨l.g, 1, none⟩ (.slice a7 32 cap7))
      · go_region_law (refine step_append_run rfl _ _ 63 63 rfl _ _ (by simp [Act.eval, Act.put]) (by simp [Act.eval, Act.put]) hrun7 ?_)
        all_goals exact ⟨rfl, rfl⟩
      · intro w' hw'
        subst hw'
        have S7 := HS7a.out
        clear HS7a hrun7 g0 g1 gf0 gf1 l0 l1 lf0 lf1 r0 r1 rf0 rf1
        generalize w7.setCell ⟨l.g, 1, none⟩ (.slice a7 32 cap7) = W7 at *
        have bt : Blk W7 t.g 65 [(.slice (some ⟨rt, 0, none⟩) nt capt), (.slice (some ⟨rc, 0, none⟩) nk capc)] := S7.get (X := [])
        have rtw : W7.ownsRow 0 105 5 (.slice (some ⟨rt, 0, none⟩) nt capt) nt ((I ++ (xk, xs, xe, xt, xo) :: J).flatMap encI) := S7.get (X := [_])
        obtain ⟨t0, t1, tf0, tf1⟩ := bt.two
        have Z := del78 (.slice (some ⟨rt, 0, none⟩) nt capt) nt q ((I ++ (xk, xs, xe, xt, xo) :: J).flatMap encI) W7 rtw (by omega) (flatI_one _)
        have HS7 : Hid (Star w t.ft W7 (S13 (h + 1) t.g [(.slice (some ⟨rt, 0, none⟩) nt capt), (.slice (some ⟨rc, 0, none⟩) nk capc)] (rI (.slice (some ⟨rt, 0, none⟩) nt capt) nt (I ++ (xk, xs, xe, xt, xo) :: J)) (rK (.slice (some ⟨rc, 0, none⟩) nk capc) nk (A ++ l :: r :: B)) A l.g [(.slice a6 31 cap6), (.slice a7 32 cap7)] (rI (.slice a6 31 cap6) 31 (itl ++ (xk, xs, xe, xt, xo) :: itr)) (rK (.slice a7 32 cap7) 32 (ksl ++ ksr)) (ksl) r.g [(.slice (some ⟨rr, 0, none⟩) 15 capr), (.slice (some ⟨rcr, 0, none⟩) 16 capcr)] (rI (.slice (some ⟨rr, 0, none⟩) 15 capr) 15 (itr)) (rK (.slice (some ⟨rcr, 0, none⟩) 16 capcr) 16 (ksr)) (ksr) B)) := S7
        clear S7 bt rtw
        go_wp2_with (go_at_call 78; refine Z.mono ?_; rintro e w8 ⟨v8, rfl, ho8, hu8, hf8⟩; revert hf8)
        intro hf8
        obtain ⟨a8, cap8, rfl⟩ := owns_slice ho8
        have ho8' : w8.ownsRow 0 105 5 (.slice a8 (nt - 1) cap8) (nt - 1) ((I ++ J).flatMap encI) := owns_cast ho8 rfl (by have := flatI_del I J (xk, xs, xe, xt, xo); rw [HH.out.2.2.2.1] at this; exact this)
        have S8a := HS7.out.ins (X := [_]) ho8' hu8 hf8
        have bt8 : Blk w8 t.g 65 [(.slice (some ⟨rt, 0, none⟩) nt capt), (.slice (some ⟨rc, 0, none⟩) nk capc)] := S8a.get (X := [])
        obtain ⟨t0, t1, tf0, tf1⟩ := bt8.two
        have S8 : Star w t.ft (w8.setCell ⟨t.g, 0, none⟩ (.slice a8 (nt - 1) cap8)) (S13 (h + 1) t.g [(.slice a8 (nt - 1) cap8), (.slice (some ⟨rc, 0, none⟩) nk capc)] (rI (.slice a8 (nt - 1) cap8) (nt - 1) (I ++ J)) (rK (.slice (some ⟨rc, 0, none⟩) nk capc) nk (A ++ l :: r :: B)) A l.g [(.slice a6 31 cap6), (.slice a7 32 cap7)] (rI (.slice a6 31 cap6) 31 (itl ++ (xk, xs, xe, xt, xo) :: itr)) (rK (.slice a7 32 cap7) 32 (ksl ++ ksr)) (ksl) r.g [(.slice (some ⟨rr, 0, none⟩) 15 capr), (.slice (some ⟨rcr, 0, none⟩) 16 capcr)] (rI (.slice (some ⟨rr, 0, none⟩) 15 capr) 15 (itr)) (rK (.slice (some ⟨rcr, 0, none⟩) 16 capcr) 16 (ksr)) (ksr) B) := S8a.set (X := []) (i := 0) (.slice a8 (nt - 1) cap8)
        have rkw : (w8.setCell ⟨t.g, 0, none⟩ (.slice a8 (nt - 1) cap8)).ownsRow 0 59 1 (.slice (some ⟨rc, 0, none⟩) nk capc) nk ((A ++ l :: r :: B).map (fun k => ptr k.g)) := S8.get (X := [_, _])
        have Z2 := del87 (.slice (some ⟨rc, 0, none⟩) nk capc) nk (q + 1) ((A ++ l :: r :: B).map (fun k => ptr k.g)) (w8.setCell ⟨t.g, 0, none⟩ (.slice a8 (nt - 1) cap8)) rkw (by omega) (ptrs_one _)
        rw [show ((q + 1 : Nat) : Int) + 1 = (q : Int) + 2 by omega, show ((q + 1 : Nat) : Int) = (q : Int) + 1 by omega] at Z2
        have HS8 : Hid (Star w t.ft (w8.setCell ⟨t.g, 0, none⟩ (.slice a8 (nt - 1) cap8)) (S13 (h + 1) t.g [(.slice a8 (nt - 1) cap8), (.slice (some ⟨rc, 0, none⟩) nk capc)] (rI (.slice a8 (nt - 1) cap8) (nt - 1) (I ++ J)) (rK (.slice (some ⟨rc, 0, none⟩) nk capc) nk (A ++ l :: r :: B)) A l.g [(.slice a6 31 cap6), (.slice a7 32 cap7)] (rI (.slice a6 31 cap6) 31 (itl ++ (xk, xs, xe, xt, xo) :: itr)) (rK (.slice a7 32 cap7) 32 (ksl ++ ksr)) (ksl) r.g [(.slice (some ⟨rr, 0, none⟩) 15 capr), (.slice (some ⟨rcr, 0, none⟩) 16 capcr)] (rI (.slice (some ⟨rr, 0, none⟩) 15 capr) 15 (itr)) (rK (.slice (some ⟨rcr, 0, none⟩) 16 capcr) 16 (ksr)) (ksr) B)) := S8
        clear S8 S8a bt8 rkw ho8 ho8' hu8 hf8 Z HS7
        go_wp2_with (go_at_call 87; refine Z2.mono ?_; rintro e w13 ⟨v13, rfl, ho13, hu13, hf13⟩; revert hf13)
        intro hf13
        obtain ⟨a13, cap13, rfl⟩ := owns_slice ho13
        have ho13' : w13.ownsRow 0 59 1 (.slice a13 (nk - 1) cap13) (nk - 1) ((A ++ l :: B).map (fun k => ptr k.g)) := owns_cast ho13 rfl (by
          have h1 := ptrs_del (A ++ [l]) B r
          rw [show (A ++ [l]).length = q + 1 by simp [HH.out.2.2.2.2.1, HH.out.2.2.2.1]] at h1
          simpa using h1)
        have S13' := HS8.out.ins (X := [_, _]) ho13' hu13 hf13
        have bt13 : Blk w13 t.g 65 [(.slice a8 (nt - 1) cap8), (.slice (some ⟨rc, 0, none⟩) nk capc)] := S13'.get (X := [])
        have S14 : Star w t.ft (w13.setCell ⟨t.g, 1, none⟩ (.slice a13 (nk - 1) cap13)) (S13 (h + 1) t.g [(.slice a8 (nt - 1) cap8), (.slice a13 (nk - 1) cap13)] (rI (.slice a8 (nt - 1) cap8) (nt - 1) (I ++ J)) (rK (.slice a13 (nk - 1) cap13) (nk - 1) (A ++ l :: B)) A l.g [(.slice a6 31 cap6), (.slice a7 32 cap7)] (rI (.slice a6 31 cap6) 31 (itl ++ (xk, xs, xe, xt, xo) :: itr)) (rK (.slice a7 32 cap7) 32 (ksl ++ ksr)) (ksl) r.g [(.slice (some ⟨rr, 0, none⟩) 15 capr), (.slice (some ⟨rcr, 0, none⟩) 16 capcr)] (rI (.slice (some ⟨rr, 0, none⟩) 15 capr) 15 (itr)) (rK (.slice (some ⟨rcr, 0, none⟩) 16 capcr) 16 (ksr)) (ksr) B) := S13'.set (X := []) (i := 1) (.slice a13 (nk - 1) cap13)
        have S15 : Star w t.ft (w13.setCell ⟨t.g, 1, none⟩ (.slice a13 (nk - 1) cap13)) [aBlk t.g 65 [(.slice a8 (nt - 1) cap8), (.slice a13 (nk - 1) cap13)], (rI (.slice a8 (nt - 1) cap8) (nt - 1) (I ++ J)), (rK (.slice a13 (nk - 1) cap13) (nk - 1) (A ++ l :: B)), aKids ((h + 1) + 1) A, aBlk l.g 65 [(.slice a6 31 cap6), (.slice a7 32 cap7)], (rI (.slice a6 31 cap6) 31 (itl ++ (xk, xs, xe, xt, xo) :: itr)), (rK (.slice a7 32 cap7) 32 (ksl ++ ksr)), aKids (h + 1) (ksl ++ ksr), aKids ((h + 1) + 1) B] := by
          refine S14.retell _ (fun k => ?_) ?_
          · simp only [cnt_cons, cnt_nil, cnt_blk, cnt_row, cnt_kids, List.flatMap_append, List.flatMap_cons, List.flatMap_nil, List.append_nil, List.count_append, List.count_nil]
            omega
          · intro b hb
            simp only [List.mem_cons, List.not_mem_nil, or_false] at hb
            have hk7 : ∀ x ∈ ksl, Below1 (w13.setCell ⟨t.g, 1, none⟩ (.slice a13 (nk - 1) cap13)) (h + 1) x := S14.get (X := [_, _, _, _, _, _, _])
            have hk11 : ∀ x ∈ ksr, Below1 (w13.setCell ⟨t.g, 1, none⟩ (.slice a13 (nk - 1) cap13)) (h + 1) x := S14.get (X := [_, _, _, _, _, _, _, _, _, _, _])
            rcases hb with rfl | rfl | rfl | rfl | rfl | rfl | rfl | rfl | rfl
            · exact S14.all _ (by simp)
            · exact S14.all _ (by simp)
            · exact S14.all _ (by simp)
            · exact S14.all _ (by simp)
            · exact S14.all _ (by simp)
            · exact S14.all _ (by simp)
            · exact S14.all _ (by simp)
            · exact ⟨fun x hx => by
                rcases List.mem_append.1 hx with hx | hx
                · exact hk7 x hx
                · exact hk11 x hx, aKids_ok _ _⟩
            · exact S14.all _ (by simp)
        obtain ⟨t0, t1, tf0, tf1⟩ := bt13.two
        have HS15 : Hid (Star w t.ft (w13.setCell ⟨t.g, 1, none⟩ (.slice a13 (nk - 1) cap13)) [aBlk t.g 65 [(.slice a8 (nt - 1) cap8), (.slice a13 (nk - 1) cap13)], (rI (.slice a8 (nt - 1) cap8) (nt - 1) (I ++ J)), (rK (.slice a13 (nk - 1) cap13) (nk - 1) (A ++ l :: B)), aKids ((h + 1) + 1) A, aBlk l.g 65 [(.slice a6 31 cap6), (.slice a7 32 cap7)], (rI (.slice a6 31 cap6) 31 (itl ++ (xk, xs, xe, xt, xo) :: itr)), (rK (.slice a7 32 cap7) 32 (ksl ++ ksr)), aKids (h + 1) (ksl ++ ksr), aKids ((h + 1) + 1) B]) := S15
        clear S13' S14 S15 bt13 ho13 ho13' hu13 hf13 Z2 HS8
        go_wp2
        first | (refine bodyPost_ret (results_none rfl _ _ _) rfl ?_) | (refine bodyPost_end (results_none rfl _ _ _) rfl ?_)
        obtain ⟨hnt, hnk, hnk', hq, hA, hB, hl15, hr15⟩ := HH.out
        obtain ⟨N, Nl, Nr⟩ := HN.out
        refine ⟨rfl, ?_⟩
        have hlo := N.lo
        obtain ⟨t', l', q1, q2, q3, q4⟩ := close1 (lo := lo - 1) (nt - 1) (nk - 1) 31 32 HS15.out (by rw [hnt]; simp) (by rw [hnk]; simp; try omega) (by simp; omega) (by simp [HKL.out.1, HKL.out.2]) hA hB (by simp at hlo ⊢; omega) (by simp; omega) (fun h => by omega) (fun _ => by simp [HKL.out.1, HKL.out.2, hl15, hr15])
        refine ⟨t', l', _, _, q1, q2, ?_, tree_lo q4 (by simp; omega)⟩
        rw [q3, N.fl, flat_two hA, Nl.fl, Nr.fl]
        rw [flat_join (I := itl) (J := itr) (A := ksl) (K := ksr) (by rw [HKL.out.1, hl15])]

end Go.Proofs.Qxb6003818a
