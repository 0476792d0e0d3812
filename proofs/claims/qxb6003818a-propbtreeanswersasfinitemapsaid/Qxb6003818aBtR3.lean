import Derived.Test.Qxb6003818aBtR2
import Derived.Test.Qxb6003818aBtT
namespace Go.Proofs.Qxb6003818a
open Go.ChangeShapes Go.WideShapes Go.ChangeAt Go.RowKit
set_option linter.unusedVariables false
set_option linter.unusedSimpArgs false

theorem one_zero {F : List Nat} {b : Nat} (h : F.count b = 0) (k : Nat) (hk : 0 < F.count k) : [b].count k = 0 := by
  rw [count_one]
  split
  · rename_i e; subst e; omega
  · rfl

set_option maxHeartbeats 8000000 in
set_option maxRecDepth 100000 in
/-- set on a map that has no root yet. -/
theorem set44_nil (tb : Nat) (key : Str) (vv : KR) (w : World) (htb : Blk w tb 61 [.pointer none, .int .i64 0]) :
    Calls Try.prog 44 #[ptr tb, strV key, aggV vv] w fun e w' => e = .returned (.tuple #[]) ∧ ∃ ft', MapAt w' tb (putL key vv []) ft' ∧ MapTurns w w' tb [] ft' := by
  obtain ⟨vs, ve, vt, vo⟩ := vv
  obtain ⟨q0, q1, qf0, qf1⟩ := htb.two
  have hlt := htb.lt
  have HB : Hid (Blk w tb 61 [.pointer none, .int .i64 0]) := htb
  clear htb
  go_enter Try.func44, Try.ntmps44
  go_wp2
  obtain ⟨W1, hW1⟩ : ∃ W1, W1 = (((w.setCell ⟨tb, 0, none⟩ (ptr (w.heap.size + 1))).alloc (.cells #[strV vs, strV ve, .bool vt, .bool vo] 38)).alloc (.cells #[.slice none 0 0, .slice none 0 0] 65)) := ⟨_, rfl⟩
  have hbs : Blk (w.setCell ⟨tb, 0, none⟩ (ptr (w.heap.size + 1))) tb 61 [ptr (w.heap.size + 1), .int .i64 0] := HB.out.set 0 _
  have hs1 : (w.setCell ⟨tb, 0, none⟩ (ptr (w.heap.size + 1))).heap.size = w.heap.size := by simp
  have hu1 : Upd w W1 [tb] := by
    rw [hW1]
    exact (Upd.setCell w tb 0 _ HB.out [tb] (by simp)).trans ((Upd.alloc _ _ []).trans (Upd.alloc _ _ []) (fun _ _ h => h)) (fun _ _ _ => by simp)
  have hb1 : Blk W1 tb 61 [ptr (w.heap.size + 1), .int .i64 0] := by rw [hW1]; exact (hbs.upd (Upd.alloc _ _ []) (by simp)).upd (Upd.alloc _ _ []) (by simp)
  have hg1 : Blk W1 (w.heap.size + 1) 65 [.slice none 0 0, .slice none 0 0] := by
    have := blk_new ((w.setCell ⟨tb, 0, none⟩ (ptr (w.heap.size + 1))).alloc (.cells #[strV vs, strV ve, .bool vt, .bool vo] 38)) [.slice none 0 0, .slice none 0 0] 65
    rw [size_alloc', hs1] at this
    rw [hW1]; exact this
  have hbv1 : Blk W1 w.heap.size 38 [strV vs, strV ve, .bool vt, .bool vo] := by
    have := blk_new (w.setCell ⟨tb, 0, none⟩ (ptr (w.heap.size + 1))) [strV vs, strV ve, .bool vt, .bool vo] 38
    rw [hs1] at this
    rw [hW1]; exact this.upd (Upd.alloc _ _ []) (by simp)
  obtain ⟨t, ht⟩ : ∃ t : Kid, t = ⟨w.heap.size + 1, [], foot (w.heap.size + 1) (.slice none 0 0) (.slice none 0 0) []⟩ := ⟨_, rfl⟩
  have hct : ∀ k, t.ft.count k = if w.heap.size + 1 = k then 1 else 0 := fun k => by
    rw [ht]
    show (foot _ _ _ _).count k = _
    rw [foot_count]
    simp [ownB, Value.ownBlock]
  have RD : Ready w W1 tb [] [] 0 0 t := by
    refine ⟨hu1, fun k => ⟨fun hk => ?_, fun hk => ?_⟩, by rw [ht]; exact hb1, tree_iff.2 ⟨.slice none 0 0, .slice none 0 0, [], [], by rw [ht]; exact hg1, World.ownsRow_nil _ _ _ _, World.ownsRow_nil _ _ _ _, Nat.le_refl _, fun _ => ⟨rfl, rfl⟩, fun h => by omega, fun x hx => by simp at hx, by rw [ht]; rfl, by rw [ht]⟩, fun h => by omega, by rw [ht], List.Pairwise.nil, fun k => ?_, ?_, HB.out.lt⟩
    · rw [hct, if_neg (by omega)]; omega
    · rw [hct]; split <;> omega
    · rw [hct]; split <;> omega
    · rw [hct, if_neg (by omega)]
  have htg : t.g = w.heap.size + 1 := by rw [ht]
  have Y := set65 0 0 t key (vs, ve, vt, vo) W1.drew (tree_upd (Upd.drew W1 []) RD.tree (fun _ _ => by simp)) (by rw [RD.hfl]; exact RD.asc) RD.sep (by rw [RD.hfl]; simp)
  rw [htg] at Y
  have HRD : Hid (Ready w W1.drew tb [] [] 0 0 t) := ⟨RD.upd.trans (Upd.drew W1 []) (fun _ _ _ => by simp), RD.fresh, RD.blk, tree_upd (Upd.drew W1 []) RD.tree (fun _ _ => by simp), RD.hlo, RD.hfl, RD.asc, RD.sep, RD.own, RD.tbl⟩
  have HTG : Hid (t.g = w.heap.size + 1) := htg
  have hlt1 : tb < w.heap.size + 1 := by omega
  clear hbs hs1 hu1 hct RD ht htg
  rw [← hW1]
  obtain ⟨q0, q1, qf0, qf1⟩ := hb1.two
  obtain ⟨b0, b1, b2, b3, -⟩ := hbv1.four'
  clear hW1 hb1 hg1 hbv1
  go_region_with (first | (go_at_call 65; refine Y.mono ?_; rintro e w2 ⟨b, rfl, t', hR⟩))

  all_goals (
    obtain ⟨b2, hRD⟩ : ∃ b2, b2 = b := ⟨b, rfl⟩
    have RD := HRD.out
    have hbl : Blk w2 tb 61 [ptr t.g, .int .i64 0] := RD.blk.upd hR.turns.upd RD.own
    obtain ⟨q0, q1, qf0, qf1⟩ := hbl.two
    have HR : Hid (SetOK _ w2 _ _ _ t' key (vs, ve, vt, vo) b) := hR
    clear hR hbl RD hRD
    cases b with
    | true =>
      go_wp2
      first | (refine bodyPost_ret (results_none rfl _ _ _) rfl ?_) | (refine bodyPost_end (results_none rfl _ _ _) rfl ?_)
      exact ⟨rfl, HRD.out.done_new HR.out⟩
    | false =>
      go_wp2
      first | (refine bodyPost_ret (results_none rfl _ _ _) rfl ?_) | (refine bodyPost_end (results_none rfl _ _ _) rfl ?_)
      exact ⟨rfl, HRD.out.done_old HR.out⟩)

set_option maxHeartbeats 8000000 in
set_option maxRecDepth 100000 in
/-- set on a map whose root is full. -/
theorem set44_full (tb : Nat) (key : Str) (vv : KR) (w : World) (fl : List Item) (ft : List Nat) (h : Nat) (t : Kid) (v c : Value) (its : List Item) (ks : List Kid) (H : MapAt w tb fl ft) (hn : fl.length ≤ 40000) (htb : Blk w tb 61 [ptr t.g, .int .i64 fl.length])
    (N : NT w (Below1 w h) h 0 t v c its ks) (hfl : t.fl = fl) (hft : t.ft = ft) (h31 : its.length = 31) :
    Calls Try.prog 44 #[ptr tb, strV key, aggV vv] w fun e w' => e = .returned (.tuple #[]) ∧ ∃ ft', MapAt w' tb (putL key vv fl) ft' ∧ MapTurns w w' tb ft ft' := by
  obtain ⟨vs, ve, vt, vo⟩ := vv
  obtain ⟨W, hW⟩ : ∃ W, W = w.alloc (.cells #[strV vs, strV ve, .bool vt, .bool vo] 38) := ⟨_, rfl⟩
  have hu : Upd w W [] := by rw [hW]; exact Upd.alloc w _ _
  have hbv : Blk W w.heap.size 38 [strV vs, strV ve, .bool vt, .bool vo] := by rw [hW]; exact blk_new w _ _
  have N1 := nt_upd0 N hu
  have hst : Sep t := fun k => by rw [hft]; exact H.sep k
  have X := split64 h 0 t v c its ks W N1 h31 hst
  obtain ⟨a, cap, hv⟩ := owns_slice (owns_cast N.row h31 rfl)
  subst hv
  obtain ⟨q0, q1, qf0, qf1⟩ := (htb.upd hu (by simp)).two
  obtain ⟨g0, g1, -, -⟩ := N1.blk.two
  have HH : Hid (MapAt w tb fl ft ∧ Blk w tb 61 [ptr t.g, .int .i64 fl.length] ∧ Upd w W [] ∧ Blk W w.heap.size 38 [strV vs, strV ve, .bool vt, .bool vo] ∧ t.fl = fl ∧ t.ft = ft ∧ Tree w h 0 t) := ⟨H, htb, hu, hbv, hfl, hft, tree_iff.2 ⟨_, _, _, _, N⟩⟩
  clear H htb hu hbv hfl hft N N1 h31
  subst hW
  go_enter Try.func44, Try.ntmps44
  go_wp2_with (go_at_call 64; refine X.mono ?_; rintro e w2 ⟨m, l, r, rfl, H2⟩; revert H2)
  intro H2
  obtain ⟨H, htb, hu, hbv, hfl, hft, HT⟩ := HH.out
  have hlt := htb.lt
  have hsz : w.heap.size < w2.heap.size := by have := H2.upd.size; have := hbv.lt; omega
  have htb2 := (htb.upd hu (by simp)).upd H2.upd (by rw [hft]; exact H.own)
  obtain ⟨p0, p1, pf0, pf1⟩ := htb2.two
  obtain ⟨mk, ms, me, mt, mo⟩ := m
  have hlt2 : tb < w2.heap.size := htb2.lt
  have hA1 : tb < w2.heap.size + 1 := by omega
  have hA2 : tb < w2.heap.size + 2 := by omega
  have hA3 : tb < w2.heap.size + 3 := by omega
  have hA4 : ¬ tb = w2.heap.size := by omega
  have hA5 : ¬ tb = w2.heap.size + 1 := by omega
  have hA6 : ¬ tb = w2.heap.size + 2 := by omega
  have hA7 : ¬ tb = w2.heap.size + 3 := by omega
  have hB0 : w.heap.size < w2.heap.size := hsz
  have hB1 : w.heap.size < w2.heap.size + 1 := by omega
  have hB2 : w.heap.size < w2.heap.size + 2 := by omega
  have hB3 : w.heap.size < w2.heap.size + 3 := by omega
  have hbv2 := hbv.upd H2.upd (tree_lt HT _ (Nat.le_refl _))
  obtain ⟨b0, b1, b2, b3, -⟩ := hbv2.four'
  have HM2 : Hid (Halves (w.alloc (.cells #[strV vs, strV ve, .bool vt, .bool vo] 38)) w2 h t (mk, ms, me, mt, mo) l r ∧ Blk w2 tb 61 [ptr t.g, .int .i64 fl.length]) := ⟨H2, htb2⟩
  clear H htb hu hbv hfl hft HT H2 htb2 X hbv2 q0 q1 qf0 qf1 g0 g1
  go_wp2
  obtain ⟨H, htb, hu, hbv, hfl, hft, HT⟩ := HH.out
  obtain ⟨H2, htb2⟩ := HM2.out
  obtain ⟨z, hz⟩ : ∃ z, z = w2.heap.size := ⟨_, rfl⟩
  obtain ⟨Ws, hWs⟩ : ∃ Ws, Ws = w2.setCell ⟨tb, 0, none⟩ (ptr (w2.heap.size + 1 + 1 + 1)) := ⟨_, rfl⟩
  have hzs : Ws.heap.size = z := by rw [hWs, hz]; simp
  have hbs : Blk Ws tb 61 [ptr (z + 1 + 1 + 1), .int .i64 fl.length] := by rw [hWs, hz]; exact htb2.set 0 _
  have hus : Upd w2 Ws [tb] := by rw [hWs]; exact Upd.setCell w2 tb 0 _ htb2 [tb] (by simp)
  obtain ⟨W1, hW1⟩ : ∃ W1, W1 = (((Ws.alloc (.cells #[strV mk, strV ms, strV me, .bool mt, .bool mo] 105)).alloc (.cells #[strV mk, strV ms, strV me, .bool mt, .bool mo] 105)).alloc (.cells #[ptr t.g, ptr r.g] 59)).alloc (.cells #[.slice (some ⟨w2.heap.size + 1, 0, none⟩) 1 1, .slice (some ⟨w2.heap.size + 1 + 1, 0, none⟩) 2 2] 65) := ⟨_, rfl⟩
  have al : ∀ (x : World) (o : Obj), Upd x (x.alloc o) [] := fun x o => Upd.alloc x o []
  have hu1 : Upd Ws W1 [] := by rw [hW1]; exact (al _ _).trans ((al _ _).trans ((al _ _).trans (al _ _) (fun _ _ h => h)) (fun _ _ h => h)) (fun _ _ h => h)
  have hi1 : Blk W1 (z + 1) 105 [strV mk, strV ms, strV me, .bool mt, .bool mo] := by
    have := blk_new (Ws.alloc (.cells #[strV mk, strV ms, strV me, .bool mt, .bool mo] 105)) [strV mk, strV ms, strV me, .bool mt, .bool mo] 105
    rw [size_alloc', hzs] at this
    rw [hW1]; exact (this.upd (al _ _) (by simp)).upd (al _ _) (by simp)
  have hk1 : Blk W1 (z + 1 + 1) 59 [ptr t.g, ptr r.g] := by
    have := blk_new ((Ws.alloc (.cells #[strV mk, strV ms, strV me, .bool mt, .bool mo] 105)).alloc (.cells #[strV mk, strV ms, strV me, .bool mt, .bool mo] 105)) [ptr t.g, ptr r.g] 59
    rw [size_alloc', size_alloc', hzs] at this
    rw [hW1]; exact this.upd (al _ _) (by simp)
  have hg1 : Blk W1 (z + 1 + 1 + 1) 65 [.slice (some ⟨z + 1, 0, none⟩) 1 1, .slice (some ⟨z + 1 + 1, 0, none⟩) 2 2] := by
    have := blk_new (((Ws.alloc (.cells #[strV mk, strV ms, strV me, .bool mt, .bool mo] 105)).alloc (.cells #[strV mk, strV ms, strV me, .bool mt, .bool mo] 105)).alloc (.cells #[ptr t.g, ptr r.g] 59)) [.slice (some ⟨z + 1, 0, none⟩) 1 1, .slice (some ⟨z + 1 + 1, 0, none⟩) 2 2] 65
    rw [size_alloc', size_alloc', size_alloc', hzs] at this
    rw [hW1, ← hz]; exact this
  have hb1 := hbs.upd hu1 (by simp)
  have hbv1 := ((hbv.upd H2.upd (tree_lt HT _ (Nat.le_refl _))).upd hus (by rw [count_one, if_neg (by omega)])).upd hu1 (by simp)
  have hlr : l.ft.count tb = 0 ∧ r.ft.count tb = 0 := by
    have h1 := (H2.fresh tb).1 (htb.upd hu (by simp)).lt
    rw [List.count_append, hft] at h1
    have := H.own
    omega
  have hus1 : Upd w2 W1 [tb] := hus.trans hu1 (fun _ _ _ => by simp)
  have tl : Tree W1 h 15 l := tree_upd hus1 H2.left (one_zero hlr.1)
  have tr : Tree W1 h 15 r := tree_upd hus1 H2.right (one_zero hlr.2)
  obtain ⟨t1, ht1⟩ : ∃ t1 : Kid, t1 = ⟨z + 1 + 1 + 1, flat [(mk, ms, me, mt, mo)] [l, r], foot (z + 1 + 1 + 1) (.slice (some ⟨z + 1, 0, none⟩) 1 1) (.slice (some ⟨z + 1 + 1, 0, none⟩) 2 2) [l, r]⟩ := ⟨_, rfl⟩
  have hct : ∀ k, t1.ft.count k = (if z + 1 + 1 + 1 = k then 1 else 0) + (if z + 1 = k then 1 else 0) + (if z + 1 + 1 = k then 1 else 0) + (l.ft.count k + r.ft.count k) := fun k => by
    rw [ht1]
    show (foot _ _ _ _).count k = _
    rw [foot_count, show ownB (.slice (some ⟨z + 1, 0, none⟩) 1 1) = [z + 1] from rfl, show ownB (.slice (some ⟨z + 1 + 1, 0, none⟩) 2 2) = [z + 1 + 1] from rfl, count_one, count_one]
    simp
  have hfr : Fresh w ft t1.ft := fun k => by
    have f1 := H2.fresh k
    rw [List.count_append, hft] at f1
    have hWz := hu.size
    have hz2 := H2.upd.size
    rw [← hz] at hz2 hsz
    have ll := tree_lt H2.left k
    have lr := tree_lt H2.right k
    rw [← hz] at ll lr
    have ft0 := H.lt k
    refine ⟨fun hk => ?_, fun hk => ?_⟩
    · rw [hct, if_neg (by omega), if_neg (by omega), if_neg (by omega)]
      have := f1.1 (by omega)
      omega
    · rw [hct]
      have h0 := ft0 hk
      rcases Nat.lt_or_ge k z with h3 | h3
      · rw [if_neg (by omega), if_neg (by omega), if_neg (by omega)]
        rcases Nat.lt_or_ge k (w.alloc (.cells #[strV vs, strV ve, .bool vt, .bool vo] 38)).heap.size with h4 | h4
        · have := f1.1 h4; omega
        · have := f1.2 h4; omega
      · have := ll h3
        have := lr h3
        split <;> split <;> split <;> omega
  have RD : Ready w W1 tb fl ft (h + 1) 1 t1 := by
    refine ⟨?_, hfr, by rw [ht1]; exact hb1, tree_iff.2 ⟨.slice (some ⟨z + 1, 0, none⟩) 1 1, .slice (some ⟨z + 1 + 1, 0, none⟩) 2 2, [(mk, ms, me, mt, mo)], [l, r], by rw [ht1]; exact hg1, ?_, ?_, Nat.le_refl _, fun h => by omega, fun _ => rfl, ?_, by rw [ht1], by rw [ht1]⟩, fun _ => rfl, ?_, H.asc, fun k => ?_, ?_, htb.lt⟩
    · refine ((hu.mono (fun _ _ _ => by simp)).trans H2.upd (fun k hk hc => ?_)).trans hus1 (fun k hk hc => ?_)
      · rw [hft]; rw [List.count_cons] at hc; omega
      · rw [List.count_cons] at hc
        rw [count_one]
        split
        · rename_i e; subst e; simp at hc
        · rfl
    · exact owns_mk (S := []) (by simpa [encI, encK] using hi1) (by simp [encI, encK]) (Nat.le_refl _) (by omega) (by simp [encI, encK])
    · exact owns_mk (S := []) (by simpa [H2.g] using hk1) (by simp) (Nat.le_refl _) (by omega) (by simp)
    · intro x hx
      simp at hx
      rcases hx with rfl | rfl
      · exact tl
      · exact tr
    · rw [ht1, ← hfl, H2.fl]
      simp [flat, mix]
    · rcases Nat.lt_or_ge k w.heap.size with h3 | h3
      · have := (hfr k).1 h3; have := H.sep k; omega
      · exact (hfr k).2 h3
    · have := (hfr tb).1 htb.lt
      have := H.own
      omega
  have htg : t1.g = z + 1 + 1 + 1 := by rw [ht1]
  have Y := set65 (h + 1) 1 t1 key (vs, ve, vt, vo) W1.drew (tree_upd (Upd.drew W1 []) RD.tree (fun _ _ => by simp)) (by rw [RD.hfl]; exact RD.asc) RD.sep (by rw [RD.hfl]; omega)
  rw [htg] at Y
  have HRD : Hid (Ready w W1.drew tb fl ft (h + 1) 1 t1) := ⟨RD.upd.trans (Upd.drew W1 []) (fun _ _ _ => by simp), RD.fresh, RD.blk, tree_upd (Upd.drew W1 []) RD.tree (fun _ _ => by simp), RD.hlo, RD.hfl, RD.asc, RD.sep, RD.own, RD.tbl⟩
  have hw1 : IntKind.i64.wrap ((fl.length : Int) + 1) = (fl.length : Int) + 1 := by rw [IntKind.wrap_i64]; omega
  rw [hWs] at hW1
  rw [← hW1]
  obtain ⟨q0, q1, qf0, qf1⟩ := hb1.two
  obtain ⟨d0, d1, d2, d3, -⟩ := hbv1.four'
  clear H htb hu hbv hfl hft HT H2 htb2 hWs hz hzs hbs hus hW1 al hu1 hi1 hk1 hg1 hb1 hbv1 hlr hus1 tl tr ht1 hct hfr RD htg HH HM2 p0 p1 pf0 pf1 b0 b1 b2 b3 hA1 hA2 hA3 hA4 hA5 hA6 hA7 hB0 hB1 hB2 hB3 hlt hlt2 hsz
  go_region_with (first | (go_at_call 65; refine Y.mono ?_; rintro e w3 ⟨b, rfl, t', hR⟩))

  all_goals (
    obtain ⟨b2, hRD⟩ : ∃ b2, b2 = b := ⟨b, rfl⟩
    have RD := HRD.out
    have hbl : Blk w3 tb 61 [ptr t1.g, .int .i64 fl.length] := RD.blk.upd hR.turns.upd RD.own
    obtain ⟨q0, q1, qf0, qf1⟩ := hbl.two
    have HR : Hid (SetOK _ w3 _ _ _ t' key (vs, ve, vt, vo) b) := hR
    clear hR hbl RD hRD
    cases b with
    | true =>
      go_wp2
      first | (refine bodyPost_ret (results_none rfl _ _ _) rfl ?_) | (refine bodyPost_end (results_none rfl _ _ _) rfl ?_)
      exact ⟨rfl, HRD.out.done_new HR.out⟩
    | false =>
      go_wp2
      first | (refine bodyPost_ret (results_none rfl _ _ _) rfl ?_) | (refine bodyPost_end (results_none rfl _ _ _) rfl ?_)
      exact ⟨rfl, HRD.out.done_old HR.out⟩)

/-- ZZBtSet. -/
theorem set44 (tb : Nat) (key : Str) (vv : KR) (w : World) (fl : List Item) (ft : List Nat) (H : MapAt w tb fl ft) (hn : fl.length ≤ 40000) :
    Calls Try.prog 44 #[ptr tb, strV key, aggV vv] w fun e w' => e = .returned (.tuple #[]) ∧ ∃ ft', MapAt w' tb (putL key vv fl) ft' ∧ MapTurns w w' tb ft ft' := by
  obtain ⟨root, hb, hr⟩ := H.root
  rcases hr with ⟨rfl, rfl, rfl⟩ | ⟨h, t, rfl, h1, h2, h3, h4⟩
  · exact set44_nil tb key vv w hb
  · obtain ⟨v, c, its, ks, N⟩ := tree_iff.1 h1
    by_cases h31 : its.length = 31
    · exact set44_full tb key vv w fl ft h t v c its ks H hn hb N h3 h4 h31
    · exact set44_plain tb key vv w fl ft h t v c its ks H hn hb N h2 h3 h4 h31
end Go.Proofs.Qxb6003818a
