import Derived.Test.Qxb6003818aBtR
import Derived.Test.Qxb6003818aBtR2
import Derived.Test.Qxb6003818aBtU5
namespace Go.Proofs.Qxb6003818a
open Go.ChangeShapes Go.WideShapes Go.ChangeAt Go.RowKit
set_option linter.unusedVariables false
set_option linter.unusedSimpArgs false

theorem delete_nil (tb : Nat) (key : Str) (w : World) (ft : List Nat) (H : MapAt w tb [] ft) (htb : Blk w tb 61 [.pointer none, .int .i64 0]) :
    Calls Try.prog 45 #[ptr tb, strV key] w fun e w' => e = .returned (.bool (hasL key [])) ∧ ∃ ft', MapAt w' tb (delL key []) ft' ∧ MapTurns w w' tb ft ft' := by
  obtain ⟨q0, q1, -, -⟩ := htb.two
  go_enter Try.func45, Try.ntmps45
  go_wp2
  go_ret
  exact ⟨rfl, ft, H, Upd.refl _ _, fresh_same w _ H.sep⟩

/-- What stands when remove is through. -/
structure Gone (w w2 : World) (tb : Nat) (fl : List Item) (ft : List Nat) (h : Nat) (t' : Kid) (key : Str) : Prop where
  upd : Upd w w2 ft
  fresh : Fresh w ft t'.ft
  tree : Tree w2 h 0 t'
  hfl : t'.fl = delL key fl
  asc : Asc fl
  sep : Sep t'
  own : t'.ft.count tb = 0
section
variable {w w2 w3 : World} {tb h : Nat} {fl : List Item} {ft : List Nat} {t' : Kid} {key : Str} {n : Value}
theorem Gone.settle (G : Gone w w2 tb fl ft h t' key) (hu : Upd w2 w3 [tb]) (hb : Blk w3 tb 61 [ptr t'.g, n]) (hn : n = .int .i64 (delL key fl).length) (h1 : 0 < h → Tree w2 h 1 t') :
    ∃ ft', MapAt w3 tb (delL key fl) ft' ∧ MapTurns w w3 tb ft ft' := by
  subst hn
  have htr : ∀ q, Tree w2 h q t' → Tree w3 h q t' := fun q hq => tree_upd hu hq (fun k hk => by
    rw [count_one]
    split
    · rename_i e; subst e; have := G.own; omega
    · rfl)
  refine ⟨t'.ft, ⟨⟨ptr t'.g, hb, .inr ⟨h, t', rfl, htr 0 G.tree, fun h0 => htr 1 (h1 h0), G.hfl, rfl⟩⟩, asc_del G.asc, G.sep, G.own⟩, ?_, G.fresh⟩
  refine (G.upd.mono (fun k _ hc => ?_)).trans hu (fun k hk hc => ?_)
  · rw [List.count_cons] at hc; omega
  · rw [List.count_cons] at hc
    rw [count_one]
    split
    · rename_i e; subst e; simp at hc
    · rfl
theorem Gone.fin {w4 : World} {n : Int} (G : Gone w w2 tb fl ft h t' key) (hu : Upd w2 w3 [tb]) (hb : Blk w3 tb 61 [ptr t'.g, .int .i64 n]) (hn : n = (delL key fl).length) (h1 : 0 < h → Tree w2 h 1 t') (hu2 : Upd w3 w4 []) :
    ∃ ft', MapAt w4 tb (delL key fl) ft' ∧ MapTurns w w4 tb ft ft' := by
  obtain ⟨ft', m1, m2⟩ := G.settle hu hb (by rw [hn]) h1
  exact ⟨ft', m1.upd0 hu2, m2.upd.trans hu2 (fun _ _ _ => by simp), m2.fresh⟩
/-- A root without items gives way to its only child. -/
theorem Gone.down {v c : Value} {ks : List Kid} (G : Gone w w2 tb fl ft (h + 1) t' key) (N : NT w2 (Below1 w2 (h + 1)) (h + 1) 0 t' v c [] ks) : ∃ k, ks = [k] ∧ Gone w w2 tb fl ft h k key ∧ Tree w2 h 15 k := by
  have h1 := N.inner (by omega)
  match ks, h1 with
  | [k], _ =>
    have hk : Tree w2 h 15 k := N.kids k (by simp)
    have hc : ∀ q, k.ft.count q ≤ t'.ft.count q := fun q => by rw [nt_count N]; simp
    refine ⟨k, rfl, ⟨G.upd, fun q => ⟨fun hq => ?_, fun hq => ?_⟩, tree_lo hk (Nat.zero_le _), ?_, G.asc, fun q => ?_, ?_⟩, hk⟩
    · have := (G.fresh q).1 hq; have := hc q; omega
    · have := (G.fresh q).2 hq; have := hc q; omega
    · rw [← G.hfl, N.fl]; simp [flat, mix]
    · have := G.sep q; have := hc q; omega
    · have := G.own; have := hc tb; omega
end

set_option maxHeartbeats 8000000 in
set_option maxRecDepth 100000 in
theorem delete45 (tb : Nat) (key : Str) (w : World) (fl : List Item) (ft : List Nat) (H : MapAt w tb fl ft) (hn : fl.length ≤ 40000) :
    Calls Try.prog 45 #[ptr tb, strV key] w fun e w' => e = .returned (.bool (hasL key fl)) ∧ ∃ ft', MapAt w' tb (delL key fl) ft' ∧ MapTurns w w' tb ft ft' := by
  obtain ⟨root, htb, hr⟩ := H.root
  rcases hr with ⟨rfl, rfl, rfl⟩ | ⟨h, t, rfl, h1, h2, h3, h4⟩
  · exact delete_nil tb key w [] H htb
  obtain ⟨lo, hlo, HT⟩ : ∃ lo, (0 < h → 1 ≤ lo) ∧ Tree w h lo t := by
    rcases Nat.eq_zero_or_pos h with h0 | h0
    · exact ⟨0, fun h2 => by omega, h1⟩
    · exact ⟨1, fun _ => Nat.le_refl _, h2 h0⟩
  have hst : Sep t := fun k => by rw [h4]; exact H.sep k
  have X := remove66 h lo t key false w HT (by rw [h3]; exact H.asc) hst (by rw [h3]; omega) hlo (fun h => by cases h)
  obtain ⟨q0, q1, -, -⟩ := htb.two
  have HH : Hid (MapAt w tb fl ft ∧ Blk w tb 61 [ptr t.g, .int .i64 fl.length] ∧ t.fl = fl ∧ t.ft = ft) := ⟨H, htb, h3, h4⟩
  clear H htb h1 h2 h3 h4 hst HT hlo
  go_enter Try.func45, Try.ntmps45
  go_wp2_with (go_at_call 66; refine X.mono ?_; rintro e w2 ⟨it, b, rfl, t', hR⟩; revert hR)
  intro hR
  obtain ⟨H, htb, h3, h4⟩ := HH.out
  obtain ⟨r1, r2⟩ := hR.del rfl
  rw [h3] at r1 r2
  have G : Gone w w2 tb fl ft h t' key := by
    refine ⟨by rw [← h4]; exact hR.turns.upd, by rw [← h4]; exact hR.turns.fresh, tree_lo hR.tree (Nat.zero_le _), r1, H.asc, hR.turns.sep (fun k => by rw [h4]; exact H.sep k), ?_⟩
    have := (hR.turns.fresh tb).1 htb.lt
    rw [h4] at this
    have := H.own
    omega
  have htb2 : Blk w2 tb 61 [ptr t'.g, .int .i64 fl.length] := by rw [hR.turns.g]; exact htb.upd hR.turns.upd (by rw [h4]; exact H.own)
  have hgg : t'.g = t.g := hR.turns.g
  have hasc := H.asc
  obtain ⟨ik, is, ie, it1, io⟩ := it
  have hul : Upd w2 (w2.alloc (.cells #[strV ik, strV is, strV ie, .bool it1, .bool io] 105)) [] := Upd.alloc _ _ _
  obtain ⟨v, c, its, ks, N⟩ := tree_iff.1 G.tree
  obtain ⟨p0, p1, pf0, pf1⟩ := htb2.two
  obtain ⟨g0, g1, -, -⟩ := N.blk.two
  have htl := htb2.lt
  have hgl := N.blk.lt
  have hlen : hasL key fl = true → ((fl.length : Int) - 1) = ((delL key fl).length : Int) := fun hh => by have := len_del hasc hh; omega
  have hlen0 : hasL key fl = false → (fl.length : Int) = ((delL key fl).length : Int) := fun hh => by rw [del_none hh]
  have hw1 : hasL key fl = true → IntKind.i64.wrap ((fl.length : Int) - 1) = (fl.length : Int) - 1 := fun hh => by have := len_del hasc hh; rw [IntKind.wrap_i64]; omega
  obtain ⟨n, hn'⟩ : ∃ n, n = its.length := ⟨_, rfl⟩
  obtain ⟨a, cap, hv⟩ := owns_slice (owns_cast N.row hn'.symm rfl)
  subst hv
  have HG : Hid (Gone w w2 tb fl ft h t' key ∧ Blk w2 tb 61 [ptr t'.g, .int .i64 fl.length] ∧ NT w2 (Below1 w2 h) h 0 t' (.slice a n cap) c its ks) := ⟨G, htb2, N⟩
  rw [hgg] at p0 g0 g1 hgl
  have HGG : Hid (t'.g = t.g) := hgg
  have HLL : Hid ((hasL key fl = true → ((fl.length : Int) - 1) = ((delL key fl).length : Int)) ∧ (hasL key fl = false → (fl.length : Int) = ((delL key fl).length : Int))) := ⟨hlen, hlen0⟩
  have done1 : Hid ((0 < h → 1 ≤ n) → hasL key fl = true → ∃ ft', MapAt ((w2.setCell ⟨tb, 1, none⟩ (.int .i64 ((fl.length : Int) - 1))).alloc (.cells #[strV ik, strV is, strV ie, .bool it1, .bool io] 105)) tb (delL key fl) ft' ∧ MapTurns w ((w2.setCell ⟨tb, 1, none⟩ (.int .i64 ((fl.length : Int) - 1))).alloc (.cells #[strV ik, strV is, strV ie, .bool it1, .bool io] 105)) tb ft ft') := fun h0 hh =>
    G.fin (Upd.setCell w2 tb 1 _ htb2 [tb] (by simp)) (htb2.set 1 _) (hlen hh) (fun hp => tree_iff.2 ⟨_, _, _, _, N.blk, N.row, N.krow, by rw [← hn']; exact h0 hp, N.leaf, N.inner, N.kids, N.fl, N.ft⟩) (Upd.alloc _ _ _)
  have done0 : Hid ((0 < h → 1 ≤ n) → hasL key fl = false → ∃ ft', MapAt (w2.alloc (.cells #[strV ik, strV is, strV ie, .bool it1, .bool io] 105)) tb (delL key fl) ft' ∧ MapTurns w (w2.alloc (.cells #[strV ik, strV is, strV ie, .bool it1, .bool io] 105)) tb ft ft') := fun h0 hh =>
    G.fin (Upd.refl w2 [tb]) htb2 (hlen0 hh) (fun hp => tree_iff.2 ⟨_, _, _, _, N.blk, N.row, N.krow, by rw [← hn']; exact h0 hp, N.leaf, N.inner, N.kids, N.fl, N.ft⟩) (Upd.alloc _ _ _)
  have HRB : Hid (b = hasL key fl) := r2
  have hngt : ¬ tb = w2.heap.size := by omega
  clear hul H htb h3 h4 r1 r2 G htb2 hgg hasc X hR hlen hlen0 HH q0 q1
  by_cases hn0 : n = 0
  · subst hn0
    have hits : its = [] := List.eq_nil_of_length_eq_zero hn'.symm
    subst hits
    cases h with
    | zero =>
      obtain ⟨hks, hc⟩ := N.leaf rfl
      subst hks hc
      have hnil := neq63 none 0 0 0 0
      simp only [Option.isSome_none] at hnil
      clear N hn'
      cases b with
      | true =>
        have hb := HRB.out.symm
        have hw := hw1 hb
        clear hw1
        go_wp2
        go_ret
        exact ⟨by rw [hb]; rfl, done1.out (fun h => by omega) hb⟩
      | false =>
        have hb := HRB.out.symm
        clear hw1
        go_wp2
        go_ret
        exact ⟨by rw [hb]; rfl, done0.out (fun h => by omega) hb⟩
    | succ h =>
      obtain ⟨k, hks, Gk, Tk⟩ := HG.out.1.down HG.out.2.2
      subst hks
      obtain ⟨rc, capc, hc, -, -, -, hrcl, k0, -⟩ := row_kidN N.krow rfl (i := 0) (by simp)
      subst hc
      simp only [List.getElem_cons_zero] at k0
      have hnil := neq63 (some ⟨rc, 0, none⟩) 1 capc 0 0
      simp only [Option.isSome_some] at hnil
      have HK : Hid (Gone w w2 tb fl ft h k key ∧ Tree w2 h 15 k) := ⟨Gk, Tk⟩
      have hrc0 : ¬ rc = w2.heap.size := by omega
      clear N hn' Gk Tk
      simp only [List.length_cons, List.length_nil, Nat.zero_add] at g1
      cases b with
      | true =>
        have hb := HRB.out.symm
        have hw := hw1 hb
        clear hw1
        go_wp2
        go_ret
        have b2 := HG.out.2.1.set 0 (ptr k.g)
        exact ⟨by rw [hb]; rfl, HK.out.1.fin ((Upd.setCell w2 tb 0 _ HG.out.2.1 [tb] (by simp)).trans (Upd.setCell _ tb 1 _ b2 [tb] (by simp)) (fun _ _ h => h)) (b2.set 1 _) (HLL.out.1 hb) (fun _ => tree_lo HK.out.2 (by omega)) (Upd.alloc _ _ _)⟩
      | false =>
        have hb := HRB.out.symm
        clear hw1
        go_wp2
        go_ret
        exact ⟨by rw [hb]; rfl, HK.out.1.fin (Upd.setCell w2 tb 0 _ HG.out.2.1 [tb] (by simp)) (HG.out.2.1.set 0 _) (HLL.out.2 hb) (fun _ => tree_lo HK.out.2 (by omega)) (Upd.alloc _ _ _)⟩
  · have hz : ((n : Int) == 0) = false := by rw [beq_eq_false_iff_ne]; omega
    clear N hn'
    cases b with
    | true =>
      have hb := HRB.out.symm
      have hw := hw1 hb
      clear hw1
      go_wp2
      go_ret
      exact ⟨by rw [hb]; rfl, done1.out (fun _ => by omega) hb⟩
    | false =>
      have hb := HRB.out.symm
      clear hw1
      go_wp2
      go_ret
      exact ⟨by rw [hb]; rfl, done0.out (fun _ => by omega) hb⟩

set_option maxHeartbeats 4000000 in
theorem zzdelete (tb : Nat) (key : Str) (w : World) (fl : List Item) (ft : List Nat) (H : MapAt w tb fl ft) (hn : fl.length ≤ 40000) :
    Calls Try.prog 34 #[ptr tb, strV key] w fun e w' => e = .returned (.bool (hasL key fl)) ∧ ∃ ft', MapAt w' tb (delL key fl) ft' ∧ MapTurns w w' tb ft ft' := by
  have X := delete45 tb key w fl ft H hn
  go_enter Try.func34, Try.ntmps34
  go_wp2_with (go_at_call 45; refine X.mono ?_; rintro e w2 ⟨rfl, ft', m1, m2⟩; revert m2)
  intro m2
  go_wp2
  go_ret
  exact ⟨rfl, ft', m1, m2⟩
end Go.Proofs.Qxb6003818a
