import Derived.Test.Qxb6003818aBtR
namespace Go.Proofs.Qxb6003818a
open Go.ChangeShapes Go.WideShapes Go.ChangeAt Go.RowKit
set_option linter.unusedVariables false
set_option linter.unusedSimpArgs false

theorem len_del {key : Str} {l : List Item} (ha : Asc l) (h : hasL key l = true) : (delL key l).length + 1 = l.length := by
  obtain ⟨u, hu⟩ := hasL_iff.1 h
  obtain ⟨P, Q, rfl⟩ := List.append_of_mem hu
  rw [delL_hit u (lt_of_snoc ha) (gt_of_cons (asc_app.1 ha).2.1)]
  simp
  omega
theorem del_none {key : Str} {l : List Item} (h : hasL key l = false) : delL key l = l := by
  unfold delL
  refine List.filter_eq_self.2 (fun x hx => ?_)
  have := List.any_eq_false.1 h x hx
  simpa using this
theorem len_put {key : Str} {vv : KR} {l : List Item} (ha : Asc l) : (putL key vv l).length = if hasL key l then l.length else l.length + 1 := by
  rw [(perm_put key vv l).length_eq, List.length_cons]
  cases h : hasL key l with
  | true => rw [if_pos rfl]; exact len_del ha h
  | false => rw [if_neg (by simp), del_none h]

/-- The map's root stands ready for node.set. -/
structure Ready (w W1 : World) (tb : Nat) (fl : List Item) (ft : List Nat) (h lo : Nat) (t : Kid) : Prop where
  upd : Upd w W1 (tb :: ft)
  fresh : Fresh w ft t.ft
  blk : Blk W1 tb 61 [ptr t.g, .int .i64 fl.length]
  tree : Tree W1 h lo t
  hlo : 0 < h → lo = 1
  hfl : t.fl = fl
  asc : Asc fl
  sep : Sep t
  own : t.ft.count tb = 0
  tbl : tb < w.heap.size
section
variable {w W1 w2 : World} {tb h lo : Nat} {fl : List Item} {ft : List Nat} {t t' : Kid} {key : Str} {vv : KR} {b : Bool}
theorem Ready.settle (R : Ready w W1 tb fl ft h lo t) (S : SetOK W1 w2 h lo t t' key vv b) {w3 : World} {n : Value} (hu : Upd w2 w3 [tb]) (hb : Blk w3 tb 61 [ptr t.g, n]) (hn : n = .int .i64 (putL key vv fl).length) :
    ∃ ft', MapAt w3 tb (putL key vv fl) ft' ∧ MapTurns w w3 tb ft ft' := by
  subst hn
  have htb : tb < W1.heap.size := R.blk.lt
  have ht : t'.ft.count tb = 0 := by have := (S.turns.fresh tb).1 htb; have := R.own; omega
  have htr : ∀ q, Tree w2 h q t' → Tree w3 h q t' := fun q hq => tree_upd hu hq (fun k hk => by
    rw [count_one]
    split
    · rename_i e; subst e; omega
    · rfl)
  refine ⟨t'.ft, ⟨⟨ptr t.g, hb, .inr ⟨h, t', by rw [S.turns.g], htr 0 (tree_lo S.tree (Nat.zero_le _)), fun h0 => ?_, by rw [S.fl, R.hfl], rfl⟩⟩, asc_put R.asc, S.turns.sep R.sep, ht⟩, ?_, ?_⟩
  · have := R.hlo h0
    subst this
    exact htr 1 S.tree
  · refine (R.upd.trans S.turns.upd (fun k hk hc => ?_)).trans hu (fun k hk hc => ?_)
    · have := (R.fresh k).1 hk
      rw [List.count_cons] at hc
      omega
    · rw [List.count_cons] at hc
      rw [count_one]
      split
      · rename_i e; subst e; simp at hc
      · rfl
  · intro k
    refine ⟨fun hk => ?_, fun hk => ?_⟩
    · have h1 := (R.fresh k).1 hk
      have h2 := (S.turns.fresh k).1 (Nat.lt_of_lt_of_le hk R.upd.size)
      omega
    · rcases Nat.lt_or_ge k W1.heap.size with h3 | h3
      · have h1 := (R.fresh k).2 hk
        have h2 := (S.turns.fresh k).1 h3
        omega
      · exact (S.turns.fresh k).2 h3
theorem Ready.done_new (R : Ready w W1 tb fl ft h lo t) (S : SetOK W1 w2 h lo t t' key vv true) : ∃ ft', MapAt (w2.setCell ⟨tb, 1, none⟩ (.int .i64 ((fl.length : Int) + 1))) tb (putL key vv fl) ft' ∧ MapTurns w (w2.setCell ⟨tb, 1, none⟩ (.int .i64 ((fl.length : Int) + 1))) tb ft ft' := by
  have hb := R.blk.upd S.turns.upd R.own
  refine R.settle S (Upd.setCell w2 tb 1 _ hb [tb] (by simp)) (hb.set 1 _) ?_
  have h1 := S.new
  rw [R.hfl] at h1
  have h2 : hasL key fl = false := by cases h : hasL key fl with | false => rfl | true => rw [h] at h1; simp at h1
  rw [len_put R.asc, h2, if_neg (by simp)]
  simp
theorem Ready.done_old (R : Ready w W1 tb fl ft h lo t) (S : SetOK W1 w2 h lo t t' key vv false) : ∃ ft', MapAt w2 tb (putL key vv fl) ft' ∧ MapTurns w w2 tb ft ft' := by
  have hb := R.blk.upd S.turns.upd R.own
  refine R.settle S (Upd.refl _ _) hb ?_
  have h1 := S.new
  rw [R.hfl] at h1
  have h2 : hasL key fl = true := by cases h : hasL key fl with | true => rfl | false => rw [h] at h1; simp at h1
  rw [len_put R.asc, h2, if_pos rfl]
end

set_option maxHeartbeats 8000000 in
set_option maxRecDepth 100000 in
/-- set on a map that has a root that is not full. -/
theorem set44_plain (tb : Nat) (key : Str) (vv : KR) (w : World) (fl : List Item) (ft : List Nat) (h : Nat) (t : Kid) (v c : Value) (its : List Item) (ks : List Kid) (H : MapAt w tb fl ft) (hn : fl.length ≤ 40000) (htb : Blk w tb 61 [ptr t.g, .int .i64 fl.length])
    (N : NT w (Below1 w h) h 0 t v c its ks) (h1 : 0 < h → Tree w h 1 t) (hfl : t.fl = fl) (hft : t.ft = ft) (h31 : its.length ≠ 31) :
    Calls Try.prog 44 #[ptr tb, strV key, aggV vv] w fun e w' => e = .returned (.tuple #[]) ∧ ∃ ft', MapAt w' tb (putL key vv fl) ft' ∧ MapTurns w w' tb ft ft' := by
  obtain ⟨vs, ve, vt, vo⟩ := vv
  obtain ⟨W, hW⟩ : ∃ W, W = w.alloc (.cells #[strV vs, strV ve, .bool vt, .bool vo] 38) := ⟨_, rfl⟩
  have hu : Upd w W [] := by rw [hW]; exact Upd.alloc w _ _
  have hbv : Blk W w.heap.size 38 [strV vs, strV ve, .bool vt, .bool vo] := by rw [hW]; exact blk_new w _ _
  obtain ⟨lo, hlo, HT⟩ : ∃ lo, (0 < h → lo = 1) ∧ Tree w h lo t := by
    rcases Nat.eq_zero_or_pos h with h0 | h0
    · exact ⟨0, fun h2 => by omega, tree_iff.2 ⟨_, _, _, _, N⟩⟩
    · exact ⟨1, fun _ => rfl, h1 h0⟩
  have RD : Ready w W tb fl ft h lo t := by
    refine ⟨hu.mono (fun _ _ _ => by simp), ?_, htb.upd hu (by simp), tree_upd hu HT (fun _ _ => by simp), hlo, hfl, H.asc, ?_, ?_, htb.lt⟩
    · rw [hft]; exact fresh_same w _ H.sep
    · intro k; rw [hft]; exact H.sep k
    · rw [hft]; exact H.own
  have Y := set65 h lo t key (vs, ve, vt, vo) W.drew (tree_upd (Upd.drew W []) RD.tree (fun _ _ => by simp)) (by rw [hfl]; exact H.asc) RD.sep (by rw [hfl]; omega)
  obtain ⟨n, hn'⟩ : ∃ n, n = its.length := ⟨_, rfl⟩
  obtain ⟨a, cap, hv⟩ := owns_slice (owns_cast N.row hn'.symm rfl)
  subst hv
  obtain ⟨q0, q1, -, -⟩ := RD.blk.two
  obtain ⟨g0, g1, -, -⟩ := (N.blk.upd hu (by simp)).two
  obtain ⟨b0, b1, b2, b3, -⟩ := hbv.four'
  have hz31 : ((n : Int) == 31) = false := by rw [beq_eq_false_iff_ne]; omega
  have hw1 : IntKind.i64.wrap ((fl.length : Int) + 1) = (fl.length : Int) + 1 := by rw [IntKind.wrap_i64]; omega
  have HRD : Hid (Ready w W.drew tb fl ft h lo t) := ⟨RD.upd.trans (Upd.drew W []) (fun _ _ _ => by simp), RD.fresh, RD.blk, tree_upd (Upd.drew W []) RD.tree (fun _ _ => by simp), RD.hlo, RD.hfl, RD.asc, RD.sep, RD.own, RD.tbl⟩
  clear hbv hu N h1 hfl hft h31 hn' RD HT htb H
  subst hW
  go_enter Try.func44, Try.ntmps44
  go_wp2
  generalize hbe : w.heap.size = bx at *
  clear hbe
  go_region_with (first | (go_at_call 65; refine Y.mono ?_; rintro e w2 ⟨b, rfl, t', hR⟩))

  all_goals (
    obtain ⟨b2, hRD⟩ : ∃ b2, b2 = b := ⟨b, rfl⟩
    have RD := HRD.out
    have hbl : Blk w2 tb 61 [ptr t.g, .int .i64 fl.length] := RD.blk.upd hR.turns.upd RD.own
    obtain ⟨q0, q1, qf0, qf1⟩ := hbl.two
    have HR : Hid (SetOK _ w2 _ _ _ t' key (vs, ve, vt, vo) b) := hR
    clear hR hbl RD hRD
    cases b with
    | true =>
      go_wp2
      first | (refine bodyPost_ret (results_none rfl _ _ _) rfl ?_) | (refine bodyPost_end (results_none rfl _ _ _) rfl ?_)
      exact ⟨rfl, HRD.out.done_new HR.out⟩
    | false =>
      go_wp2
      first | (refine bodyPost_ret (results_none rfl _ _ _) rfl ?_) | (refine bodyPost_end (results_none rfl _ _ _) rfl ?_)
      exact ⟨rfl, HRD.out.done_old HR.out⟩)
end Go.Proofs.Qxb6003818a
