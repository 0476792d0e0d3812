import Derived.Test.Qxb6003818aBtK2
namespace Go.Proofs.Qxb6003818a
open Go.ChangeShapes Go.WideShapes Go.ChangeAt Go.RowKit
set_option linter.unusedVariables false
set_option linter.unusedSimpArgs false

/-- The root's pointer and what hangs on it. -/
def Root (w : World) (root : Value) (fl : List Item) (ft : List Nat) : Prop :=
  (root = .pointer none ∧ fl = [] ∧ ft = []) ∨ ∃ h t, root = ptr t.g ∧ Tree w h 0 t ∧ (0 < h → Tree w h 1 t) ∧ t.fl = fl ∧ t.ft = ft
/-- A map at block tb: its items in order, the blocks of its tree. -/
structure MapAt (w : World) (tb : Nat) (fl : List Item) (ft : List Nat) : Prop where
  root : ∃ root, Blk w tb 61 [root, .int .i64 fl.length] ∧ Root w root fl ft
  asc : Asc fl
  sep : ∀ k, ft.count k ≤ 1
  own : ft.count tb = 0

set_option maxHeartbeats 4000000 in
set_option maxRecDepth 100000 in
theorem seek_nil (tb : Nat) (nv : Value) (key : Str) (w : World) (htb : Blk w tb 61 [.pointer none, nv]) :
    Calls Try.prog 67 #[ptr tb, strV key, .bool false] w fun e w' => ∃ x b, e = .returned (.tuple #[aggI x, .bool b]) ∧ Upd w w' [] ∧ Found key [] x b := by
  obtain ⟨W, hW⟩ : ∃ W, W = w.alloc (.cells #[.string ⟨#[]⟩, .string ⟨#[]⟩, .string ⟨#[]⟩, .bool false, .bool false] 105) := ⟨_, rfl⟩
  have hu : Upd w W [] := by rw [hW]; exact Upd.alloc w _ _
  have hbx : Blk W w.heap.size 105 [.string ⟨#[]⟩, .string ⟨#[]⟩, .string ⟨#[]⟩, .bool false, .bool false] := by rw [hW]; exact blk_new w _ _
  have htb' := htb.upd hu (by simp)
  obtain ⟨q0, q1, -, -⟩ := htb'.two
  obtain ⟨e0, e1, e2, e3, e4, f0, f1, f2, f3, f4⟩ := hbx.five
  have hU := (hu.own5 hbx (Nat.le_refl _) (.string ⟨#[]⟩) (.string ⟨#[]⟩) (.string ⟨#[]⟩) (.bool false) (.bool false))
  have HU : Hid _ := hU.1
  clear htb htb' hbx hu hU
  subst hW
  go_enter Try.func67, Try.ntmps67
  go_wp2
  refine wp_loop_once ?_
  go_wp2
  exact bodyPost_ret (v := .tuple #[aggI ([], [], [], false, false), .bool false]) (by simp [results, Try.results67, go_sem, *]) rfl ⟨([], [], [], false, false), false, rfl, Upd.alloc w _ _, ⟨fun u h => by simp at h, fun _ h => by cases h⟩⟩

theorem seek_any (tb : Nat) (key : Str) (w : World) (fl : List Item) (ft : List Nat) (H : MapAt w tb fl ft) (hn : fl.length ≤ 100000) :
    Calls Try.prog 67 #[ptr tb, strV key, .bool false] w fun e w' => ∃ x b, e = .returned (.tuple #[aggI x, .bool b]) ∧ Upd w w' [] ∧ Found key fl x b := by
  obtain ⟨root, hb, hr⟩ := H.root
  rcases hr with ⟨rfl, rfl, rfl⟩ | ⟨h, t, rfl, h1, _, h3, h4⟩
  · exact seek_nil tb _ key w hb
  · subst h3
    exact seek67 tb _ key w h t hb h1 H.asc hn

/-- What get says. -/
structure Got (key : Str) (fl : List Item) (v : KR) (b : Bool) : Prop where
  yes : ∀ u, (key, u) ∈ fl → b = true ∧ v = u
  no : (∀ u, (key, u) ∉ fl) → b = false
abbrev aggV (v : KR) : Value := .agg #[strV v.1, strV v.2.1, .bool v.2.2.1, .bool v.2.2.2]
theorem Upd.own4 {w W : World} {F : List Nat} {b : Nat} {T : TypeId} {x0 x1 x2 x3 : Value} (hu : Upd w W F) (hb : Blk W b T [x0, x1, x2, x3]) (hw : w.heap.size ≤ b) (v0 v1 v2 v3 : Value) :
    Upd w ((((W.setCell ⟨b, 0, none⟩ v0).setCell ⟨b, 1, none⟩ v1).setCell ⟨b, 2, none⟩ v2).setCell ⟨b, 3, none⟩ v3) F := by
  have b1 := hb.set 0 v0
  have b2 := b1.set 1 v1
  have b3 := b2.set 2 v2
  exact ((((hu.own hb hw v0).own b1 hw v1).own b2 hw v2).own b3 hw v3)
theorem Blk.four' {w : World} {g : Nat} {T : TypeId} {x0 x1 x2 x3 : Value} (h : Blk w g T [x0, x1, x2, x3]) :
    w.cell? ⟨g, 0, none⟩ = some x0 ∧ w.cell? ⟨g, 1, none⟩ = some x1 ∧ w.cell? ⟨g, 2, none⟩ = some x2 ∧ w.cell? ⟨g, 3, none⟩ = some x3 ∧
    w.frozen? ⟨g, 0, none⟩ = false ∧ w.frozen? ⟨g, 1, none⟩ = false ∧ w.frozen? ⟨g, 2, none⟩ = false ∧ w.frozen? ⟨g, 3, none⟩ = false :=
  ⟨h.cell (i := 0) (by simp), h.cell (i := 1) (by simp), h.cell (i := 2) (by simp), h.cell (i := 3) (by simp), h.free 0, h.free 1, h.free 2, h.free 3⟩

theorem Root.upd0 {w w' : World} {root : Value} {fl : List Item} {ft : List Nat} (hr : Root w root fl ft) (hu : Upd w w' []) : Root w' root fl ft := by
  rcases hr with h | ⟨h, t, h1, h2, h3, h4⟩
  · exact .inl h
  · exact .inr ⟨h, t, h1, tree_upd hu h2 (fun _ _ => by simp), fun hh => tree_upd hu (h3 hh) (fun _ _ => by simp), h4⟩
theorem MapAt.upd0 {w w' : World} {tb : Nat} {fl : List Item} {ft : List Nat} (H : MapAt w tb fl ft) (hu : Upd w w' []) : MapAt w' tb fl ft := by
  obtain ⟨root, hb, hr⟩ := H.root
  exact ⟨⟨root, hb.upd hu (by simp), hr.upd0 hu⟩, H.asc, H.sep, H.own⟩

set_option maxHeartbeats 4000000 in
set_option maxRecDepth 100000 in
theorem get46 (tb : Nat) (key : Str) (w : World) (fl : List Item) (ft : List Nat) (H : MapAt w tb fl ft) (hn : fl.length ≤ 100000) :
    Calls Try.prog 46 #[ptr tb, strV key] w fun e w' => ∃ v b, e = .returned (.tuple #[aggV v, .bool b]) ∧ Upd w w' [] ∧ Got key fl v b := by
  obtain ⟨W, hW⟩ : ∃ W, W = w.alloc (.cells #[.string ⟨#[]⟩, .string ⟨#[]⟩, .bool false, .bool false] 38) := ⟨_, rfl⟩
  have hu : Upd w W [] := by rw [hW]; exact Upd.alloc w _ _
  have hbx : Blk W w.heap.size 38 [.string ⟨#[]⟩, .string ⟨#[]⟩, .bool false, .bool false] := by rw [hW]; exact blk_new w _ _
  have HM : MapAt W tb fl ft := by
    obtain ⟨root, hb, hr⟩ := H.root
    refine ⟨⟨root, hb.upd hu (by simp), ?_⟩, H.asc, H.sep, H.own⟩
    rcases hr with h | ⟨h, t, h1, h2, h3, h4⟩
    · exact .inl h
    · exact .inr ⟨h, t, h1, tree_upd hu h2 (fun _ _ => by simp), fun hh => tree_upd hu (h3 hh) (fun _ _ => by simp), h4⟩
  have X := seek_any tb key W fl ft HM hn
  clear HM
  have HS : w.heap.size ≤ W.heap.size := hu.size
  have HBX : Hid (Blk _ _ _ _) := hbx
  have HW : Hid (Upd w W []) := hu
  clear hbx hu
  subst hW
  go_enter Try.func46, Try.ntmps46
  go_wp2_with (go_at_call 67; refine X.mono ?_; rintro e w1 ⟨x, b, rfl, hu1, hf⟩; revert hf)
  intro hf
  have hb1 := HBX.out.upd hu1 (by simp)
  have hu2 := HW.out.trans hu1 (fun _ _ h => h)
  have HF : Hid (Found _ _ _ _) := hf
  clear X HS hu1 hf H
  have hlt := hb1.lt
  generalize hbe : w.heap.size = bx at *
  have HBE : Hid (w.heap.size ≤ bx) := Nat.le_of_eq hbe
  clear hbe
  obtain ⟨xk, xs, xe, xt, xo⟩ := x
  have hs1 := Upd.alloc w1 (.cells #[strV xk, strV xs, strV xe, .bool xt, .bool xo] 105) []
  have hb2 := hb1.upd hs1 (by simp)
  have hb3 := blk_new w1 [strV xk, strV xs, strV xe, .bool xt, .bool xo] 105
  obtain ⟨e0, e1, e2, e3, e4, f0, f1, f2, f3, f4⟩ := hb3.five
  obtain ⟨g0, g1, g2, g3, i0, i1, i2, i3⟩ := hb1.four'
  have UZ := fun v0 v1 v2 v3 => hu2.own4 hb1 HBE.out v0 v1 v2 v3
  have HUZ : Hid (∀ v0 v1 v2 v3, Upd w ((((w1.setCell ⟨bx, 0, none⟩ v0).setCell ⟨bx, 1, none⟩ v1).setCell ⟨bx, 2, none⟩ v2).setCell ⟨bx, 3, none⟩ v3) []) := UZ
  clear UZ HW HBX hb2 hb3 hs1
  cases b with
  | false =>
    go_wp2
    exact bodyPost_ret (v := .tuple #[aggV ([], [], false, false), .bool false]) (by simp [results, Try.results46, go_sem, *]) rfl ⟨([], [], false, false), false, rfl, ((HUZ.out _ _ _ _).trans (Upd.alloc _ _ _) (fun _ _ h => h)).trans (Upd.alloc _ _ _) (fun _ _ h => h), ⟨fun u hu' => absurd (HF.out.yes u hu').1 (by simp), fun _ => rfl⟩⟩
  | true =>
    by_cases hk : xk = key
    · subst hk
      go_wp2
      have HG : Got xk fl (xs, xe, xt, xo) true := ⟨fun u hu' => ⟨rfl, by have := (HF.out.yes u hu').2; cases this; rfl⟩, fun hno => absurd rfl (HF.out.no hno rfl)⟩
      exact bodyPost_ret (v := .tuple #[aggV (xs, xe, xt, xo), .bool true]) (by simp [results, Try.results46, go_sem, *]) rfl ⟨(xs, xe, xt, xo), true, rfl, ((HUZ.out _ _ _ _).trans (Upd.alloc _ _ _) (fun _ _ h => h)), HG⟩
    · have hk2 : (!xk == key) = true := by simpa using hk
      go_wp2
      have HG : Got key fl ([], [], false, false) false := ⟨fun u hu' => by have := (HF.out.yes u hu').2; cases this; exact absurd rfl hk, fun _ => rfl⟩
      exact bodyPost_ret (v := .tuple #[aggV ([], [], false, false), .bool false]) (by simp [results, Try.results46, go_sem, *]) rfl ⟨([], [], false, false), false, rfl, ((HUZ.out _ _ _ _).trans (Upd.alloc _ _ _) (fun _ _ h => h)).trans (Upd.alloc _ _ _) (fun _ _ h => h), HG⟩

set_option maxHeartbeats 4000000 in
theorem zzget (tb : Nat) (key : Str) (w : World) (fl : List Item) (ft : List Nat) (H : MapAt w tb fl ft) (hn : fl.length ≤ 100000) :
    Calls Try.prog 35 #[ptr tb, strV key] w fun e w' => ∃ v b, e = .returned (.tuple #[aggV v, .bool b]) ∧ Upd w w' [] ∧ Got key fl v b := by
  obtain ⟨W, hW⟩ : ∃ W, W = w.alloc (.cells #[.string ⟨#[]⟩, .string ⟨#[]⟩, .bool false, .bool false] 38) := ⟨_, rfl⟩
  have hu : Upd w W [] := by rw [hW]; exact Upd.alloc w _ _
  have hbx : Blk W w.heap.size 38 [.string ⟨#[]⟩, .string ⟨#[]⟩, .bool false, .bool false] := by rw [hW]; exact blk_new w _ _
  have X := get46 tb key W fl ft (H.upd0 hu) hn
  have HBX : Hid (Blk _ _ _ _) := hbx
  have HW : Hid (Upd w W []) := hu
  clear hbx hu
  subst hW
  go_enter Try.func35, Try.ntmps35
  go_wp2_with (go_at_call 46; refine X.mono ?_; rintro e w1 ⟨v, b, rfl, hu1, hf⟩; revert hf)
  intro hf
  have hb1 := HBX.out.upd hu1 (by simp)
  have hu2 := HW.out.trans hu1 (fun _ _ h => h)
  have HF : Hid (Got _ _ _ _) := hf
  clear X hu1 hf H
  have HUZ : Hid (∀ v0 v1 v2 v3, Upd w ((((w1.setCell ⟨w.heap.size, 0, none⟩ v0).setCell ⟨w.heap.size, 1, none⟩ v1).setCell ⟨w.heap.size, 2, none⟩ v2).setCell ⟨w.heap.size, 3, none⟩ v3) []) := fun v0 v1 v2 v3 => hu2.own4 hb1 (Nat.le_refl _) v0 v1 v2 v3
  generalize w.heap.size = bx at *
  obtain ⟨vs, ve, vt, vo⟩ := v
  obtain ⟨g0, g1, g2, g3, i0, i1, i2, i3⟩ := hb1.four'
  go_wp2
  exact bodyPost_ret (v := .tuple #[aggV (vs, ve, vt, vo), .bool b]) (by simp [results, Try.results35, go_sem, *]) rfl ⟨(vs, ve, vt, vo), b, rfl, HUZ.out _ _ _ _, HF.out⟩

theorem zzlen (tb : Nat) (w : World) (fl : List Item) (ft : List Nat) (H : MapAt w tb fl ft) :
    Calls Try.prog 36 #[ptr tb] w fun e w' => e = .returned (.int .i64 fl.length) ∧ w' = w := by
  obtain ⟨root, hb, _⟩ := H.root
  obtain ⟨q0, q1, -, -⟩ := hb.two
  go_enter Try.func36, Try.ntmps36
  go_wp2
  go_ret
  exact ⟨rfl, rfl⟩
end Go.Proofs.Qxb6003818a
