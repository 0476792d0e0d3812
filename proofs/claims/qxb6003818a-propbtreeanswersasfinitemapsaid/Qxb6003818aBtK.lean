import Derived.Test.Qxb6003818aBtQ
namespace Go.Proofs.Qxb6003818a
open Go.ChangeShapes Go.WideShapes Go.ChangeAt Go.RowKit
set_option linter.unusedVariables false
set_option linter.unusedSimpArgs false

/-- A store into a block of one's own. -/
theorem Upd.own {w W : World} {F : List Nat} {b i : Nat} {T : TypeId} {l : List Value} (hu : Upd w W F) (hb : Blk W b T l) (hw : w.heap.size ≤ b) (v : Value) : Upd w (W.setCell ⟨b, i, none⟩ v) F :=
  hu.trans (Upd.setCell W b i v hb [b] (by simp)) (fun k hk _ => List.count_eq_zero.2 (by simp; omega))
/-- A value of five cells stored into a block of one's own. -/
theorem Upd.own5 {w W : World} {F : List Nat} {b : Nat} {T : TypeId} {x0 x1 x2 x3 x4 : Value} (hu : Upd w W F) (hb : Blk W b T [x0, x1, x2, x3, x4]) (hw : w.heap.size ≤ b) (v0 v1 v2 v3 v4 : Value) :
    Upd w (((((W.setCell ⟨b, 0, none⟩ v0).setCell ⟨b, 1, none⟩ v1).setCell ⟨b, 2, none⟩ v2).setCell ⟨b, 3, none⟩ v3).setCell ⟨b, 4, none⟩ v4) F ∧
    Blk (((((W.setCell ⟨b, 0, none⟩ v0).setCell ⟨b, 1, none⟩ v1).setCell ⟨b, 2, none⟩ v2).setCell ⟨b, 3, none⟩ v3).setCell ⟨b, 4, none⟩ v4) b T [v0, v1, v2, v3, v4] := by
  have b1 := hb.set 0 v0
  have b2 := b1.set 1 v1
  have b3 := b2.set 2 v2
  have b4 := b3.set 3 v3
  have b5 := b4.set 4 v4
  exact ⟨((((hu.own hb hw v0).own b1 hw v1).own b2 hw v2).own b3 hw v3).own b4 hw v4, b5⟩
theorem Blk.five {w : World} {g : Nat} {T : TypeId} {x0 x1 x2 x3 x4 : Value} (h : Blk w g T [x0, x1, x2, x3, x4]) :
    w.cell? ⟨g, 0, none⟩ = some x0 ∧ w.cell? ⟨g, 1, none⟩ = some x1 ∧ w.cell? ⟨g, 2, none⟩ = some x2 ∧ w.cell? ⟨g, 3, none⟩ = some x3 ∧ w.cell? ⟨g, 4, none⟩ = some x4 ∧
    w.frozen? ⟨g, 0, none⟩ = false ∧ w.frozen? ⟨g, 1, none⟩ = false ∧ w.frozen? ⟨g, 2, none⟩ = false ∧ w.frozen? ⟨g, 3, none⟩ = false ∧ w.frozen? ⟨g, 4, none⟩ = false :=
  ⟨h.cell (i := 0) (by simp), h.cell (i := 1) (by simp), h.cell (i := 2) (by simp), h.cell (i := 3) (by simp), h.cell (i := 4) (by simp), h.free 0, h.free 1, h.free 2, h.free 3, h.free 4⟩
theorem Blk.two {w : World} {g : Nat} {T : TypeId} {x0 x1 : Value} (h : Blk w g T [x0, x1]) :
    w.cell? ⟨g, 0, none⟩ = some x0 ∧ w.cell? ⟨g, 1, none⟩ = some x1 ∧ w.frozen? ⟨g, 0, none⟩ = false ∧ w.frozen? ⟨g, 1, none⟩ = false :=
  ⟨h.cell (i := 0) (by simp), h.cell (i := 1) (by simp), h.free 0, h.free 1⟩

theorem asc_uniq {key : Str} {u u' : KR} : ∀ {l : List Item}, Asc l → (key, u) ∈ l → (key, u') ∈ l → u = u'
  | x :: l, h, h1, h2 => by
    have h3 := asc_cons.1 h
    rcases List.mem_cons.1 h1 with e1 | e1
    · rcases List.mem_cons.1 h2 with e2 | e2
      · rw [← e1] at e2; cases e2; rfl
      · have := h3.1 _ e2
        rw [← e1] at this
        exact absurd this (lt_irr _)
    · rcases List.mem_cons.1 h2 with e2 | e2
      · have := h3.1 _ e1
        rw [← e2] at this
        exact absurd this (lt_irr _)
      · exact asc_uniq h3.2 e1 e2
theorem not_in_lt {key : Str} {l : List Item} (h : AllLt key l) (u : KR) : (key, u) ∉ l := fun hm => lt_irr _ (h _ hm)
theorem not_in_gt {key : Str} {l : List Item} (h : AllGt key l) (u : KR) : (key, u) ∉ l := fun hm => lt_irr _ (h _ hm)
/-- What a search for a key finds. -/
structure Found (key : Str) (fl : List Item) (x : Item) (b : Bool) : Prop where
  yes : ∀ u, (key, u) ∈ fl → b = true ∧ x = (key, u)
  no : (∀ u, (key, u) ∉ fl) → b = true → x.1 ≠ key
/-- The least item met so far bears another key. -/
def Least (w : World) (key : Str) (s : Value) : Prop := s = .pointer none ∨ ∃ (x : Item) (b o : Nat), s = .pointer (some ⟨b, o, none⟩) ∧ x.1 ≠ key ∧
  w.cell? ⟨b, o, none⟩ = some (strV x.1) ∧ w.cell? ⟨b, o + 1, none⟩ = some (strV x.2.1) ∧ w.cell? ⟨b, o + 2, none⟩ = some (strV x.2.2.1) ∧ w.cell? ⟨b, o + 3, none⟩ = some (.bool x.2.2.2.1) ∧ w.cell? ⟨b, o + 4, none⟩ = some (.bool x.2.2.2.2)
theorem cell_upd {w w' : World} {a : Addr} {v : Value} (h : w.cell? a = some v) (hu : Upd w w' []) : w'.cell? a = some v :=
  (World.cell?_of_block (hu.block a.block (World.block_lt_of_cell? w a h) (by simp))).trans h
theorem Least.upd {w w' : World} {key : Str} {s : Value} (h : Least w key s) (hu : Upd w w' []) : Least w' key s := by
  rcases h with h | ⟨x, b, o, h1, h2, h3, h4, h5, h6, h7⟩
  · exact .inl h
  · exact .inr ⟨x, b, o, h1, h2, cell_upd h3 hu, cell_upd h4 hu, cell_upd h5 hu, cell_upd h6 hu, cell_upd h7 hu⟩
/-- How far the search down the tree has come. -/
def SeekAt (w : World) (key : Str) (fl : List Item) (bx : Nat) (k : Nat) (s8 s9 : Value) (wr : World) : Prop :=
  (∃ t : Kid, s9 = ptr t.g ∧ Tree wr k 0 t ∧ Asc t.fl ∧ t.fl.length ≤ 100000 ∧ (∀ u, (key, u) ∈ fl ↔ (key, u) ∈ t.fl)) ∧ Least wr key s8 ∧ Upd w wr [] ∧ w.heap.size ≤ bx ∧ (∃ x0 x1 x2 x3 x4, Blk wr bx 105 [x0, x1, x2, x3, x4])
end Go.Proofs.Qxb6003818a
