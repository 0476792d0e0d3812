import Derived.Test.Qxb6003818aRows
import Derived.Sort.KeysCollected
import Derived.Sort.Walk0
import Derived.WalkKit
import Derived.ProofKit
import Derived.WalkLawsBesides
import Derived.Deep.QuietTactic
import Derived.BigQuiet
import Derived.WalkSpells
namespace Go.Proofs.Qxb6003818a
open Go.ChangeShapes Go.WideShapes Go.ChangeAt Go.RowKit
set_option linter.unusedVariables false

abbrev Str := List UInt8
/-- A range: start, end, through, open. -/
abbrev KR := Str × Str × Bool × Bool
abbrev bl (a b : Str) : Bool := Op.bytesLess a b
def encK (r : KR) : List Value := [.string ⟨r.1.toArray⟩, .string ⟨r.2.1.toArray⟩, .bool r.2.2.1, .bool r.2.2.2]
/-- A range as a value. -/
abbrev aggK (s e : Str) (t o : Bool) : Value := .agg #[.string ⟨s.toArray⟩, .string ⟨e.toArray⟩, .bool t, .bool o]

def inSpan (s e : Str) (o : Bool) (k : Str) : Bool := if bl k s then false else if o then true else bl k e
def hasK (s e : Str) (t o : Bool) (k : Str) : Bool := if bl k s then false else if o then true else if t then !bl e k else bl k e
def holdsK (e : Str) (t o : Bool) (k : Str) : Bool := if o then true else if t then !bl e k else bl k e
def startsPastK (s : Str) (e2 : Str) (o2 : Bool) : Bool := if o2 then false else bl e2 s
def endsAfterK (e : Str) (t o : Bool) (e2 : Str) (t2 o2 : Bool) : Bool := if o2 then false else if o then true else if e = e2 then (t && !t2) else bl e2 e

theorem less_eq (x y : Str) : Op.bytesLess x y = decide (x < y) := bytesLess_eq x y
theorem lt_irr (x : Str) : ¬ x < x := List.lt_irrefl x
theorem lt_tri (x y : Str) : x < y ∨ x = y ∨ y < x := by
  by_cases h : x < y
  · exact .inl h
  · by_cases h2 : y < x
    · exact .inr (.inr h2)
    · exact .inr (.inl (List.le_antisymm (List.not_lt.1 h2) (List.not_lt.1 h)))
theorem lt_asym {x y : Str} (h : x < y) : ¬ y < x := fun h2 => lt_irr x (List.lt_trans h h2)
theorem le_bl (k e : Str) : (Op.bytesLess k e || k == e) = !Op.bytesLess e k := by
  rw [less_eq, less_eq]
  rcases lt_tri k e with h | rfl | h
  · simp [h, lt_asym h]
  · simp [lt_irr]
  · have : ¬ k = e := fun e => by subst e; exact lt_irr _ h
    simp [h, lt_asym h, this]

theorem gt_bl (k e : Str) : (!Op.bytesLess k e && !(k == e)) = Op.bytesLess e k := by
  have := le_bl k e
  rw [← Bool.not_or, this, Bool.not_not]

/-- What a slice at address a reads as, in its first cells: the values xs; its block lies below B. -/
def Row (w : World) (B : Nat) (a : Option Addr) (xs : List Value) : Prop :=
  ∀ i (h : i < xs.length), ∃ b off, a = some ⟨b, off, none⟩ ∧ b < B ∧ w.cell? ⟨b, off + i, none⟩ = some xs[i]
theorem Row.below {w w' : World} {B B' : Nat} {a : Option Addr} {xs : List Value} (h : Row w B a xs) (hb : Below B' w w') (hB : B ≤ B') : Row w' B a xs := by
  intro i hi
  obtain ⟨b, off, e, hlt, hc⟩ := h i hi
  exact ⟨b, off, e, hlt, (hb.cell (p := ⟨b, off + i, none⟩) (Nat.lt_of_lt_of_le hlt hB)).trans hc⟩
theorem Row.mono {w : World} {B B' : Nat} {a : Option Addr} {xs : List Value} (h : Row w B a xs) (hB : B ≤ B') : Row w B' a xs := by
  intro i hi
  obtain ⟨b, off, e, hlt, hc⟩ := h i hi
  exact ⟨b, off, e, by omega, hc⟩
theorem Row.nil (w : World) (B : Nat) (a : Option Addr) : Row w B a [] := fun i hi => absurd hi (Nat.not_lt_zero _)

/-- Block g holds just the cells l, none of them frozen; its cells' type is T. -/
def Blk (w : World) (g : Nat) (T : TypeId) (l : List Value) : Prop := w.heap[g]? = some (.cells l.toArray T (0, 0))
section
variable {w w' : World} {g : Nat} {T : TypeId} {l : List Value}
theorem Blk.lt (h : Blk w g T l) : g < w.heap.size := (Array.getElem?_eq_some_iff.1 h).1
theorem Blk.cell (h : Blk w g T l) {i : Nat} (hi : i < l.length) : w.cell? ⟨g, i, none⟩ = some l[i] := by
  unfold Blk at h
  simp [World.cell?, h, hi]
theorem Blk.free (h : Blk w g T l) (i : Nat) : w.frozen? ⟨g, i, none⟩ = false := by
  unfold Blk at h
  simp [World.frozen?, h]
theorem Blk.set (h : Blk w g T l) (i : Nat) (v : Value) : Blk (w.setCell ⟨g, i, none⟩ v) g T (l.set i v) := by
  unfold Blk at *
  rw [heap_setCell_same w g i _ T v h]
  simp
theorem Blk.drewN (h : Blk w g T l) (n : Nat) : Blk (w.drewN n) g T l := h
theorem Blk.drew (h : Blk w g T l) : Blk w.drew g T l := h
theorem Blk.below {B : Nat} (h : Blk w g T l) (hb : Below B w w') (hg : g < B) : Blk w' g T l := (hb.block g hg).trans h
theorem Blk.kept {row : Option Nat} (h : Blk w g T l) (hg : w.grownBy w' row) (hne : some g ≠ row) : Blk w' g T l := (hg.block g h.lt hne).trans h
theorem Blk.row (h : Blk w g T l) : Row w w.heap.size (some ⟨g, 0, none⟩) l := fun i hi => ⟨g, 0, rfl, h.lt, by rw [Nat.zero_add]; exact h.cell hi⟩
end

/-- The call has returned the value v; below its own blocks the world is as it was. -/
def Gives (w : World) (v : Value) (e : Ending) (w' : World) : Prop := e = .returned v ∧ Below w.heap.size w w'
end Go.Proofs.Qxb6003818a
