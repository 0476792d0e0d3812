import Derived.Test.Qxb6003818aBtP
namespace Go.Proofs.Qxb6003818a
open Go.RowKit
set_option linter.unusedVariables false
set_option linter.unusedSimpArgs false

/-- From w to w' nothing below has turned but the blocks F. -/
structure Upd (w w' : World) (F : List Nat) : Prop where
  os : w'.os = w.os
  tape : w'.tape = w.tape
  output : w'.output = w.output
  size : w.heap.size ≤ w'.heap.size
  block : ∀ k, k < w.heap.size → F.count k = 0 → w'.heap[k]? = w.heap[k]?
theorem Upd.refl (w : World) (F : List Nat) : Upd w w F := ⟨rfl, rfl, rfl, Nat.le_refl _, fun _ _ _ => rfl⟩
theorem Upd.trans {w w1 w2 : World} {F G : List Nat} (h : Upd w w1 F) (h2 : Upd w1 w2 G) (hs : ∀ k, k < w.heap.size → F.count k = 0 → G.count k = 0) : Upd w w2 F :=
  ⟨h2.os.trans h.os, h2.tape.trans h.tape, h2.output.trans h.output, Nat.le_trans h.size h2.size, fun k hk hc => (h2.block k (Nat.lt_of_lt_of_le hk h.size) (hs k hk hc)).trans (h.block k hk hc)⟩
theorem Upd.mono {w w1 : World} {F G : List Nat} (h : Upd w w1 F) (hs : ∀ k, k < w.heap.size → G.count k = 0 → F.count k = 0) : Upd w w1 G :=
  ⟨h.os, h.tape, h.output, h.size, fun k hk hc => h.block k hk (hs k hk hc)⟩
theorem Upd.of_grown {w w' : World} {row : Option Nat} (h : w.grownBy w' row) : Upd w w' row.toList :=
  ⟨h.os, h.tape, h.output, h.size, fun k hk hc => h.block k hk (fun e => by subst e; simp at hc)⟩
theorem Upd.grownBy {w w' : World} {g : Nat} (h : Upd w w' [g]) : w.grownBy w' (some g) :=
  ⟨h.os, h.tape, h.output, h.size, fun k hk hc => h.block k hk (List.count_eq_zero.2 (fun e => hc (by simp at e; rw [e])))⟩
theorem Upd.alloc (w : World) (o : Obj) (F : List Nat) : Upd w (w.alloc o) F := ⟨rfl, rfl, rfl, by simp, fun k hk _ => (World.grownBy_alloc w o none).block k hk (by simp)⟩
theorem Upd.drew (w : World) (F : List Nat) : Upd w w.drew F := ⟨rfl, rfl, rfl, Nat.le_refl _, fun _ _ _ => rfl⟩
theorem Upd.drewN (w : World) (n : Nat) (F : List Nat) : Upd w (w.drewN n) F := ⟨rfl, rfl, rfl, Nat.le_refl _, fun _ _ _ => rfl⟩
theorem Upd.setCell (w : World) (g i : Nat) (v : Value) {T : TypeId} {l : List Value} (h : Blk w g T l) (F : List Nat) (hF : 0 < F.count g) : Upd w (w.setCell ⟨g, i, none⟩ v) F := by
  have hb := (Below.refl w.heap.size w)
  refine ⟨?_, ?_, ?_, ?_, ?_⟩
  all_goals unfold Blk at h
  · simp [World.setCell, h]
  · simp [World.setCell, h]
  · simp [World.setCell, h]
  · simp [World.setCell, h]
  · intro k hk hc
    have : k ≠ g := fun e => by subst e; omega
    exact Go.heap_setCell_other w ⟨g, i, none⟩ k v this
theorem Upd.below {w w' : World} {F : List Nat} {B : Nat} (h : Upd w w' F) (hB : B ≤ w.heap.size) (hF : ∀ k, k < B → F.count k = 0) : Below B w w' :=
  ⟨h.os, h.tape, h.output, h.size, fun k hk => h.block k (by omega) (hF k hk)⟩
theorem Blk.upd {w w' : World} {F : List Nat} {g : Nat} {T : TypeId} {l : List Value} (h : Blk w g T l) (hu : Upd w w' F) (hF : F.count g = 0) : Blk w' g T l := (hu.block g h.lt hF).trans h

def ownB (v : Value) : List Nat := v.ownBlock.toList
theorem owns_upd {w w' : World} {F : List Nat} {b : Nat} {e : TypeId} {s n : Nat} {v : Value} {xs : List Value} (h : w.ownsRow b e s v n xs) (hu : Upd w w' F) (hF : ∀ k, 0 < (ownB v).count k → F.count k = 0) : w'.ownsRow b e s v n xs := by
  refine ⟨h.1, ?_⟩
  rcases h.2 with hn | ⟨g, cap, cur, rfl, hb, hgg, rest⟩
  · exact .inl hn
  · refine .inr ⟨g, cap, cur, rfl, hb, ?_, rest⟩
    rw [hu.block g (Array.getElem?_eq_some_iff.1 hgg).1 (hF g (by simp [ownB, Value.ownBlock]))]
    exact hgg
theorem owns_lt {w : World} {b : Nat} {e : TypeId} {s n : Nat} {v : Value} {xs : List Value} (h : w.ownsRow b e s v n xs) (k : Nat) (hk : w.heap.size ≤ k) : (ownB v).count k = 0 := by
  rw [List.count_eq_zero]
  intro hm
  simp [ownB] at hm
  have := (h.lt k hm).2
  omega
theorem ownB_le (v : Value) (k : Nat) : (ownB v).count k ≤ 1 := by
  unfold ownB
  cases v.ownBlock with
  | none => simp
  | some b => rw [Option.toList_some, List.count_singleton]; split <;> omega

/-- A subtree: its node's block, its items in order, the blocks that it owns. -/
structure Kid where
  g : Nat
  fl : List Item
  ft : List Nat
abbrev ptr (g : Nat) : Value := .pointer (some ⟨g, 0, none⟩)
def foot (g : Nat) (v c : Value) (ks : List Kid) : List Nat := g :: (ownB v ++ (ownB c ++ ks.flatMap Kid.ft))
def flat (its : List Item) (ks : List Kid) : List Item := mix (ks.map Kid.fl) its
/-- A node, its children as T says. -/
structure NT (w : World) (T : Kid → Prop) (h lo : Nat) (t : Kid) (v c : Value) (its : List Item) (ks : List Kid) : Prop where
  blk : Blk w t.g 65 [v, c]
  row : w.ownsRow 0 105 5 v its.length (its.flatMap encI)
  krow : w.ownsRow 0 59 1 c ks.length (ks.map (fun k => ptr k.g))
  lo : lo ≤ its.length
  leaf : h = 0 → ks = [] ∧ c = .slice none 0 0
  inner : 0 < h → ks.length = its.length + 1
  kids : ∀ k ∈ ks, T k
  fl : t.fl = flat its ks
  ft : t.ft = foot t.g v c ks
/-- A tree of height h whose root holds lo items at least, every other node 15. -/
def Tree (w : World) : Nat → Nat → Kid → Prop
  | 0, lo, t => ∃ v c its ks, NT w (fun _ => False) 0 lo t v c its ks
  | h + 1, lo, t => ∃ v c its ks, NT w (Tree w h 15) (h + 1) lo t v c its ks
def Below1 (w : World) : Nat → Kid → Prop
  | 0 => fun _ => False
  | h + 1 => Tree w h 15
theorem tree_iff {w : World} {h lo : Nat} {t : Kid} : Tree w h lo t ↔ ∃ v c its ks, NT w (Below1 w h) h lo t v c its ks := by
  cases h <;> rfl

theorem tree_lt {w : World} : ∀ {h lo : Nat} {t : Kid}, Tree w h lo t → ∀ k, w.heap.size ≤ k → t.ft.count k = 0
  | h, lo, t, H, k, hk => by
    obtain ⟨v, c, its, ks, N⟩ := tree_iff.1 H
    have h1 := N.blk.lt
    have h2 := owns_lt N.row k hk
    have h3 := owns_lt N.krow k hk
    have h4 : (ks.flatMap Kid.ft).count k = 0 := by
      rw [List.count_eq_zero]
      intro hm
      obtain ⟨x, hx, hxk⟩ := List.mem_flatMap.1 hm
      cases h with
      | zero => rw [(N.leaf rfl).1] at hx; simp at hx
      | succ h =>
        have := tree_lt (N.kids x hx) k hk
        rw [List.count_eq_zero] at this
        exact this hxk
    have h5 : (t.g == k) = false := by rw [beq_eq_false_iff_ne]; omega
    rw [N.ft, foot, List.count_cons, List.count_append, List.count_append, h2, h3, h4, h5]
    simp
theorem nt_count {w : World} {T : Kid → Prop} {h lo : Nat} {t : Kid} {v c : Value} {its : List Item} {ks : List Kid} (N : NT w T h lo t v c its ks) (k : Nat) :
    t.ft.count k = (if t.g = k then 1 else 0) + (ownB v).count k + (ownB c).count k + (ks.flatMap Kid.ft).count k := by
  rw [N.ft, foot, List.count_cons, List.count_append, List.count_append]
  by_cases e : t.g = k
  · simp [e]; omega
  · simp [e]; omega
theorem count_mem {ks : List Kid} {x : Kid} (hx : x ∈ ks) (k : Nat) : x.ft.count k ≤ (ks.flatMap Kid.ft).count k := by
  induction ks with
  | nil => simp at hx
  | cons y ks ih =>
    rw [List.flatMap_cons, List.count_append]
    rcases List.mem_cons.1 hx with rfl | hx
    · omega
    · have := ih hx; omega
/-- What lies outside the turned blocks is a tree still. -/
theorem tree_upd {w w' : World} {F : List Nat} (hu : Upd w w' F) : ∀ {h lo : Nat} {t : Kid}, Tree w h lo t → (∀ k, 0 < t.ft.count k → F.count k = 0) → Tree w' h lo t
  | h, lo, t, H, hF => by
    obtain ⟨v, c, its, ks, N⟩ := tree_iff.1 H
    refine tree_iff.2 ⟨v, c, its, ks, ?_⟩
    have hc := nt_count N
    refine ⟨N.blk.upd hu (hF _ (by rw [hc, if_pos rfl]; omega)), owns_upd N.row hu (fun k hk => hF k (by rw [hc]; omega)), owns_upd N.krow hu (fun k hk => hF k (by rw [hc]; omega)), N.lo, N.leaf, N.inner, ?_, N.fl, N.ft⟩
    intro x hx
    have hxF : ∀ k, 0 < x.ft.count k → F.count k = 0 := fun k hk => hF k (by have := count_mem hx k; rw [hc]; omega)
    cases h with
    | zero => rw [(N.leaf rfl).1] at hx; simp at hx
    | succ h => exact tree_upd hu (N.kids x hx) hxF
theorem below1_upd {w w' : World} {F : List Nat} (hu : Upd w w' F) {h : Nat} {t : Kid} (H : Below1 w h t) (hF : ∀ k, 0 < t.ft.count k → F.count k = 0) : Below1 w' h t := by
  cases h with
  | zero => exact H
  | succ h => exact tree_upd hu H hF
theorem below1_lt {w : World} {h : Nat} {t : Kid} (H : Below1 w h t) (k : Nat) (hk : w.heap.size ≤ k) : t.ft.count k = 0 := by
  cases h with
  | zero => exact H.elim
  | succ h => exact tree_lt H k hk
theorem kids_lt {w : World} {h : Nat} {ks : List Kid} (H : ∀ x ∈ ks, Below1 w h x) (k : Nat) (hk : w.heap.size ≤ k) : (ks.flatMap Kid.ft).count k = 0 := by
  rw [List.count_eq_zero]
  intro hm
  obtain ⟨x, hx, hxk⟩ := List.mem_flatMap.1 hm
  have := below1_lt (H x hx) k hk
  rw [List.count_eq_zero] at this
  exact this hxk
theorem tree_lo {w : World} {h lo lo' : Nat} {t : Kid} (H : Tree w h lo t) (hl : lo' ≤ lo) : Tree w h lo' t := by
  obtain ⟨v, c, its, ks, N⟩ := tree_iff.1 H
  exact tree_iff.2 ⟨v, c, its, ks, N.blk, N.row, N.krow, Nat.le_trans hl N.lo, N.leaf, N.inner, N.kids, N.fl, N.ft⟩

def Sep (t : Kid) : Prop := ∀ k, t.ft.count k ≤ 1
/-- The blocks of t' are those of t or new. -/
def Fresh (w : World) (F F' : List Nat) : Prop := ∀ k, (k < w.heap.size → F'.count k ≤ F.count k) ∧ (w.heap.size ≤ k → F'.count k ≤ 1)
/-- From w to w' only the tree t has turned: into t'. -/
structure Turns (w w' : World) (t t' : Kid) : Prop where
  upd : Upd w w' t.ft
  g : t'.g = t.g
  fresh : Fresh w t.ft t'.ft
theorem Turns.refl (w : World) (t : Kid) (H : ∀ k, w.heap.size ≤ k → t.ft.count k = 0) : Turns w w t t := ⟨Upd.refl _ _, rfl, fun k => ⟨fun _ => Nat.le_refl _, fun hk => by rw [H k hk]; omega⟩⟩
theorem Turns.trans {w w1 w2 : World} {t t1 t2 : Kid} (h : Turns w w1 t t1) (h2 : Turns w1 w2 t1 t2) : Turns w w2 t t2 := by
  refine ⟨h.upd.trans h2.upd (fun k hk hc => by have := (h.fresh k).1 hk; omega), h2.g.trans h.g, fun k => ⟨fun hk => ?_, fun hk => ?_⟩⟩
  · have a := (h.fresh k).1 hk
    have b := (h2.fresh k).1 (Nat.lt_of_lt_of_le hk h.upd.size)
    omega
  · by_cases hk2 : k < w1.heap.size
    · have a := (h.fresh k).2 hk
      have b := (h2.fresh k).1 hk2
      omega
    · exact (h2.fresh k).2 (by omega)
theorem Turns.sep {w w' : World} {t t' : Kid} (h : Turns w w' t t') (hs : Sep t) : Sep t' := fun k => by
  by_cases hk : k < w.heap.size
  · have := (h.fresh k).1 hk
    have := hs k
    omega
  · exact (h.fresh k).2 (by omega)
end Go.Proofs.Qxb6003818a
