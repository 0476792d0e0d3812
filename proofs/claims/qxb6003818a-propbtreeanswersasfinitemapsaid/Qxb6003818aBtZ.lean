import Derived.Test.Qxb6003818aBtT
namespace Go.Proofs.Qxb6003818a
open Go.RowKit
set_option linter.unusedVariables false
set_option linter.unusedSimpArgs false

/-- A claim on memory and the blocks that it is about. -/
structure Asn where
  P : World → Prop
  F : List Nat
/-- It stands while its blocks are left alone; its blocks are laid. -/
structure Asn.Ok (a : Asn) : Prop where
  keep : ∀ w w' G, a.P w → Upd w w' G → (∀ k, 0 < a.F.count k → G.count k = 0) → a.P w'
  lt : ∀ w, a.P w → ∀ k, w.heap.size ≤ k → a.F.count k = 0
def cnt (l : List Asn) (k : Nat) : Nat := (l.flatMap Asn.F).count k
theorem cnt_cons (a : Asn) (l : List Asn) (k : Nat) : cnt (a :: l) k = a.F.count k + cnt l k := by unfold cnt; rw [List.flatMap_cons, List.count_append]
theorem cnt_nil (k : Nat) : cnt [] k = 0 := rfl
theorem cnt_append (l m : List Asn) (k : Nat) : cnt (l ++ m) k = cnt l k + cnt m k := by unfold cnt; rw [List.flatMap_append, List.count_append]
/-- From w0 to w only the blocks F0 have turned; now these claims stand, apart from each other. -/
structure Star (w0 : World) (F0 : List Nat) (w : World) (l : List Asn) : Prop where
  upd : Upd w0 w F0
  fresh : ∀ k, (k < w0.heap.size → cnt l k ≤ F0.count k) ∧ (w0.heap.size ≤ k → cnt l k ≤ 1)
  all : ∀ a ∈ l, a.P w ∧ a.Ok
  one : ∀ k, F0.count k ≤ 1

section
variable {w0 w w' : World} {F0 : List Nat} {l X Y : List Asn} {a a' : Asn}
theorem Star.sep (S : Star w0 F0 w l) (k : Nat) : cnt l k ≤ 1 := by
  have := S.fresh k
  have := S.one k
  rcases Nat.lt_or_ge k w0.heap.size with h | h
  · have := (S.fresh k).1 h; omega
  · exact (S.fresh k).2 h
theorem cnt_zero (h : ∀ a ∈ l, a.P w ∧ a.Ok) (k : Nat) (hk : w.heap.size ≤ k) : cnt l k = 0 := by
  induction l with
  | nil => rfl
  | cons b l ih =>
    rw [cnt_cons, (h b (by simp)).2.lt w (h b (by simp)).1 k hk, ih (fun a ha => h a (by simp [ha]))]
theorem cnt_mem (h : a ∈ l) (k : Nat) : a.F.count k ≤ cnt l k := by
  induction l with
  | nil => simp at h
  | cons b l ih =>
    rw [cnt_cons]
    rcases List.mem_cons.1 h with rfl | h
    · omega
    · have := ih h; omega
theorem Star.get (S : Star w0 F0 w (X ++ a :: Y)) : a.P w := (S.all a (by simp)).1
/-- One claim turns. -/
theorem Star.step (S : Star w0 F0 w (X ++ a :: Y)) (hu : Upd w w' a.F) (h' : a'.P w') (ok : a'.Ok) (hf : Fresh w a.F a'.F) : Star w0 F0 w' (X ++ a' :: Y) := by
  have hs : ∀ k, cnt (X ++ a :: Y) k = cnt X k + a.F.count k + cnt Y k := fun k => by rw [cnt_append, cnt_cons]; omega
  have hs' : ∀ k, cnt (X ++ a' :: Y) k = cnt X k + a'.F.count k + cnt Y k := fun k => by rw [cnt_append, cnt_cons]; omega
  refine ⟨S.upd.trans hu (fun k hk hc => ?_), fun k => ⟨fun hk => ?_, fun hk => ?_⟩, fun b hb => ?_, S.one⟩
  · have := (S.fresh k).1 hk
    rw [hs] at this
    omega
  · have h1 := (S.fresh k).1 hk
    have h2 := (hf k).1 (Nat.lt_of_lt_of_le hk S.upd.size)
    rw [hs] at h1
    rw [hs']
    omega
  · have h1 := (S.fresh k).2 hk
    rw [hs] at h1
    rw [hs']
    rcases Nat.lt_or_ge k w.heap.size with h | h
    · have := (hf k).1 h; omega
    · have h2 := (hf k).2 h
      have h3 := cnt_zero S.all k h
      rw [hs] at h3
      omega
  · have keep : ∀ c ∈ X ++ a :: Y, (∀ k, c.F.count k + a.F.count k ≤ 1) → c.P w' ∧ c.Ok := fun c hc h => ⟨(S.all c hc).2.keep w w' a.F (S.all c hc).1 hu (fun k hk => by have := h k; omega), (S.all c hc).2⟩
    rcases List.mem_append.1 hb with h | h
    · refine keep b (by simp [h]) (fun k => ?_)
      have := S.sep k
      rw [hs] at this
      have := cnt_mem h k
      omega
    · rcases List.mem_cons.1 h with rfl | h
      · exact ⟨h', ok⟩
      · refine keep b (by simp [h]) (fun k => ?_)
        have := S.sep k
        rw [hs] at this
        have := cnt_mem h k
        omega
/-- Nothing of what is claimed turns. -/
theorem Star.grow (S : Star w0 F0 w l) (hu : Upd w w' []) : Star w0 F0 w' l :=
  ⟨S.upd.trans hu (fun _ _ _ => by simp), S.fresh, fun b hb => ⟨(S.all b hb).2.keep w w' [] (S.all b hb).1 hu (fun _ _ => by simp), (S.all b hb).2⟩, S.one⟩
/-- A new claim on new blocks. -/
theorem Star.new (S : Star w0 F0 w l) (hu : Upd w w' []) (h' : a'.P w') (ok : a'.Ok) (hf : Fresh w [] a'.F) : Star w0 F0 w' (a' :: l) := by
  have T := S.grow hu
  refine ⟨T.upd, fun k => ⟨fun hk => ?_, fun hk => ?_⟩, fun b hb => ?_, S.one⟩
  · have h1 := (S.fresh k).1 hk
    have h2 := (hf k).1 (Nat.lt_of_lt_of_le hk S.upd.size)
    rw [cnt_cons]
    simp at h2
    omega
  · have h1 := (S.fresh k).2 hk
    rw [cnt_cons]
    rcases Nat.lt_or_ge k w.heap.size with h | h
    · have := (hf k).1 h; simp at this; omega
    · have h2 := (hf k).2 h
      have h3 := cnt_zero S.all k h
      omega
  · rcases List.mem_cons.1 hb with rfl | h
    · exact ⟨h', ok⟩
    · exact T.all b h
/-- The same blocks, told otherwise. -/
theorem Star.retell (S : Star w0 F0 w l) (m : List Asn) (hc : ∀ k, cnt m k ≤ cnt l k) (h : ∀ a ∈ m, a.P w ∧ a.Ok) : Star w0 F0 w m :=
  ⟨S.upd, fun k => ⟨fun hk => by have := (S.fresh k).1 hk; have := hc k; omega, fun hk => by have := (S.fresh k).2 hk; have := hc k; omega⟩, h, S.one⟩
end

def aBlk (g : Nat) (T : TypeId) (l : List Value) : Asn := ⟨fun w => Blk w g T l, [g]⟩
def aRow (E : TypeId) (s : Nat) (v : Value) (n : Nat) (xs : List Value) : Asn := ⟨fun w => w.ownsRow 0 E s v n xs, ownB v⟩
def aKid (h : Nat) (x : Kid) : Asn := ⟨fun w => Below1 w h x, x.ft⟩
def aTree (h lo : Nat) (x : Kid) : Asn := ⟨fun w => Tree w h lo x, x.ft⟩
def aKids (h : Nat) (ks : List Kid) : Asn := ⟨fun w => ∀ x ∈ ks, Below1 w h x, ks.flatMap Kid.ft⟩
theorem aBlk_ok (g : Nat) (T : TypeId) (l : List Value) : (aBlk g T l).Ok :=
  ⟨fun w w' G h hu hF => Blk.upd h hu (hF g (by simp [aBlk])), fun w h k hk => List.count_eq_zero.2 (by have := Blk.lt h; simp [aBlk]; omega)⟩
theorem aRow_ok (E : TypeId) (s : Nat) (v : Value) (n : Nat) (xs : List Value) : (aRow E s v n xs).Ok :=
  ⟨fun w w' G h hu hF => owns_upd h hu hF, fun w h k hk => owns_lt h k hk⟩
theorem aKid_ok (h : Nat) (x : Kid) : (aKid h x).Ok := ⟨fun w w' G p hu hF => below1_upd hu p hF, fun w p k hk => below1_lt p k hk⟩
theorem aTree_ok (h lo : Nat) (x : Kid) : (aTree h lo x).Ok := ⟨fun w w' G p hu hF => tree_upd hu p hF, fun w p k hk => tree_lt p k hk⟩
theorem aKids_ok (h : Nat) (ks : List Kid) : (aKids h ks).Ok :=
  ⟨fun w w' G p hu hF x hx => below1_upd hu (p x hx) (fun k hk => hF k (by have := count_mem hx k; show 0 < (ks.flatMap Kid.ft).count k; omega)), fun w p k hk => kids_lt p k hk⟩
theorem cnt_blk (g : Nat) (T : TypeId) (l : List Value) (k : Nat) : (aBlk g T l).F.count k = if g = k then 1 else 0 := count_one g k
theorem cnt_row (E : TypeId) (s : Nat) (v : Value) (n : Nat) (xs : List Value) (k : Nat) : (aRow E s v n xs).F.count k = (ownB v).count k := rfl
theorem cnt_kid (h : Nat) (x : Kid) (k : Nat) : (aKid h x).F.count k = x.ft.count k := rfl
theorem cnt_tree (h lo : Nat) (x : Kid) (k : Nat) : (aTree h lo x).F.count k = x.ft.count k := rfl
theorem cnt_kids (h : Nat) (ks : List Kid) (k : Nat) : (aKids h ks).F.count k = (ks.flatMap Kid.ft).count k := rfl

section
variable {w0 w w' : World} {F0 : List Nat} {X Y : List Asn}
/-- A cell of a block is set. -/
theorem Star.set {g i : Nat} {T : TypeId} {l : List Value} (S : Star w0 F0 w (X ++ aBlk g T l :: Y)) (v : Value) : Star w0 F0 (w.setCell ⟨g, i, none⟩ v) (X ++ aBlk g T (l.set i v) :: Y) := by
  have hb : Blk w g T l := S.get
  exact S.step (Upd.setCell w g i v hb _ (by simp [aBlk])) (hb.set i v) (aBlk_ok _ _ _) (fresh_same w [g] (fun k => by rw [count_one]; split <;> omega))
/-- A call that inserts or deletes. -/
theorem Star.ins {E : TypeId} {s n n' : Nat} {v v' : Value} {xs xs' : List Value} (S : Star w0 F0 w (X ++ aRow E s v n xs :: Y)) (h : w'.ownsRow 0 E s v' n' xs') (hu : Upd w w' (ownB v)) (hf : Fresh w (ownB v) (ownB v')) : Star w0 F0 w' (X ++ aRow E s v' n' xs' :: Y) :=
  S.step hu h (aRow_ok _ _ _ _ _) hf
theorem Star.alloc {l : List Asn} (S : Star w0 F0 w l) (xs : List Value) (T : TypeId) : Star w0 F0 (w.alloc (.cells xs.toArray T)) (aBlk w.heap.size T xs :: l) :=
  S.new (Upd.alloc w _ _) (blk_new w xs T) (aBlk_ok _ _ _) (fresh_new w _ _ (Nat.le_refl _))
end
/-- A node, taken apart. -/
theorem nt_star {w : World} {h lo : Nat} {t : Kid} {v c : Value} {its : List Item} {ks : List Kid} (N : NT w (Below1 w h) h lo t v c its ks) (hs : Sep t) :
    Star w t.ft w [aBlk t.g 65 [v, c], aRow 105 5 v its.length (its.flatMap encI), aRow 59 1 c ks.length (ks.map (fun k => ptr k.g)), aKids h ks] := by
  have hc := nt_count N
  have e : ∀ k, cnt [aBlk t.g 65 [v, c], aRow 105 5 v its.length (its.flatMap encI), aRow 59 1 c ks.length (ks.map (fun k => ptr k.g)), aKids h ks] k = t.ft.count k := fun k => by
    rw [cnt_cons, cnt_cons, cnt_cons, cnt_cons, cnt_nil, cnt_blk, cnt_row, cnt_row, cnt_kids, hc]; omega
  refine ⟨Upd.refl _ _, fun k => ⟨fun hk => by rw [e]; omega, fun hk => by rw [e]; exact hs k⟩, ?_, hs⟩
  intro a ha
  simp only [List.mem_cons, List.not_mem_nil, or_false] at ha
  rcases ha with rfl | rfl | rfl | rfl
  · exact ⟨N.blk, aBlk_ok _ _ _⟩
  · exact ⟨N.row, aRow_ok _ _ _ _ _⟩
  · exact ⟨N.krow, aRow_ok _ _ _ _ _⟩
  · exact ⟨N.kids, aKids_ok _ _⟩
/-- .. and put together again. -/
theorem star_turns {w0 w : World} {t : Kid} {g : Nat} {v c : Value} {ks : List Kid} {fl : List Item} {l : List Asn} (S : Star w0 t.ft w l) (hg : g = t.g) (hc : ∀ k, (foot g v c ks).count k ≤ cnt l k) :
    Turns w0 w t ⟨g, fl, foot g v c ks⟩ :=
  ⟨S.upd, hg, fun k => ⟨fun hk => by have := (S.fresh k).1 hk; have := hc k; show (foot g v c ks).count k ≤ _; omega, fun hk => by have := (S.fresh k).2 hk; have := hc k; show (foot g v c ks).count k ≤ _; omega⟩⟩
end Go.Proofs.Qxb6003818a
