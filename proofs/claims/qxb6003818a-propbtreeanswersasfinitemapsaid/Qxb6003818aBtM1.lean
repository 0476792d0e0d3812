import Derived.Test.Qxb6003818aBtM
import Derived.Test.Qxb6003818aBtShelf
namespace Go.Proofs.Qxb6003818a
open Go.RowKit Go.Lib
set_option linter.unusedVariables false
set_option linter.unusedSimpArgs false

theorem cmp3 : ∀ a b : Str, (a < b ∧ compareBytes a b = -1) ∨ (a = b ∧ compareBytes a b = 0) ∨ (b < a ∧ compareBytes a b = 1)
  | [], [] => .inr (.inl ⟨rfl, rfl⟩)
  | [], _ :: _ => .inl ⟨by simp, rfl⟩
  | _ :: _, [] => .inr (.inr ⟨by simp, rfl⟩)
  | a :: xs, b :: ys => by
    have ih := cmp3 xs ys
    unfold compareBytes
    rw [List.cons_lt_cons_iff, List.cons_lt_cons_iff]
    by_cases h1 : a < b
    · simp [h1]
    · by_cases h2 : b < a
      · simp [h1, h2]
      · have : a = b := UInt8.le_antisymm (UInt8.not_lt.1 h2) (UInt8.not_lt.1 h1)
        subst this
        simpa [h1] using ih
theorem cmp27 (a b : Str) (w : World) : Calls Try.prog 27 #[strV a, strV b] w fun e w' => e = .returned (.int .i64 (compareBytes a b)) ∧ w' = w := by
  have := Try.strings_Compare ⟨a.toArray⟩ ⟨b.toArray⟩ w
  simpa using this

theorem SetOK.after {w w1 w2 : World} {h lo : Nat} {t t1 t' : Kid} {key : Str} {vv : KR} {b : Bool} (H : SetOK w1 w2 h lo t1 t' key vv b) (T : Turns w w1 t t1) (e : t1.fl = t.fl) : SetOK w w2 h lo t t' key vv b :=
  ⟨H.tree, by rw [H.fl, e], by rw [H.new, e], T.trans H.turns⟩
/-- What set does in a child it does in the tree. -/
theorem set_child {w w' : World} {h lo : Nat} {t k k' : Kid} {v c : Value} {I J : List Item} {A B : List Kid} {key : Str} {vv : KR} {b : Bool} (N : NT w (Below1 w (h + 1)) (h + 1) lo t v c (I ++ J) (A ++ k :: B)) (hs : Sep t) (ha : Asc t.fl)
    (hA : A.length = I.length) (hB : B.length = J.length) (hI : AllLt key I) (hJ : AllGt key J) (H : SetOK w w' h 15 k k' key vv b) : ∃ t', SetOK w w' (h + 1) lo t t' key vv b := by
  obtain ⟨N', T⟩ := child_turns N hs H.turns H.tree
  have e1 : t.fl = lefts A I ++ k.fl ++ rights B J := by rw [N.fl]; exact flat_at hA k B J
  rw [e1] at ha
  obtain ⟨a1, a2, a3⟩ := asc_mid ha
  have l1 := lefts_lt hA a1 hI
  have l2 := rights_gt hB a3 hJ
  refine ⟨_, tree_iff.2 ⟨_, _, _, _, N'⟩, ?_, ?_, T⟩
  · show flat (I ++ J) (A ++ k' :: B) = _
    rw [flat_at hA, e1, putL_mid vv _ l1 l2, H.fl]
  · rw [e1, hasL_mid _ l1 l2]; exact H.new
theorem child_facts {w : World} {h lo : Nat} {t k : Kid} {v c : Value} {I J : List Item} {A B : List Kid} {n bvl : Nat} (N : NT w (Below1 w (h + 1)) (h + 1) lo t v c (I ++ J) (A ++ k :: B)) (hs : Sep t) (ha : Asc t.fl)
    (hA : A.length = I.length) (hn : t.fl.length ≤ n) (hb : t.ft.count bvl = 0) : Tree w h 15 k ∧ Asc k.fl ∧ Sep k ∧ k.fl.length ≤ n ∧ k.ft.count bvl = 0 := by
  have e1 : t.fl = lefts A I ++ k.fl ++ rights B J := by rw [N.fl]; exact flat_at hA k B J
  rw [e1] at ha hn
  have hm : k ∈ A ++ k :: B := by simp
  refine ⟨N.kids k hm, (asc_mid ha).2.1, fun q => ?_, by simp at hn; omega, ?_⟩
  · have h1 := hs q
    have h2 := count_mem hm q
    rw [nt_count N] at h1
    omega
  · have h2 := count_mem hm bvl
    rw [nt_count N] at hb
    omega
/-- Two halves side by side. -/
def aTwo (h : Nat) (l r : Kid) : Asn := ⟨fun w => Tree w h 15 l ∧ Tree w h 15 r, l.ft ++ r.ft⟩
theorem aTwo_ok (h : Nat) (l r : Kid) : (aTwo h l r).Ok :=
  ⟨fun w w' G p hu hF => ⟨tree_upd hu p.1 (fun k hk => hF k (by show 0 < (l.ft ++ r.ft).count k; rw [List.count_append]; omega)), tree_upd hu p.2 (fun k hk => hF k (by show 0 < (l.ft ++ r.ft).count k; rw [List.count_append]; omega))⟩,
   fun w p k hk => by show (l.ft ++ r.ft).count k = 0; rw [List.count_append, tree_lt p.1 k hk, tree_lt p.2 k hk]⟩
theorem cnt_two (h : Nat) (l r : Kid) (k : Nat) : (aTwo h l r).F.count k = l.ft.count k + r.ft.count k := List.count_append
/-- A node whose child has been split, before its own rows are turned. -/
theorem split_star {w w2 : World} {h lo : Nat} {t k l r : Kid} {v c : Value} {its : List Item} {A B : List Kid} {m : Item} (N : NT w (Below1 w (h + 1)) (h + 1) lo t v c its (A ++ k :: B)) (hs : Sep t) (H : Halves w w2 h k m l r) :
    Star w t.ft w2 [aBlk t.g 65 [v, c], aRow 105 5 v its.length (its.flatMap encI), aRow 59 1 c (A ++ k :: B).length ((A ++ k :: B).map (fun k => ptr k.g)), aKids (h + 1) A, aTwo h l r, aKids (h + 1) B] := by
  have S := nt_star N hs
  have S1 := S.retell [aBlk t.g 65 [v, c], aRow 105 5 v its.length (its.flatMap encI), aRow 59 1 c (A ++ k :: B).length ((A ++ k :: B).map (fun k => ptr k.g)), aKids (h + 1) A, aKid (h + 1) k, aKids (h + 1) B]
    (fun q => by simp only [cnt_cons, cnt_nil, cnt_kids, cnt_kid, List.flatMap_append, List.flatMap_cons, List.count_append]; omega)
    (by
      intro a ha
      simp only [List.mem_cons, List.not_mem_nil, or_false] at ha
      rcases ha with rfl | rfl | rfl | rfl | rfl | rfl
      · exact ⟨N.blk, aBlk_ok _ _ _⟩
      · exact ⟨N.row, aRow_ok _ _ _ _ _⟩
      · exact ⟨N.krow, aRow_ok _ _ _ _ _⟩
      · exact ⟨fun x hx => N.kids x (by simp [hx]), aKids_ok _ _⟩
      · exact ⟨N.kids k (by simp), aKid_ok _ _⟩
      · exact ⟨fun x hx => N.kids x (by simp [hx]), aKids_ok _ _⟩)
  exact S1.step (X := [aBlk t.g 65 [v, c], aRow 105 5 v its.length (its.flatMap encI), aRow 59 1 c (A ++ k :: B).length ((A ++ k :: B).map (fun k => ptr k.g)), aKids (h + 1) A]) (a := aKid (h + 1) k) (a' := aTwo h l r) (Y := [aKids (h + 1) B]) H.upd ⟨H.left, H.right⟩ (aTwo_ok _ _ _) H.fresh
/-- .. and behind it. -/
theorem split_done {w W : World} {h lo : Nat} {t k l r : Kid} {v c v' c' : Value} {I J : List Item} {A B : List Kid} {m : Item} (N : NT w (Below1 w (h + 1)) (h + 1) lo t v c (I ++ J) (A ++ k :: B)) (hs : Sep t) (hA : A.length = I.length)
    (hfl : k.fl = l.fl ++ m :: r.fl)
    (S : Star w t.ft W [aBlk t.g 65 [v', c'], aRow 105 5 v' (I ++ m :: J).length ((I ++ m :: J).flatMap encI), aRow 59 1 c' (A ++ l :: r :: B).length ((A ++ l :: r :: B).map (fun k => ptr k.g)), aKids (h + 1) A, aTwo h l r, aKids (h + 1) B]) :
    ∃ t', NT W (Below1 W (h + 1)) (h + 1) lo t' v' c' (I ++ m :: J) (A ++ l :: r :: B) ∧ Turns w W t t' ∧ t'.fl = t.fl := by
  have b4 : ∀ x ∈ A, Below1 W (h + 1) x := S.get (X := [_, _, _])
  have b5 : Tree W h 15 l ∧ Tree W h 15 r := S.get (X := [_, _, _, _])
  have b6 : ∀ x ∈ B, Below1 W (h + 1) x := S.get (X := [_, _, _, _, _])
  have hin := N.inner (by omega)
  have hlo := N.lo
  simp only [List.length_append, List.length_cons] at hin hlo
  refine ⟨⟨t.g, flat (I ++ m :: J) (A ++ l :: r :: B), foot t.g v' c' (A ++ l :: r :: B)⟩, ⟨S.get (X := []), S.get (X := [_]), S.get (X := [_, _]), ?_, fun h0 => by omega, fun _ => ?_, ?_, rfl, rfl⟩, star_turns S rfl (fun q => ?_), ?_⟩
  · simp only [List.length_append, List.length_cons]; omega
  · simp only [List.length_append, List.length_cons]; omega
  · intro x hx
    simp only [List.mem_append, List.mem_cons] at hx
    rcases hx with h1 | rfl | rfl | h1
    · exact b4 x h1
    · exact b5.1
    · exact b5.2
    · exact b6 x h1
  · rw [foot_count]
    simp only [cnt_cons, cnt_nil, cnt_blk, cnt_row, cnt_kids, cnt_two, List.flatMap_append, List.flatMap_cons, List.count_append]
    omega
  · show flat (I ++ m :: J) (A ++ l :: r :: B) = t.fl
    rw [N.fl, flat_at hA, flat_at hA, hfl]
    have : rights (r :: B) (m :: J) = m :: r.fl ++ rights B J := by
      unfold rights
      rw [List.map_cons]
      simp only [mix, List.nil_append]
      rw [mix_cons]
      simp
    rw [this]
    simp
theorem Sep.of_two {w w2 : World} {h : Nat} {t k l r : Kid} {m : Item} (H : Halves w w2 h k m l r) (hk : Sep k) : Sep l ∧ Sep r := by
  refine ⟨fun q => ?_, fun q => ?_⟩
  all_goals
    have h1 := H.fresh q
    have h2 := hk q
    rw [List.count_append] at h1
    rcases Nat.lt_or_ge q w.heap.size with h | h
    · have := h1.1 h; omega
    · have := h1.2 h; omega
theorem owns_cast {w : World} {b : Nat} {e : TypeId} {s n n' : Nat} {v : Value} {xs xs' : List Value} (h : w.ownsRow b e s v n xs) (hn : n = n') (hx : xs = xs') : w.ownsRow b e s v n' xs' := by
  subst hn
  subst hx
  exact h
theorem row_itemN {w : World} {v : Value} {n : Nat} {its : List Item} (h : w.ownsRow 0 105 5 v n (its.flatMap encI)) (hn : n = its.length) {i : Nat} (hi : i < its.length) :
    ∃ r cap, v = .slice (some ⟨r, 0, none⟩) n cap ∧ n ≤ cap ∧ cap ≤ 9223372036854775807 ∧ ownB v = [r] ∧ r < w.heap.size ∧
      w.cell? ⟨r, i * 5, none⟩ = some (strV its[i].1) ∧ w.cell? ⟨r, i * 5 + 1, none⟩ = some (strV its[i].2.1) ∧ w.cell? ⟨r, i * 5 + 2, none⟩ = some (strV its[i].2.2.1) ∧
      w.cell? ⟨r, i * 5 + 3, none⟩ = some (.bool its[i].2.2.2.1) ∧ w.cell? ⟨r, i * 5 + 4, none⟩ = some (.bool its[i].2.2.2.2) ∧ ∀ j, w.frozen? ⟨r, j, none⟩ = false := by
  subst hn
  exact row_item h hi
theorem row_kidN {w : World} {c : Value} {n : Nat} {ks : List Kid} (hr : w.ownsRow 0 59 1 c n (ks.map (fun k => ptr k.g))) (hn : n = ks.length) {i : Nat} (hi : i < ks.length) :
    ∃ r cap, c = .slice (some ⟨r, 0, none⟩) n cap ∧ n ≤ cap ∧ cap ≤ 9223372036854775807 ∧ ownB c = [r] ∧ r < w.heap.size ∧ w.cell? ⟨r, i, none⟩ = some (ptr ks[i].g) ∧ ∀ j, w.frozen? ⟨r, j, none⟩ = false := by
  subst hn
  exact row_kid hr hi
theorem ptrs_ins {A B : List Kid} {k l r : Kid} (h : l.g = k.g) : ((A ++ k :: B).map (fun k => ptr k.g)).take (A.length + 1) ++ [ptr r.g] ++ ((A ++ k :: B).map (fun k => ptr k.g)).drop (A.length + 1) = (A ++ l :: r :: B).map (fun k => ptr k.g) := by
  have e : (A ++ k :: B).map (fun k => ptr k.g) = (A ++ [k]).map (fun k => ptr k.g) ++ B.map (fun k => ptr k.g) := by simp
  have hl : ((A ++ [k]).map (fun k => ptr k.g)).length = A.length + 1 := by simp
  rw [e, ← hl, List.take_left, List.drop_left]
  simp [h]
end Go.Proofs.Qxb6003818a
