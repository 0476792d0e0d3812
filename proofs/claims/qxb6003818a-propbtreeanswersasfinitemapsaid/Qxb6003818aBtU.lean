import Derived.Test.Qxb6003818aBtW
import Derived.Test.Qxb6003818aBtM1
namespace Go.Proofs.Qxb6003818a
open Go.ChangeShapes Go.WideShapes Go.ChangeAt Go.RowKit
set_option linter.unusedVariables false
set_option linter.unusedSimpArgs false

/-- What remove leaves of a subtree. -/
structure RemOK (w w' : World) (h lo : Nat) (t t' : Kid) (key : Str) (gr : Bool) (it : Item) (b : Bool) : Prop where
  tree : Tree w' h lo t'
  turns : Turns w w' t t'
  del : gr = false → t'.fl = delL key t.fl ∧ b = hasL key t.fl
  last : gr = true → t.fl = t'.fl ++ [it]
theorem RemOK.pre {w w1 w2 : World} {h lo : Nat} {t t' : Kid} {key : Str} {gr b : Bool} {it : Item} (H : RemOK w1 w2 h lo t t' key gr it b) (hu : Upd w w1 []) (hlt : ∀ k, w.heap.size ≤ k → t.ft.count k = 0) : RemOK w w2 h lo t t' key gr it b := by
  refine ⟨H.tree, ⟨hu.mono (fun _ _ _ => by simp) |>.trans H.turns.upd (fun _ _ h => h), H.turns.g, fun k => ⟨fun hk => (H.turns.fresh k).1 (Nat.lt_of_lt_of_le hk hu.size), fun hk => ?_⟩⟩, H.del, H.last⟩
  rcases Nat.lt_or_ge k w1.heap.size with h1 | h1
  · have := (H.turns.fresh k).1 h1
    have := hlt k hk
    omega
  · exact (H.turns.fresh k).2 h1
theorem RemOK.post {w w1 w2 : World} {F : List Nat} {h lo : Nat} {t t' : Kid} {key : Str} {gr b : Bool} {it : Item} (H : RemOK w w1 h lo t t' key gr it b) (hu : Upd w1 w2 F) (hF : ∀ k, 0 < F.count k → t'.ft.count k = 0 ∧ w.heap.size ≤ k) : RemOK w w2 h lo t t' key gr it b := by
  refine ⟨tree_upd hu H.tree (fun k hk => ?_), ⟨H.turns.upd.trans hu (fun k hk hc => ?_), H.turns.g, H.turns.fresh⟩, H.del, H.last⟩
  · rcases Nat.eq_zero_or_pos (F.count k) with h0 | h0
    · exact h0
    · have := (hF k h0).1; omega
  · rcases Nat.eq_zero_or_pos (F.count k) with h0 | h0
    · exact h0
    · have := (hF k h0).2; omega
theorem RemOK.after {w w1 w2 : World} {h lo : Nat} {t t1 t' : Kid} {key : Str} {gr b : Bool} {it : Item} (H : RemOK w1 w2 h lo t1 t' key gr it b) (T : Turns w w1 t t1) (e : t1.fl = t.fl) : RemOK w w2 h lo t t' key gr it b :=
  ⟨H.tree, T.trans H.turns, fun h => by rw [← e]; exact H.del h, fun h => by rw [← e]; exact H.last h⟩
/-- A leaf loses an item. -/
theorem rem_leaf {w w1 w2 : World} {lo : Nat} {t : Kid} {v v' : Value} {n : Nat} {I J : List Item} {x : Item} {key : Str} {gr b : Bool} (N : NT w (Below1 w 0) 0 lo t v (.slice none 0 0) (I ++ x :: J) []) (hs : Sep t) (ha : Asc t.fl) (hu : Upd w w1 [])
    (ho : w2.ownsRow 0 105 5 v' n ((I ++ J).flatMap encI)) (hn : n = (I ++ J).length) (hu2 : Upd w1 w2 (ownB v)) (hf : Fresh w1 (ownB v) (ownB v')) (hd : gr = false → x.1 = key ∧ b = true) (hl : gr = true → J = []) :
    ∃ t', RemOK w (w2.setCell ⟨t.g, 0, none⟩ v') 0 (lo - 1) t t' key gr x b := by
  subst hn
  have S := (nt_star N hs).grow hu
  have S1 := S.ins (X := [_]) ho hu2 hf
  have S2 := S1.set (X := []) (i := 0) v'
  refine ⟨⟨t.g, flat (I ++ J) [], foot t.g v' (.slice none 0 0) []⟩, tree_iff.2 ⟨v', .slice none 0 0, I ++ J, [], S2.get (X := []), S2.get (X := [_]), S2.get (X := [_, _]), ?_, fun _ => ⟨rfl, rfl⟩, fun h0 => by omega, fun x hx => by simp at hx, rfl, rfl⟩, star_turns S2 rfl (fun k => ?_), fun h => ?_, fun h => ?_⟩
  · have := N.lo
    simp at this ⊢
    omega
  · rw [foot_count]
    simp only [List.append_eq, List.cons_append, List.nil_append, cnt_cons, cnt_nil, cnt_blk, cnt_row, cnt_kids]
    omega
  · obtain ⟨e1, e2⟩ := hd h
    obtain ⟨xk, xv⟩ := x
    simp only at e1
    subst e1
    have e0 : t.fl = I ++ (xk, xv) :: J := N.fl
    rw [e0] at ha ⊢
    refine ⟨?_, by rw [hasL_hit]; exact e2⟩
    show I ++ J = _
    rw [delL_hit xv (lt_of_snoc ha) (gt_of_cons (asc_app.1 ha).2.1)]
  · have hJ := hl h
    subst hJ
    have e0 : t.fl = I ++ [x] := N.fl
    rw [e0]
    show _ = (I ++ []) ++ [x]
    simp
/-- What remove does in a child it does in the tree. -/
theorem rem_child {w w' : World} {h lo : Nat} {t k k' : Kid} {v c : Value} {I J : List Item} {A B : List Kid} {key : Str} {gr b : Bool} {it : Item} (N : NT w (Below1 w (h + 1)) (h + 1) lo t v c (I ++ J) (A ++ k :: B)) (hs : Sep t) (ha : Asc t.fl)
    (hA : A.length = I.length) (hB : B.length = J.length) (hI : gr = false → AllLt key I ∧ AllGt key J) (hJ : gr = true → J = []) (H : RemOK w w' h 15 k k' key gr it b) : ∃ t', RemOK w w' (h + 1) lo t t' key gr it b := by
  obtain ⟨N', T⟩ := child_turns N hs H.turns H.tree
  have e1 : t.fl = lefts A I ++ k.fl ++ rights B J := by rw [N.fl]; exact flat_at hA k B J
  refine ⟨_, tree_iff.2 ⟨_, _, _, _, N'⟩, T, fun hg => ?_, fun hg => ?_⟩
  · rw [e1] at ha
    obtain ⟨a1, a2, a3⟩ := asc_mid ha
    obtain ⟨i1, i2⟩ := hI hg
    have l1 := lefts_lt hA a1 i1
    have l2 := rights_gt hB a3 i2
    refine ⟨?_, by rw [e1, hasL_mid _ l1 l2]; exact (H.del hg).2⟩
    show flat (I ++ J) (A ++ k' :: B) = _
    rw [flat_at hA, e1, delL_mid _ l1 l2, (H.del hg).1]
  · have hJ0 := hJ hg
    subst hJ0
    have hB0 : B = [] := List.eq_nil_of_length_eq_zero (by simpa using hB)
    subst hB0
    rw [e1]
    show _ = flat (I ++ []) (A ++ k' :: []) ++ [it]
    rw [flat_at hA, H.last hg]
    simp [rights, mix]
/-- The item of an inner node gives way to the greatest before it. -/
theorem rem_found {w w' : World} {h lo : Nat} {t k k' : Kid} {v c : Value} {I J : List Item} {A B : List Kid} {key : Str} {u : KR} {it : Item} {b : Bool} {r n : Nat} (N : NT w (Below1 w (h + 1)) (h + 1) lo t v c (I ++ (key, u) :: J) (A ++ k :: B)) (hs : Sep t) (ha : Asc t.fl)
    (hA : A.length = I.length) (hB : B.length = J.length + 1) (hown : ownB v = [r]) (H : RemOK w w' h 15 k k' [] true it b) : ∃ t', RemOK w (w'.setCells r (I.length * 5) (encI it)) (h + 1) lo t t' key false (key, u) true := by
  obtain ⟨N', T⟩ := child_turns N hs H.turns H.tree
  have hs' : Sep _ := T.sep hs
  obtain ⟨z1, z2⟩ := owns_setitem it N'.row rfl hown
  have S := nt_star N' hs'
  have S1 := S.step (X := [_]) (a' := aRow 105 5 v (I ++ (key, u) :: J).length ((I ++ it :: J).flatMap encI)) (w' := w'.setCells r (I.length * 5) (encI it)) (by show Upd w' _ (ownB v); rw [hown]; exact z2) z1 (aRow_ok _ _ _ _ _) (fresh_same _ _ (ownB_le v))
  have hl : (I ++ it :: J).length = (I ++ (key, u) :: J).length := by simp
  have T2 : Turns w' (w'.setCells r (I.length * 5) (encI it)) ⟨t.g, flat (I ++ (key, u) :: J) (A ++ k' :: B), foot t.g v c (A ++ k' :: B)⟩ ⟨t.g, flat (I ++ it :: J) (A ++ k' :: B), foot t.g v c (A ++ k' :: B)⟩ := star_turns (t := ⟨t.g, flat (I ++ (key, u) :: J) (A ++ k' :: B), foot t.g v c (A ++ k' :: B)⟩) S1 rfl (fun q => by
    rw [foot_count]
    simp only [List.append_eq, List.cons_append, List.nil_append, cnt_cons, cnt_nil, cnt_blk, cnt_row, cnt_kids]
    omega)
  have b1 : (w'.setCells r (I.length * 5) (encI it)).ownsRow 0 59 1 c (A ++ k' :: B).length ((A ++ k' :: B).map (fun k => ptr k.g)) := S1.get (X := [_, _])
  have b2 : Blk (w'.setCells r (I.length * 5) (encI it)) t.g 65 [v, c] := S1.get (X := [])
  have b3 : ∀ x ∈ A ++ k' :: B, Below1 (w'.setCells r (I.length * 5) (encI it)) (h + 1) x := S1.get (X := [_, _, _])
  refine ⟨⟨t.g, flat (I ++ it :: J) (A ++ k' :: B), foot t.g v c (A ++ k' :: B)⟩, tree_iff.2 ⟨v, c, I ++ it :: J, A ++ k' :: B, b2, owns_cast z1 hl.symm rfl, b1, by rw [hl]; exact N.lo, fun h0 => by omega, fun h0 => by rw [hl]; exact N'.inner h0, b3, rfl, rfl⟩, T.trans T2, fun _ => ?_, fun h => by cases h⟩
  cases B with
  | nil => simp at hB
  | cons rt B0 =>
    have e1 : t.fl = lefts A I ++ (k.fl ++ (key, u) :: rt.fl) ++ rights B0 J := by rw [N.fl]; exact flat_two hA
    have e2 : flat (I ++ it :: J) (A ++ k' :: rt :: B0) = lefts A I ++ (k'.fl ++ it :: rt.fl) ++ rights B0 J := flat_two hA
    have e3 : t.fl = (lefts A I ++ k.fl) ++ (key, u) :: (rt.fl ++ rights B0 J) := by rw [e1]; simp
    have ha2 := ha
    rw [e3] at ha2
    refine ⟨?_, by rw [e3, hasL_hit]⟩
    show flat (I ++ it :: J) (A ++ k' :: rt :: B0) = _
    rw [e3, delL_hit u (lt_of_snoc ha2) (gt_of_cons (asc_app.1 ha2).2.1), e2, H.last rfl]
    simp
/-- The item is handed out. -/
theorem rem_fin {w W2 w5 : World} {bx h lo : Nat} {t t' : Kid} {key : Str} {gr b : Bool} {it : Item} {x0 x1 x2 x3 x4 : Value} (hu : Upd w W2 []) (hlt : ∀ k, w.heap.size ≤ k → t.ft.count k = 0) (hbx : Blk W2 bx 105 [x0, x1, x2, x3, x4]) (hb : w.heap.size ≤ bx)
    (H : RemOK W2 w5 h lo t t' key gr it b) (v0 v1 v2 v3 v4 : Value) :
    RemOK w (((((w5.setCell ⟨bx, 0, none⟩ v0).setCell ⟨bx, 1, none⟩ v1).setCell ⟨bx, 2, none⟩ v2).setCell ⟨bx, 3, none⟩ v3).setCell ⟨bx, 4, none⟩ v4) h lo t t' key gr it b := by
  have hb5 := hbx.upd H.turns.upd (hlt bx hb)
  refine (H.pre hu hlt).post (upd_set5 hb5 v0 v1 v2 v3 v4) (fun k hk => ?_)
  have hk' : k = bx := by
    rw [count_one] at hk
    split at hk
    · rename_i e; exact e.symm
    · omega
  subst hk'
  have h1 := (H.turns.fresh k).1 hbx.lt
  have h2 := hlt k hb
  exact ⟨by omega, hb⟩
/-- The contract of grow. -/
def GrowAny : Prop := ∀ (h lo : Nat) (t k : Kid) (v c vk ck : Value) (I J itk : List Item) (A B ksk : List Kid) (key : Str) (gr : Bool) (w : World),
    NT w (Below1 w (h + 1)) (h + 1) lo t v c (I ++ J) (A ++ k :: B) → Sep t → Asc t.fl → A.length = I.length → B.length = J.length → 1 ≤ lo → Pl key gr I J →
    NT w (Below1 w h) h 15 k vk ck itk ksk → itk.length ≤ 15 → t.fl.length ≤ 50000 →
    Calls Try.prog 79 #[ptr t.g, .int .i64 (I.length : Int)] w fun e w' => e = .returned (.tuple #[]) ∧ ∃ t', GrowOK w w' h lo t t' key gr
end Go.Proofs.Qxb6003818a
