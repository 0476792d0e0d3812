import Derived.Test.Qxb6003818aBtZ
import Derived.Test.Qxb6003818aBtId5
import Derived.Test.Qxb6003818aBtId1
namespace Go.Proofs.Qxb6003818a
open Go.RowKit
set_option linter.unusedVariables false
set_option linter.unusedSimpArgs false

/-- What set leaves of a subtree. -/
structure SetOK (w w' : World) (h lo : Nat) (t t' : Kid) (key : Str) (vv : KR) (b : Bool) : Prop where
  tree : Tree w' h lo t'
  fl : t'.fl = putL key vv t.fl
  new : b = !hasL key t.fl
  turns : Turns w w' t t'
/-- How far set has come down the tree; what is still owed. -/
def SetAt (key : Str) (vv : KR) (bvl : Nat) (Fin : Bool → World → Prop) (k : Nat) (s0 : Value) (wr : World) : Prop :=
  ∃ t lo, s0 = ptr t.g ∧ Tree wr k lo t ∧ Asc t.fl ∧ Sep t ∧ t.fl.length ≤ 50000 ∧ t.ft.count bvl = 0 ∧ Blk wr bvl 38 (encK vv) ∧ (∀ b t' w', SetOK wr w' k lo t t' key vv b → Fin b w')

section
variable {w w' : World} {h lo : Nat} {t k k' : Kid} {v c : Value} {its : List Item} {A B : List Kid}
/-- One child turns. -/
theorem child_turns (N : NT w (Below1 w h) h lo t v c its (A ++ k :: B)) (hs : Sep t) (ht : Turns w w' k k') (hk : Below1 w' h k') :
    NT w' (Below1 w' h) h lo ⟨t.g, flat its (A ++ k' :: B), foot t.g v c (A ++ k' :: B)⟩ v c its (A ++ k' :: B) ∧ Turns w w' t ⟨t.g, flat its (A ++ k' :: B), foot t.g v c (A ++ k' :: B)⟩ := by
  have S := nt_star N hs
  have S1 := S.retell [aBlk t.g 65 [v, c], aRow 105 5 v its.length (its.flatMap encI), aRow 59 1 c (A ++ k :: B).length ((A ++ k :: B).map (fun k => ptr k.g)), aKids h A, aKid h k, aKids h B]
    (fun q => by simp only [cnt_cons, cnt_nil, cnt_kids, cnt_kid, List.flatMap_append, List.flatMap_cons, List.count_append]; omega)
    (by
      intro a ha
      simp only [List.mem_cons, List.not_mem_nil, or_false] at ha
      rcases ha with rfl | rfl | rfl | rfl | rfl | rfl
      · exact ⟨N.blk, aBlk_ok _ _ _⟩
      · exact ⟨N.row, aRow_ok _ _ _ _ _⟩
      · exact ⟨N.krow, aRow_ok _ _ _ _ _⟩
      · exact ⟨fun x hx => N.kids x (by simp [hx]), aKids_ok _ _⟩
      · exact ⟨N.kids k (by simp), aKid_ok _ _⟩
      · exact ⟨fun x hx => N.kids x (by simp [hx]), aKids_ok _ _⟩)
  have S2 := S1.step (X := [aBlk t.g 65 [v, c], aRow 105 5 v its.length (its.flatMap encI), aRow 59 1 c (A ++ k :: B).length ((A ++ k :: B).map (fun k => ptr k.g)), aKids h A]) (a := aKid h k) (a' := aKid h k') (Y := [aKids h B]) ht.upd hk (aKid_ok _ _) ht.fresh
  have b1 : Blk w' t.g 65 [v, c] := S2.get (X := [])
  have b2 : w'.ownsRow 0 105 5 v its.length (its.flatMap encI) := S2.get (X := [_])
  have b3 : w'.ownsRow 0 59 1 c (A ++ k :: B).length ((A ++ k :: B).map (fun k => ptr k.g)) := S2.get (X := [_, _])
  have b4 : ∀ x ∈ A, Below1 w' h x := S2.get (X := [_, _, _])
  have b5 : ∀ x ∈ B, Below1 w' h x := S2.get (X := [_, _, _, _, _])
  have e1 : (A ++ k' :: B).length = (A ++ k :: B).length := by simp
  have e2 : (A ++ k' :: B).map (fun k => ptr k.g) = (A ++ k :: B).map (fun k => ptr k.g) := by simp [ht.g]
  refine ⟨⟨b1, b2, by rw [e1, e2]; exact b3, N.lo, fun h0 => ?_, fun h0 => by rw [e1]; exact N.inner h0, fun x hx => ?_, rfl, rfl⟩, star_turns S2 rfl (fun q => ?_)⟩
  · have := (N.leaf h0).1
    simp at this
  · rcases List.mem_append.1 hx with h1 | h1
    · exact b4 x h1
    · rcases List.mem_cons.1 h1 with rfl | h1
      · exact hk
      · exact b5 x h1
  · rw [foot_count]
    simp only [List.cons_append, List.nil_append, cnt_cons, cnt_nil, cnt_blk, cnt_row, cnt_kids, cnt_kid, List.flatMap_append, List.flatMap_cons, List.count_append]
    omega
end
theorem flat_hit {I J : List Item} {ks : List Kid} (h : ks = [] ∨ ks.length = I.length + J.length + 2) : ∃ P Q, ∀ x, flat (I ++ x :: J) ks = P ++ x :: Q := by
  rcases h with rfl | h
  · exact ⟨I, J, fun x => rfl⟩
  · refine ⟨flat I (ks.take (I.length + 1)), flat J (ks.drop (I.length + 1)), fun x => ?_⟩
    have := flat_join (I := I) (J := J) (A := ks.take (I.length + 1)) (K := ks.drop (I.length + 1)) (x := x) (by rw [List.length_take]; omega)
    rwa [List.take_append_drop] at this
theorem kids_shape {w : World} {T : Kid → Prop} {h lo : Nat} {t : Kid} {v c : Value} {I J : List Item} {x : Item} {ks : List Kid} (N : NT w T h lo t v c (I ++ x :: J) ks) : ks = [] ∨ ks.length = I.length + J.length + 2 := by
  rcases Nat.eq_zero_or_pos h with h0 | h0
  · exact .inl (N.leaf h0).1
  · right
    rw [N.inner h0]
    simp
    omega
theorem owns_setval {w : World} {v : Value} {I J : List Item} {key : Str} {u : KR} {r : Nat} (vv : KR) (h : w.ownsRow 0 105 5 v (I ++ (key, u) :: J).length ((I ++ (key, u) :: J).flatMap encI)) (hown : ownB v = [r]) :
    (w.setCells r (I.length * 5 + 1) (encK vv)).ownsRow 0 105 5 v (I ++ (key, vv) :: J).length ((I ++ (key, vv) :: J).flatMap encI) ∧ Upd w (w.setCells r (I.length * 5 + 1) (encK vv)) [r] := by
  rcases owns_cases h with ⟨h1, h2, h3⟩ | ⟨g, cap, S, h1, hb, h3, h4, h5, h6, h7⟩
  · simp at h2
  · have hgr : g = r := by rw [hown] at h6; cases h6; rfl
    subst hgr
    subst h1
    have e : ∀ q : KR, (I ++ (key, q) :: J).flatMap encI ++ S = (I.flatMap encI ++ [strV key]) ++ (encK q ++ (J.flatMap encI ++ S)) := fun q => by simp [encI]
    have hb2 := hb
    rw [e u] at hb2
    have hp := blk_put (encK vv) hb2 (by simp [encK])
    rw [← e vv] at hp
    have hl : (I.flatMap encI ++ [strV key]).length = I.length * 5 + 1 := by rw [List.length_append, flatI_len]; rfl
    rw [hl] at hp
    have hlen : (I ++ (key, vv) :: J).length = (I ++ (key, u) :: J).length := by simp
    refine ⟨?_, upd_setCells [g] (by simp) _ _ hb⟩
    rw [hlen]
    refine owns_mk hp ?_ h3 h4 ?_
    · rw [flatI_len, hlen]
    · rw [List.length_append, flatI_len, hlen]
      rw [List.length_append, flatI_len] at h5
      exact h5
theorem SetOK.pre {w w1 w2 : World} {h lo : Nat} {t t' : Kid} {key : Str} {vv : KR} {b : Bool} (H : SetOK w1 w2 h lo t t' key vv b) (hu : Upd w w1 []) (hlt : ∀ k, w.heap.size ≤ k → t.ft.count k = 0) : SetOK w w2 h lo t t' key vv b := by
  refine ⟨H.tree, H.fl, H.new, hu.mono (fun _ _ _ => by simp) |>.trans H.turns.upd (fun _ _ h => h), H.turns.g, fun k => ⟨fun hk => (H.turns.fresh k).1 (Nat.lt_of_lt_of_le hk hu.size), fun hk => ?_⟩⟩
  rcases Nat.lt_or_ge k w1.heap.size with h1 | h1
  · have := (H.turns.fresh k).1 h1
    have := hlt k hk
    omega
  · exact (H.turns.fresh k).2 h1
theorem SetOK.post {w w1 w2 : World} {h lo : Nat} {t t' : Kid} {key : Str} {vv : KR} {b : Bool} (H : SetOK w w1 h lo t t' key vv b) (hu : Upd w1 w2 []) : SetOK w w2 h lo t t' key vv b :=
  ⟨tree_upd hu H.tree (fun _ _ => by simp), H.fl, H.new, H.turns.upd.trans hu (fun _ _ _ => by simp), H.turns.g, H.turns.fresh⟩
/-- The key was there: its value is written. -/
theorem set_hit {w : World} {h lo : Nat} {t : Kid} {v c : Value} {I J : List Item} {ks : List Kid} {key : Str} {u : KR} {r : Nat} (vv : KR) (N : NT w (Below1 w h) h lo t v c (I ++ (key, u) :: J) ks) (hs : Sep t) (ha : Asc t.fl) (hown : ownB v = [r]) :
    ∃ t', SetOK w (w.setCells r (I.length * 5 + 1) (encK vv)) h lo t t' key vv false := by
  obtain ⟨h1, h2⟩ := owns_setval vv N.row hown
  have S := nt_star N hs
  have S1 := S.step (X := [_]) (a' := aRow 105 5 v (I ++ (key, vv) :: J).length ((I ++ (key, vv) :: J).flatMap encI)) (w' := w.setCells r (I.length * 5 + 1) (encK vv)) (by show Upd w _ (ownB v); rw [hown]; exact h2) h1 (aRow_ok _ _ _ _ _) (fresh_same w _ (ownB_le v))
  have hl : (I ++ (key, vv) :: J).length = (I ++ (key, u) :: J).length := by simp
  obtain ⟨P, Q, hPQ⟩ := flat_hit (kids_shape N)
  refine ⟨⟨t.g, flat (I ++ (key, vv) :: J) ks, foot t.g v c ks⟩, tree_iff.2 ⟨v, c, I ++ (key, vv) :: J, ks, S1.get (X := []), h1, S1.get (X := [_, _]), by rw [hl]; exact N.lo, N.leaf, fun h0 => by rw [hl]; exact N.inner h0, S1.get (X := [_, _, _]), rfl, rfl⟩, ?_, ?_, star_turns S1 rfl (fun k => ?_)⟩
  · show flat (I ++ (key, vv) :: J) ks = _
    rw [N.fl, hPQ, hPQ]
    rw [N.fl, hPQ] at ha
    exact (putL_hit vv u (lt_of_snoc ha) (gt_of_cons (asc_app.1 ha).2.1)).symm
  · rw [N.fl, hPQ, hasL_hit]; rfl
  · rw [foot_count]
    simp only [List.append_eq, List.cons_append, List.nil_append, cnt_cons, cnt_nil, cnt_blk, cnt_row, cnt_kids]
    omega
theorem encI_one (x : Item) : ∀ u ∈ encI x, u.oneCell' = true := by
  intro u hu
  simp [encI, encK] at hu
  rcases hu with rfl | rfl | rfl | rfl | rfl <;> rfl
theorem owns_slice {w : World} {E : TypeId} {s n : Nat} {v : Value} {xs : List Value} (h : w.ownsRow 0 E s v n xs) : ∃ a cap, v = .slice a n cap := by
  rcases owns_cases h with ⟨h1, h2, _⟩ | ⟨g, cap, S, h1, _⟩
  · exact ⟨none, 0, by rw [h1, h2]⟩
  · exact ⟨_, _, h1⟩
theorem flatI_ins (I J : List Item) (x : Item) : ((I ++ J).flatMap encI).take (I.length * 5) ++ encI x ++ ((I ++ J).flatMap encI).drop (I.length * 5) = (I ++ x :: J).flatMap encI := by
  rw [flatI_take, flatI_drop]
  simp
/-- A leaf takes a new key. -/
theorem set_leaf {w w1 w2 : World} {lo : Nat} {t : Kid} {v v' : Value} {I J : List Item} {key : Str} {vv : KR} (N : NT w (Below1 w 0) 0 lo t v (.slice none 0 0) (I ++ J) []) (hs : Sep t) (hI : AllLt key I) (hJ : AllGt key J) (hu : Upd w w1 [])
    (ho : w2.ownsRow 0 105 5 v' (I ++ (key, vv) :: J).length ((I ++ (key, vv) :: J).flatMap encI)) (hu2 : Upd w1 w2 (ownB v)) (hf : Fresh w1 (ownB v) (ownB v')) :
    ∃ t', SetOK w (w2.setCell ⟨t.g, 0, none⟩ v') 0 lo t t' key vv true := by
  have S := (nt_star N hs).grow hu
  have S1 := S.ins (X := [_]) ho hu2 hf
  have S2 := S1.set (X := []) (i := 0) v'
  refine ⟨⟨t.g, flat (I ++ (key, vv) :: J) [], foot t.g v' (.slice none 0 0) []⟩, tree_iff.2 ⟨v', .slice none 0 0, I ++ (key, vv) :: J, [], S2.get (X := []), S2.get (X := [_]), S2.get (X := [_, _]), ?_, fun _ => ⟨rfl, rfl⟩, fun h0 => by omega, fun x hx => by simp at hx, rfl, rfl⟩, ?_, ?_, star_turns S2 rfl (fun k => ?_)⟩
  · have := N.lo
    simp at this ⊢
    omega
  · show (I ++ (key, vv) :: J) = _
    rw [N.fl, flat_leaf, putL_new vv hI hJ]
  · rw [N.fl, flat_leaf, hasL_new hI hJ]; rfl
  · rw [foot_count]
    simp only [List.append_eq, List.cons_append, List.nil_append, cnt_cons, cnt_nil, cnt_blk, cnt_row, cnt_kids]
    omega
end Go.Proofs.Qxb6003818a
