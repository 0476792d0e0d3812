import Derived.Test.Qxb6003818aBtM1
import Derived.Test.Qxb6003818aBtD5
import Derived.Test.Qxb6003818aBtD1
import Derived.Deep.RegionHeld2
namespace Go.Proofs.Qxb6003818a
open Go.RowKit
set_option linter.unusedVariables false
set_option linter.unusedSimpArgs false

/-- A stretch of code, by what holds behind it. -/
theorem wp_mid {P : Program} {c : Code} {Q : Exit → Act → World → Prop} {a : Act} {w : World} (K : Act → World → Prop) (h : c.wp P (Exit.then K (fun _ _ _ => False)) a w) (hk : ∀ a' w', K a' w' → Q .normal a' w') : c.wp P Q a w :=
  Code.wp_mono (fun e a w q => by cases e <;> first | exact hk _ _ q | exact q.elim) h

theorem wp_midF {P : Program} {c : Code} {Q : Exit → Act → World → Prop} {a : Act} {w : World} {R : Option Addr → Nat → World → Prop} {F : Option Addr → Nat → Act}
    (h : c.wp P (Exit.then (fun a' w' => ∃ x n, R x n w' ∧ a' = F x n) (fun _ _ _ => False)) a w) (hk : ∀ x n w', R x n w' → Q .normal (F x n) w') : c.wp P Q a w :=
  wp_mid _ h (fun a' w' ⟨x, n, hr, e⟩ => by subst e; exact hk x n w' hr)
theorem wp_mid0 {P : Program} {c : Code} {Q : Exit → Act → World → Prop} {a : Act} {w : World} {R : World → Prop} {F : Act}
    (h : c.wp P (Exit.then (fun a' w' => R w' ∧ a' = F) (fun _ _ _ => False)) a w) (hk : ∀ w', R w' → Q .normal F w') : c.wp P Q a w :=
  wp_mid _ h (fun a' w' ⟨hr, e⟩ => by subst e; exact hk w' hr)
/-- The operation append in a region that draws, where its run is known. -/
theorem step_append_run {P : Program} {ops : Array Oper} {o : Oper} {a : Act} {w : World} {K : Act → World → Prop} {Q : Exit → Act → World → Prop} {E : Prop}
    (hg : o.guard = none) (d x : Operand) (dT sT : TypeId) (hop : o.op = Op.call { callee := Callee.builtin Builtin.append, args := #[d, x], argTypes := #[dT, sT] })
    (v u : Value) (hd : a.eval d = v) (hx : a.eval x = u) {v' : Value} {w' : World} (hr : (Builtin.append_ #[dT, sT] o.type #[v, u]).run P w = .ok v' w') (hK : K (a.put o.dst v') w') :
    if Region.wanted o (yielded ops a.tmps) = true then Oper.wp P o a w K Q else E := by
  have hw : Region.wanted o (yielded ops a.tmps) = true := by simp [Region.wanted, hg]
  rw [if_pos hw]
  unfold Oper.wp
  simp [execOp, hop, resolve, invoke, builtin, hd, hx, hr, Result.andThen]
  exact hK
/-- The place of the child to go down to. -/
def Pl (key : Str) (gr : Bool) (I J : List Item) : Prop := (gr = true ∧ J = []) ∨ (gr = false ∧ AllLt key I ∧ AllGe key J)
/-- What grow leaves. -/
structure GrowOK (w w' : World) (h lo : Nat) (t t' : Kid) (key : Str) (gr : Bool) : Prop where
  ex : ∃ v c I J A k B, NT w' (Below1 w' (h + 1)) (h + 1) (lo - 1) t' v c (I ++ J) (A ++ k :: B) ∧ A.length = I.length ∧ B.length = J.length ∧ Pl key gr I J ∧ Tree w' h 16 k
  fl : t'.fl = t.fl
  turns : Turns w w' t t'

abbrev S13 (h tg : Nat) (tb : List Value) (tr tk : Asn) (A : List Kid) (lg : Nat) (lb : List Value) (lr lk : Asn) (lks : List Kid) (rg : Nat) (rb : List Value) (rr rk : Asn) (rks : List Kid) (B : List Kid) : List Asn :=
  [aBlk tg 65 tb, tr, tk, aKids (h + 1) A, aBlk lg 65 lb, lr, lk, aKids h lks, aBlk rg 65 rb, rr, rk, aKids h rks, aKids (h + 1) B]
abbrev rI (v : Value) (n : Nat) (its : List Item) : Asn := aRow 105 5 v n (its.flatMap encI)
abbrev rK (c : Value) (n : Nat) (ks : List Kid) : Asn := aRow 59 1 c n (ks.map (fun k => ptr k.g))

/-- A node and two neighbouring children, taken apart. -/
theorem open2 {w : World} {h lo : Nat} {t l r : Kid} {v c vl cl vr cr : Value} {its itl itr : List Item} {A B ksl ksr : List Kid} (N : NT w (Below1 w (h + 1)) (h + 1) lo t v c its (A ++ l :: r :: B)) (hs : Sep t)
    (Nl : NT w (Below1 w h) h 15 l vl cl itl ksl) (Nr : NT w (Below1 w h) h 15 r vr cr itr ksr) :
    Star w t.ft w (S13 h t.g [v, c] (rI v its.length its) (rK c (A ++ l :: r :: B).length (A ++ l :: r :: B)) A l.g [vl, cl] (rI vl itl.length itl) (rK cl ksl.length ksl) ksl r.g [vr, cr] (rI vr itr.length itr) (rK cr ksr.length ksr) ksr B) := by
  have S := nt_star N hs
  refine S.retell _ (fun q => ?_) ?_
  · have h1 := nt_count Nl q
    have h2 := nt_count Nr q
    simp only [cnt_cons, cnt_nil, cnt_blk, cnt_row, cnt_kids, List.flatMap_append, List.flatMap_cons, List.count_append]
    omega
  · intro a ha
    simp only [List.mem_cons, List.not_mem_nil, or_false] at ha
    rcases ha with rfl | rfl | rfl | rfl | rfl | rfl | rfl | rfl | rfl | rfl | rfl | rfl | rfl
    · exact ⟨N.blk, aBlk_ok _ _ _⟩
    · exact ⟨N.row, aRow_ok _ _ _ _ _⟩
    · exact ⟨N.krow, aRow_ok _ _ _ _ _⟩
    · exact ⟨fun x hx => N.kids x (by simp [hx]), aKids_ok _ _⟩
    · exact ⟨Nl.blk, aBlk_ok _ _ _⟩
    · exact ⟨Nl.row, aRow_ok _ _ _ _ _⟩
    · exact ⟨Nl.krow, aRow_ok _ _ _ _ _⟩
    · exact ⟨Nl.kids, aKids_ok _ _⟩
    · exact ⟨Nr.blk, aBlk_ok _ _ _⟩
    · exact ⟨Nr.row, aRow_ok _ _ _ _ _⟩
    · exact ⟨Nr.krow, aRow_ok _ _ _ _ _⟩
    · exact ⟨Nr.kids, aKids_ok _ _⟩
    · exact ⟨fun x hx => N.kids x (by simp [hx]), aKids_ok _ _⟩
/-- .. and put together again: an item has moved over. -/
theorem close2 {w W : World} {h lo : Nat} {t : Kid} {v c vl cl vr cr : Value} {I J itl itr : List Item} {y : Item} {A B ksl ksr : List Kid} {l0 r0 : Kid} (n nk nl nkl nr nkr : Nat)
    (S : Star w t.ft W (S13 h t.g [v, c] (rI v n (I ++ y :: J)) (rK c nk (A ++ l0 :: r0 :: B)) A l0.g [vl, cl] (rI vl nl itl) (rK cl nkl ksl) ksl r0.g [vr, cr] (rI vr nr itr) (rK cr nkr ksr) ksr B))
    (hn : n = (I ++ y :: J).length) (hnk : nk = A.length + B.length + 2) (hnl : nl = itl.length) (hnkl : nkl = ksl.length) (hnr : nr = itr.length) (hnkr : nkr = ksr.length)
    (hA : A.length = I.length) (hB : B.length = J.length) (hlo : lo ≤ (I ++ y :: J).length) (hl15 : 15 ≤ itl.length) (hr15 : 15 ≤ itr.length)
    (hleaf : h = 0 → ksl = [] ∧ cl = .slice none 0 0 ∧ ksr = [] ∧ cr = .slice none 0 0) (hin : 0 < h → ksl.length = itl.length + 1 ∧ ksr.length = itr.length + 1) :
    ∃ t' l' r', NT W (Below1 W (h + 1)) (h + 1) lo t' v c (I ++ y :: J) (A ++ l' :: r' :: B) ∧ Turns w W t t' ∧ t'.fl = lefts A I ++ (flat itl ksl ++ y :: flat itr ksr) ++ rights B J ∧ Tree W h itl.length l' ∧ Tree W h itr.length r' := by
  subst hn hnk hnl hnkl hnr hnkr
  have b0 : Blk W t.g 65 [v, c] := S.get (X := [])
  have b1 : W.ownsRow 0 105 5 v (I ++ y :: J).length ((I ++ y :: J).flatMap encI) := S.get (X := [_])
  have b2 : W.ownsRow 0 59 1 c (A.length + B.length + 2) ((A ++ l0 :: r0 :: B).map (fun k => ptr k.g)) := S.get (X := [_, _])
  have b3 : ∀ x ∈ A, Below1 W (h + 1) x := S.get (X := [_, _, _])
  have b4 : Blk W l0.g 65 [vl, cl] := S.get (X := [_, _, _, _])
  have b5 : W.ownsRow 0 105 5 vl itl.length (itl.flatMap encI) := S.get (X := [_, _, _, _, _])
  have b6 : W.ownsRow 0 59 1 cl ksl.length (ksl.map (fun k => ptr k.g)) := S.get (X := [_, _, _, _, _, _])
  have b7 : ∀ x ∈ ksl, Below1 W h x := S.get (X := [_, _, _, _, _, _, _])
  have b8 : Blk W r0.g 65 [vr, cr] := S.get (X := [_, _, _, _, _, _, _, _])
  have b9 : W.ownsRow 0 105 5 vr itr.length (itr.flatMap encI) := S.get (X := [_, _, _, _, _, _, _, _, _])
  have b10 : W.ownsRow 0 59 1 cr ksr.length (ksr.map (fun k => ptr k.g)) := S.get (X := [_, _, _, _, _, _, _, _, _, _])
  have b11 : ∀ x ∈ ksr, Below1 W h x := S.get (X := [_, _, _, _, _, _, _, _, _, _, _])
  have b12 : ∀ x ∈ B, Below1 W (h + 1) x := S.get (X := [_, _, _, _, _, _, _, _, _, _, _, _])
  have Tl : ∀ q, q ≤ itl.length → Tree W h q ⟨l0.g, flat itl ksl, foot l0.g vl cl ksl⟩ := fun q hq => tree_iff.2 ⟨vl, cl, itl, ksl, b4, b5, b6, hq, fun h0 => ⟨(hleaf h0).1, (hleaf h0).2.1⟩, fun h0 => (hin h0).1, b7, rfl, rfl⟩
  have Tr : ∀ q, q ≤ itr.length → Tree W h q ⟨r0.g, flat itr ksr, foot r0.g vr cr ksr⟩ := fun q hq => tree_iff.2 ⟨vr, cr, itr, ksr, b8, b9, b10, hq, fun h0 => ⟨(hleaf h0).2.2.1, (hleaf h0).2.2.2⟩, fun h0 => (hin h0).2, b11, rfl, rfl⟩
  refine ⟨⟨t.g, flat (I ++ y :: J) (A ++ ⟨l0.g, flat itl ksl, foot l0.g vl cl ksl⟩ :: ⟨r0.g, flat itr ksr, foot r0.g vr cr ksr⟩ :: B), foot t.g v c (A ++ ⟨l0.g, flat itl ksl, foot l0.g vl cl ksl⟩ :: ⟨r0.g, flat itr ksr, foot r0.g vr cr ksr⟩ :: B)⟩, ⟨l0.g, flat itl ksl, foot l0.g vl cl ksl⟩, ⟨r0.g, flat itr ksr, foot r0.g vr cr ksr⟩, ⟨b0, b1, ?_, hlo, fun h0 => by omega, fun _ => ?_, ?_, rfl, rfl⟩, star_turns S rfl (fun q => ?_), ?_, Tl _ (Nat.le_refl _), Tr _ (Nat.le_refl _)⟩
  · exact owns_cast b2 (by simp; omega) (by simp)
  · simp; omega
  · intro x hx
    simp only [List.mem_append, List.mem_cons] at hx
    rcases hx with h1 | rfl | rfl | h1
    · exact b3 x h1
    · exact Tl 15 hl15
    · exact Tr 15 hr15
    · exact b12 x h1
  · rw [foot_count]
    simp only [cnt_cons, cnt_nil, cnt_blk, cnt_row, cnt_kids, List.flatMap_append, List.flatMap_cons, List.count_append, foot_count]
    omega
  · show flat (I ++ y :: J) _ = _
    rw [flat_at hA]
    have : rights (⟨r0.g, flat itr ksr, foot r0.g vr cr ksr⟩ :: B) (y :: J) = y :: flat itr ksr ++ rights B J := by
      unfold rights
      rw [List.map_cons]
      simp only [mix, List.nil_append]
      rw [mix_cons]
      simp
    rw [this]
    simp
/-- .. the two have become one. -/
theorem close1 {w W : World} {h lo : Nat} {t : Kid} {v c vl cl : Value} {I J itl : List Item} {A B ksl : List Kid} {l0 : Kid} (n nk nl nkl : Nat)
    (S : Star w t.ft W [aBlk t.g 65 [v, c], rI v n (I ++ J), rK c nk (A ++ l0 :: B), aKids (h + 1) A, aBlk l0.g 65 [vl, cl], rI vl nl itl, rK cl nkl ksl, aKids h ksl, aKids (h + 1) B])
    (hn : n = (I ++ J).length) (hnk : nk = A.length + B.length + 1) (hnl : nl = itl.length) (hnkl : nkl = ksl.length)
    (hA : A.length = I.length) (hB : B.length = J.length) (hlo : lo ≤ (I ++ J).length) (hl15 : 15 ≤ itl.length)
    (hleaf : h = 0 → ksl = [] ∧ cl = .slice none 0 0) (hin : 0 < h → ksl.length = itl.length + 1) :
    ∃ t' l', NT W (Below1 W (h + 1)) (h + 1) lo t' v c (I ++ J) (A ++ l' :: B) ∧ Turns w W t t' ∧ t'.fl = lefts A I ++ flat itl ksl ++ rights B J ∧ Tree W h itl.length l' := by
  subst hn hnk hnl hnkl
  have b0 : Blk W t.g 65 [v, c] := S.get (X := [])
  have b1 : W.ownsRow 0 105 5 v (I ++ J).length ((I ++ J).flatMap encI) := S.get (X := [_])
  have b2 : W.ownsRow 0 59 1 c (A.length + B.length + 1) ((A ++ l0 :: B).map (fun k => ptr k.g)) := S.get (X := [_, _])
  have b3 : ∀ x ∈ A, Below1 W (h + 1) x := S.get (X := [_, _, _])
  have b4 : Blk W l0.g 65 [vl, cl] := S.get (X := [_, _, _, _])
  have b5 : W.ownsRow 0 105 5 vl itl.length (itl.flatMap encI) := S.get (X := [_, _, _, _, _])
  have b6 : W.ownsRow 0 59 1 cl ksl.length (ksl.map (fun k => ptr k.g)) := S.get (X := [_, _, _, _, _, _])
  have b7 : ∀ x ∈ ksl, Below1 W h x := S.get (X := [_, _, _, _, _, _, _])
  have b12 : ∀ x ∈ B, Below1 W (h + 1) x := S.get (X := [_, _, _, _, _, _, _, _])
  have Tl : ∀ q, q ≤ itl.length → Tree W h q ⟨l0.g, flat itl ksl, foot l0.g vl cl ksl⟩ := fun q hq => tree_iff.2 ⟨vl, cl, itl, ksl, b4, b5, b6, hq, fun h0 => ⟨(hleaf h0).1, (hleaf h0).2⟩, fun h0 => hin h0, b7, rfl, rfl⟩
  refine ⟨⟨t.g, flat (I ++ J) (A ++ ⟨l0.g, flat itl ksl, foot l0.g vl cl ksl⟩ :: B), foot t.g v c (A ++ ⟨l0.g, flat itl ksl, foot l0.g vl cl ksl⟩ :: B)⟩, ⟨l0.g, flat itl ksl, foot l0.g vl cl ksl⟩, ⟨b0, b1, ?_, hlo, fun h0 => by omega, fun _ => ?_, ?_, rfl, rfl⟩, star_turns S rfl (fun q => ?_), ?_, Tl _ (Nat.le_refl _)⟩
  · exact owns_cast b2 (by simp; omega) (by simp)
  · simp; omega
  · intro x hx
    simp only [List.mem_append, List.mem_cons] at hx
    rcases hx with h1 | rfl | h1
    · exact b3 x h1
    · exact Tl 15 hl15
    · exact b12 x h1
  · rw [foot_count]
    simp only [cnt_cons, cnt_nil, cnt_blk, cnt_row, cnt_kids, List.flatMap_append, List.flatMap_cons, List.count_append, foot_count]
    omega
  · show flat (I ++ J) _ = _
    exact flat_at hA _ _ _
theorem owns_setitem {w : World} {v : Value} {n : Nat} {I J : List Item} {x : Item} {r : Nat} (y : Item) (h : w.ownsRow 0 105 5 v n ((I ++ x :: J).flatMap encI)) (hn : n = (I ++ x :: J).length) (hown : ownB v = [r]) :
    (w.setCells r (I.length * 5) (encI y)).ownsRow 0 105 5 v n ((I ++ y :: J).flatMap encI) ∧ Upd w (w.setCells r (I.length * 5) (encI y)) [r] := by
  rcases owns_cases h with ⟨h1, h2, h3⟩ | ⟨g, cap, S, h1, hb, h3, h4, h5, h6, h7⟩
  · rw [h2] at hn; simp at hn
  · have hgr : g = r := by rw [hown] at h6; cases h6; rfl
    subst hgr
    subst h1
    have e : ∀ q : Item, (I ++ q :: J).flatMap encI ++ S = I.flatMap encI ++ (encI q ++ (J.flatMap encI ++ S)) := fun q => by simp
    have hb2 := hb
    rw [e x] at hb2
    have hp := blk_put (encI y) hb2 (by simp [encI, encK])
    rw [← e y, flatI_len] at hp
    refine ⟨owns_mk hp ?_ h3 h4 ?_, upd_setCells [g] (by simp) _ _ hb⟩
    · rw [flatI_len, hn]; simp
    · rw [List.length_append, flatI_len]
      rw [List.length_append, flatI_len] at h5
      rw [← h5]; simp
theorem flatI_del (I J : List Item) (x : Item) : ((I ++ x :: J).flatMap encI).take (I.length * 5) ++ ((I ++ x :: J).flatMap encI).drop ((I.length + 1) * 5) = (I ++ J).flatMap encI := by
  rw [flatI_take, flatI_drop]
  have e1 : (I ++ x :: J).take I.length = I := by simp
  have e2 : (I ++ x :: J).drop (I.length + 1) = J := by
    rw [show I ++ x :: J = (I ++ [x]) ++ J by simp, show I.length + 1 = (I ++ [x]).length by simp, List.drop_left]
  rw [e1, e2, List.flatMap_append]
theorem ptrs_del (A B : List Kid) (k : Kid) : ((A ++ k :: B).map (fun k => ptr k.g)).take A.length ++ ((A ++ k :: B).map (fun k => ptr k.g)).drop (A.length + 1) = (A ++ B).map (fun k => ptr k.g) := by
  rw [← List.map_take, ← List.map_drop, ← List.map_append]
  have e1 : (A ++ k :: B).take A.length = A := by simp
  have e2 : (A ++ k :: B).drop (A.length + 1) = B := by
    rw [show A ++ k :: B = (A ++ [k]) ++ B by simp, show A.length + 1 = (A ++ [k]).length by simp, List.drop_left]
  rw [e1, e2]
theorem kids_row {w : World} {c : Value} {n : Nat} {ps : List Value} (h : w.ownsRow 0 59 1 c n ps) (hn : 0 < n) : ∃ r cap, c = .slice (some ⟨r, 0, none⟩) n cap := by
  rcases owns_cases h with ⟨_, h2, _⟩ | ⟨g, cap, S, h1, _⟩
  · omega
  · exact ⟨_, _, h1⟩
theorem row_itemS {w : World} {r cap n : Nat} {its : List Item} (h : w.ownsRow 0 105 5 (.slice (some ⟨r, 0, none⟩) n cap) n (its.flatMap encI)) (hn : n = its.length) {i : Nat} (hi : i < its.length) {x : Item} (hx : its[i] = x) :
    w.cell? ⟨r, i * 5, none⟩ = some (strV x.1) ∧ w.cell? ⟨r, i * 5 + 1, none⟩ = some (strV x.2.1) ∧ w.cell? ⟨r, i * 5 + 2, none⟩ = some (strV x.2.2.1) ∧ w.cell? ⟨r, i * 5 + 3, none⟩ = some (.bool x.2.2.2.1) ∧ w.cell? ⟨r, i * 5 + 4, none⟩ = some (.bool x.2.2.2.2) ∧
    ∀ j, w.frozen? ⟨r, j, none⟩ = false := by
  obtain ⟨r', cap', hv, -, -, -, -, d0, d1, d2, d3, d4, df⟩ := row_itemN h hn hi
  cases hv
  subst hx
  exact ⟨d0, d1, d2, d3, d4, df⟩
theorem row_kidS {w : World} {r cap n : Nat} {ks : List Kid} (h : w.ownsRow 0 59 1 (.slice (some ⟨r, 0, none⟩) n cap) n (ks.map (fun k => ptr k.g))) (hn : n = ks.length) {i : Nat} (hi : i < ks.length) {k : Kid} (hk : ks[i] = k) :
    w.cell? ⟨r, i, none⟩ = some (ptr k.g) := by
  obtain ⟨r', cap', hv, -, -, -, -, d0, -⟩ := row_kidN h hn hi
  cases hv
  subst hk
  exact d0
/-- The items of a node with two neighbouring children. -/
theorem flat_two {A B : List Kid} {I J : List Item} {l r : Kid} {x : Item} (hA : A.length = I.length) : flat (I ++ x :: J) (A ++ l :: r :: B) = lefts A I ++ (l.fl ++ x :: r.fl) ++ rights B J := by
  rw [flat_at hA]
  have : rights (r :: B) (x :: J) = x :: r.fl ++ rights B J := by
    unfold rights
    rw [List.map_cons]
    simp only [mix, List.nil_append]
    rw [mix_cons]
    simp
  rw [this]
  simp
end Go.Proofs.Qxb6003818a
