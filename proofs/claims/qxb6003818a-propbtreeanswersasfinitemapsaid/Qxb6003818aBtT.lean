import Derived.Test.Qxb6003818aBtG
import Derived.Test.Qxb6003818aBtC5
import Derived.Test.Qxb6003818aBtC1
namespace Go.Proofs.Qxb6003818a
open Go.ChangeShapes Go.WideShapes Go.ChangeAt Go.RowKit
set_option linter.unusedVariables false
set_option linter.unusedSimpArgs false

theorem upd_set5 {W : World} {b : Nat} {T : TypeId} {x0 x1 x2 x3 x4 : Value} (hb : Blk W b T [x0, x1, x2, x3, x4]) (v0 v1 v2 v3 v4 : Value) :
    Upd W (((((W.setCell ⟨b, 0, none⟩ v0).setCell ⟨b, 1, none⟩ v1).setCell ⟨b, 2, none⟩ v2).setCell ⟨b, 3, none⟩ v3).setCell ⟨b, 4, none⟩ v4) [b] := by
  have b1 := hb.set 0 v0
  have b2 := b1.set 1 v1
  have b3 := b2.set 2 v2
  have b4 := b3.set 3 v3
  have one : 0 < [b].count b := by simp
  exact (Upd.setCell W b 0 v0 hb [b] one).trans ((Upd.setCell _ b 1 v1 b1 [b] one).trans ((Upd.setCell _ b 2 v2 b2 [b] one).trans ((Upd.setCell _ b 3 v3 b3 [b] one).trans (Upd.setCell _ b 4 v4 b4 [b] one) (fun _ _ h => h)) (fun _ _ h => h)) (fun _ _ h => h)) (fun _ _ h => h)
theorem foot_count (g : Nat) (v c : Value) (ks : List Kid) (k : Nat) : (foot g v c ks).count k = (if g = k then 1 else 0) + (ownB v).count k + (ownB c).count k + (ks.flatMap Kid.ft).count k := by
  rw [foot, List.count_cons, List.count_append, List.count_append]
  by_cases e : g = k
  · simp [e]; omega
  · simp [e]; omega
theorem count_one (b k : Nat) : [b].count k = if b = k then 1 else 0 := by
  rw [List.count_singleton]
  by_cases e : b = k <;> simp [e]
/-- What split leaves: the middle item, the left half in the old node, the right half in a new one. -/
structure Halves (w w' : World) (h : Nat) (t : Kid) (m : Item) (l r : Kid) : Prop where
  left : Tree w' h 15 l
  right : Tree w' h 15 r
  g : l.g = t.g
  fl : t.fl = l.fl ++ m :: r.fl
  upd : Upd w w' t.ft
  fresh : Fresh w t.ft (l.ft ++ r.ft)

theorem flat_join {I J : List Item} {A K : List Kid} {x : Item} (h : A.length = I.length + 1) : flat (I ++ x :: J) (A ++ K) = flat I A ++ x :: flat J K := by
  unfold flat
  rw [List.map_append]
  exact mix_join I (A.map Kid.fl) (K.map Kid.fl) x J (by simpa using h)
theorem flat_join0 {I J : List Item} {x : Item} : flat (I ++ x :: J) [] = flat I [] ++ x :: flat J [] := rfl
theorem halves_mk {w Wf : World} {h lo : Nat} {t : Kid} {v c : Value} {its : List Item} {ks : List Kid} (N : NT w (Below1 w h) h lo t v c its ks) (hl : its.length = 31) (hsep : Sep t)
    (F : List Nat) (hu : Upd w Wf F) (hF : ∀ k, k < w.heap.size → 0 < F.count k → 0 < (if t.g = k then 1 else 0) + (ownB v).count k + (ownB c).count k)
    (v15 c15 v' c' : Value) (rb : Nat) (hg : Blk Wf t.g 65 [v15, c15]) (hr : Wf.ownsRow 0 105 5 v15 15 ((its.take 15).flatMap encI)) (hk : Wf.ownsRow 0 59 1 c15 (ks.take 16).length ((ks.take 16).map (fun k => ptr k.g)))
    (hrb : Blk Wf rb 65 [v', c']) (hr' : Wf.ownsRow 0 105 5 v' 15 ((its.drop 16).flatMap encI)) (hk' : Wf.ownsRow 0 59 1 c' (ks.drop 16).length ((ks.drop 16).map (fun k => ptr k.g)))
    (hv15 : ownB v15 = ownB v) (hc15 : ownB c15 = ownB c) (hleaf : h = 0 → c15 = .slice none 0 0 ∧ c' = .slice none 0 0)
    (hrbs : w.heap.size ≤ rb) (hf1 : ∀ k, k < w.heap.size → (ownB v').count k = 0 ∧ (ownB c').count k = 0) (hf2 : ∀ k, (if rb = k then 1 else 0) + (ownB v').count k + (ownB c').count k ≤ 1) :
    Halves w Wf h t (its[15]'(by omega)) ⟨t.g, flat (its.take 15) (ks.take 16), foot t.g v15 c15 (ks.take 16)⟩ ⟨rb, flat (its.drop 16) (ks.drop 16), foot rb v' c' (ks.drop 16)⟩ := by
  have hcnt := nt_count N
  have hkids : ∀ x ∈ ks, Below1 Wf h x := fun x hx => below1_upd hu (N.kids x hx) (fun k hk => by
    have h1 := count_mem hx k
    have h2 := hsep k
    have h3 : k < w.heap.size := by
      rcases Nat.lt_or_ge k w.heap.size with h | h
      · exact h
      · have := below1_lt (N.kids x hx) k h; omega
    rw [hcnt] at h2
    rcases Nat.eq_zero_or_pos (F.count k) with h | h
    · exact h
    · have := hF k h3 h; omega)
  have hsum : ∀ k, (ks.flatMap Kid.ft).count k = ((ks.take 16).flatMap Kid.ft).count k + ((ks.drop 16).flatMap Kid.ft).count k := fun k => by
    rw [← List.count_append, ← List.flatMap_append, List.take_append_drop]
  have hits : its = its.take 15 ++ its[15]'(by omega) :: its.drop 16 := by rw [List.getElem_cons_drop, List.take_append_drop]
  refine ⟨tree_iff.2 ⟨v15, c15, its.take 15, ks.take 16, hg, ?_, hk, ?_, ?_, ?_, fun x hx => hkids x (List.mem_of_mem_take hx), rfl, rfl⟩, tree_iff.2 ⟨v', c', its.drop 16, ks.drop 16, hrb, ?_, hk', ?_, ?_, ?_, fun x hx => hkids x (List.mem_of_mem_drop hx), rfl, rfl⟩, rfl, ?_, ?_, ?_⟩
  · rw [List.length_take, hl]; exact hr
  · rw [List.length_take, hl]; decide
  · intro h0; exact ⟨by rw [(N.leaf h0).1]; rfl, (hleaf h0).1⟩
  · intro h0; have := N.inner h0; rw [List.length_take, List.length_take]; omega
  · rw [List.length_drop, hl]; exact hr'
  · rw [List.length_drop, hl]; decide
  · intro h0; exact ⟨by rw [(N.leaf h0).1]; rfl, (hleaf h0).2⟩
  · intro h0; have := N.inner h0; rw [List.length_drop, List.length_drop]; omega
  · rw [N.fl]
    rcases Nat.eq_zero_or_pos h with h0 | h0
    · rw [(N.leaf h0).1]
      exact hits
    · have h1 := N.inner h0
      have h2 := flat_join (I := its.take 15) (J := its.drop 16) (A := ks.take 16) (K := ks.drop 16) (x := its[15]'(by omega)) (by rw [List.length_take, List.length_take]; omega)
      rw [← hits, List.take_append_drop] at h2
      exact h2
  · exact hu.mono (fun k hk hc => by
      rcases Nat.eq_zero_or_pos (F.count k) with h | h
      · exact h
      · have := hF k hk h
        rw [hcnt] at hc
        omega)
  · intro k
    rw [List.count_append, foot_count, foot_count, hv15, hc15]
    have h1 := hcnt k
    have h2 := hsum k
    have h3 := hf2 k
    refine ⟨fun hk => ?_, fun hk => ?_⟩
    · have h4 := hf1 k hk
      rw [if_neg (show ¬ rb = k by omega)]
      omega
    · have h5 := N.blk.lt
      have h6 := owns_lt N.row k hk
      have h7 := owns_lt N.krow k hk
      have h8 := kids_lt N.kids k hk
      rw [if_neg (show ¬ t.g = k by omega)]
      omega
set_option maxHeartbeats 8000000 in
set_option maxRecDepth 100000 in
theorem split64 (h lo : Nat) (t : Kid) (v c : Value) (its : List Item) (ks : List Kid) (w : World) (N : NT w (Below1 w h) h lo t v c its ks) (hl : its.length = 31) (hsep : Sep t) :
    Calls Try.prog 64 #[ptr t.g] w fun e w' => ∃ m l r, e = .returned (.tuple #[aggI m, ptr r.g]) ∧ Halves w w' h t m l r := by
  obtain ⟨m, hm⟩ : ∃ m, m = its[15]'(by omega) := ⟨_, rfl⟩
  have hi15 : 15 < its.length := by omega
  obtain ⟨r, cap, hv, hcap, hcap2, hown, hrl, d0, d1, d2, d3, d4, -⟩ := row_item N.row hi15
  rw [← hm] at d0 d1 d2 d3 d4
  rw [hl] at hv hcap
  obtain ⟨Wa, hWa⟩ : ∃ Wa, Wa = (w.alloc (.cells #[.string ⟨#[]⟩, .string ⟨#[]⟩, .string ⟨#[]⟩, .bool false, .bool false] 105)).alloc (.cells #[strV m.1, strV m.2.1, strV m.2.2.1, .bool m.2.2.2.1, .bool m.2.2.2.2] 105) := ⟨_, rfl⟩
  have hua : Upd w Wa [] := by rw [hWa]; exact (Upd.alloc w _ _).trans (Upd.alloc _ _ _) (fun _ _ h => h)
  have hR0 : Blk Wa w.heap.size 105 [.string ⟨#[]⟩, .string ⟨#[]⟩, .string ⟨#[]⟩, .bool false, .bool false] := by
    rw [hWa]; exact (blk_new w _ _).upd (Upd.alloc _ _ []) (by simp)
  have hM0 : Blk Wa (w.heap.size + 1) 105 [strV m.1, strV m.2.1, strV m.2.2.1, .bool m.2.2.2.1, .bool m.2.2.2.2] := by
    have := blk_new (w.alloc (.cells #[.string ⟨#[]⟩, .string ⟨#[]⟩, .string ⟨#[]⟩, .bool false, .bool false] 105)) [strV m.1, strV m.2.1, strV m.2.2.1, .bool m.2.2.2.1, .bool m.2.2.2.2] 105
    rw [size_alloc', ] at this
    rw [hWa]; exact this
  have hsa : Wa.heap.size = w.heap.size + 2 := by rw [hWa, size_alloc', size_alloc']
  -- the row
  obtain ⟨S, hbr, hSl⟩ : ∃ S, Blk w r 105 (its.flatMap encI ++ S) ∧ (its.flatMap encI ++ S).length = cap * 5 := by
    rcases owns_cases N.row with ⟨h1, h2, _⟩ | ⟨g', cap', S, h1, h2, _, _, h5, _⟩
    · omega
    · rw [hv, hl] at h1; cases h1; exact ⟨S, h2, h5⟩
  have hbra := hbr.upd hua (by simp)
  have hflat : its.flatMap encI ++ S = (its.take 16).flatMap encI ++ ((its.drop 16).flatMap encI ++ S) := by
    rw [← List.append_assoc, ← List.flatMap_append, List.take_append_drop]
  have X := clone73 ⟨r, 80, none⟩ 15 (cap - 16) ((its.drop 16).flatMap encI) Wa (by rw [flatI_len, List.length_drop]; omega) (fun j u hj => by
    rw [Addr.add_lit]
    have h1 := hbra
    rw [hflat] at h1
    have := blk_get h1 j u hj
    rw [flatI_len, List.length_take, hl] at this
    exact this) (flatI_one _) (by omega)
  obtain ⟨q0, q1, -, -⟩ := N.blk.two
  have hc16 : ¬ cap = 16 := by omega
  have hc15 : ¬ cap = 15 := by omega
  have N0 : Hid (NT w (Below1 w h) h lo t v c its ks) := N
  have HM : Hid (m = its[15]'(by omega)) := hm
  have HSL : Hid ((its.flatMap encI ++ S).length = cap * 5) := hSl
  have HFL : Hid (its.flatMap encI ++ S = (its.take 16).flatMap encI ++ ((its.drop 16).flatMap encI ++ S)) := hflat
  have hg := N.blk.lt
  clear N hm hSl hflat
  subst hv
  obtain ⟨mk, ms, me, mt, mo⟩ := m
  simp only at d0 d1 d2 d3 d4 hM0 hWa
  subst hWa
  go_enter Try.func64, Try.ntmps64
  go_wp2_with (go_at_call 73; refine X.mono ?_; rintro e w1 ⟨v', rfl, ho, hu1, hf1⟩; revert hf1)
  intro hf1
  have hu1 : Upd _ w1 [] := hu1
  obtain ⟨r', cap', rfl⟩ : ∃ r' cap', v' = .slice (some ⟨r', 0, none⟩) 15 cap' := by
    rcases owns_cases ho with ⟨_, h2, _⟩ | ⟨g', cap', S, h1, _⟩
    · omega
    · exact ⟨_, _, h1⟩
  have hu01 := hua.trans hu1 (fun _ _ h => h)
  have N1 := nt_upd0 N0.out hu01
  obtain ⟨q0', q1', qf0, qf1⟩ := N1.blk.two
  have hbr1 := hbr.upd hu01 (by simp)
  have hM1 := hM0.upd hu1 (by simp)
  have hR1 := hR0.upd hu1 (by simp)
  have hsz1 : w.heap.size + 2 ≤ w1.heap.size := by have := hu1.size; omega
  have hf1' : ∀ k, k < w.heap.size → (ownB (.slice (some ⟨r', 0, none⟩) 15 cap')).count k = 0 := fun k hk => by have := (hf1 k).1 (by omega); simpa [ownB, Value.ownBlock] using this
  have hfz := hf1
  clear X hu1 hf1 hM0 hR0 hua hbra hbr q0 q1 d0 d1 d2 d3 d4
  have hcnt := nt_count N0.out
  have hgr : t.g ≠ r := fun e => by
    have h1 := hsep r
    rw [hcnt, hown, if_pos e] at h1
    simp at h1
    omega
  -- the new node
  obtain ⟨W2, hW2⟩ : ∃ W2, W2 = w1.alloc (.cells #[(.slice (some ⟨r', 0, none⟩) 15 cap'), .slice none 0 0] 65) := ⟨_, rfl⟩
  have hu2 : Upd w1 W2 [] := by rw [hW2]; exact Upd.alloc _ _ _
  have hrb2 : Blk W2 w1.heap.size 65 [(.slice (some ⟨r', 0, none⟩) 15 cap'), .slice none 0 0] := by rw [hW2]; exact blk_new _ _ _
  obtain ⟨z, hz⟩ : ∃ z : Value, z = Value.agg #[.string ByteArray.empty, .string ByteArray.empty, .string ByteArray.empty, .bool false, .bool false] := ⟨_, rfl⟩
  have hzsz : z.cells.size = 5 := by rw [hz]; rfl
  obtain ⟨Z, hZ⟩ : ∃ Z, Z = (Builtin.zeroCells z.cells 16).toList := ⟨_, rfl⟩
  have hZl : Z.length = 80 := by rw [hZ, Array.length_toList, size_zeroCells, hzsz]
  have hbr2 := hbr1.upd hu2 (by simp)
  have hfl15 : its.flatMap encI ++ S = (its.take 15).flatMap encI ++ ((its.drop 15).flatMap encI ++ S) := by
    rw [← List.append_assoc, ← List.flatMap_append, List.take_append_drop]
  have hl15 : ((its.take 15).flatMap encI).length = 75 := by rw [flatI_len, List.length_take, hl]; rfl
  have hd15 : ((its.drop 15).flatMap encI).length = 80 := by rw [flatI_len, List.length_drop, hl]
  obtain ⟨W3, hW3⟩ : ∃ W3, W3 = W2.setCells r 75 Z := ⟨_, rfl⟩
  have hcl : ∀ ty, (Builtin.clear_ #[62] ty #[.slice (some ⟨r, 75, none⟩) 16 (cap - 15)]).run Try.prog W2 = .ok (.tuple #[]) W3 := fun ty => by
    rw [hW3, hZ]
    have hln : (its.flatMap encI ++ S).length = cap * 5 := HSL.out
    refine run_clearK W2 62 105 ty z Try.underlying62 (by rw [hz]; exact Try.zeroValue105) r 75 16 _ (by omega) (zero_cells_one (by rw [hz]; decide) (by omega)) ?_ ?_
    · intro j hj
      rw [size_zeroCells, hzsz] at hj
      exact blk_some hbr2 (by omega)
    · intro j hj
      exact hbr2.free _
  have hbr3 : Blk W3 r 105 ((its.take 15).flatMap encI ++ (Z ++ S)) := by
    have h1 := hbr2
    rw [hfl15] at h1
    have h2 := blk_put Z h1 (by rw [hd15, hZl])
    rw [hl15, ← hW3] at h2
    exact h2
  have hu3 : Upd W2 W3 [r] := by rw [hW3]; exact upd_setCells [r] (by simp) Z _ hbr2
  have hc3 : ∀ b, b ≠ r → [r].count b = 0 := fun b hb => List.count_eq_zero.2 (by simpa using hb)
  have hg3 : Blk W3 t.g 65 [.slice (some ⟨r, 0, none⟩) 31 cap, c] := (N1.blk.upd hu2 (by simp)).upd hu3 (hc3 _ hgr)
  have hM3 := (hM1.upd hu2 (by simp)).upd hu3 (hc3 _ (by omega))
  have hR3 := (hR1.upd hu2 (by simp)).upd hu3 (hc3 _ (by omega))
  have hrb3 := hrb2.upd hu3 (hc3 _ (by omega))
  have ho3 : W3.ownsRow 0 105 5 (.slice (some ⟨r', 0, none⟩) 15 cap') 15 ((its.drop 16).flatMap encI) := owns_upd (owns_upd ho hu2 (fun _ _ => by simp)) hu3 (fun k hk => hc3 _ (fun e => by subst e; have := hf1' k hrl; omega))
  have hoB : (ownB (.slice (some ⟨r', 0, none⟩) 15 cap')).count w1.heap.size = 0 := owns_lt ho _ (Nat.le_refl _)
  have hu03 : Upd w W3 [r] := (hu01.trans hu2 (fun _ _ h => h)).mono (fun k _ _ => by simp) |>.trans hu3 (fun _ _ h => h)
  have hoZ : (ownB (.slice (some ⟨r', 0, none⟩) 15 cap')).count w.heap.size = 0 := by
    have := (hfz w.heap.size).1 (by omega)
    simpa [ownB, Value.ownBlock] using this
  clear hZ hz hzsz hbr1 hbr2 hW3 hu3 hu2 hrb2 hM1 hR1 hfl15
  obtain ⟨g0, g1, gf0, gf1⟩ := hg3.two
  obtain ⟨m0, m1, m2, m3, m4, mf0, mf1, mf2, mf3, mf4⟩ := hM3.five
  obtain ⟨e0, e1, e2, e3, e4, ef0, ef1, ef2, ef3, ef4⟩ := hR3.five
  obtain ⟨r0, r1, rf0, rf1⟩ := hrb3.two
  clear hu01
  have hg1 : t.g < w1.heap.size := by omega
  have hgn : ¬ t.g = w1.heap.size := by omega
  cases h with
  | zero =>
    obtain ⟨hks, hc⟩ := N0.out.leaf rfl
    subst hks
    subst hc
    have hnil := neq63 none 0 0 0 0
    simp only [Option.isSome_none] at hnil
    obtain ⟨Wf, hWf⟩ : ∃ Wf, Wf = ((((((W3.setCell ⟨t.g, 0, none⟩ (.slice (some ⟨r, 0, none⟩) 15 cap)).setCell ⟨w.heap.size, 0, none⟩ (strV mk)).setCell ⟨w.heap.size, 1, none⟩ (strV ms)).setCell ⟨w.heap.size, 2, none⟩ (strV me)).setCell ⟨w.heap.size, 3, none⟩ (.bool mt)).setCell ⟨w.heap.size, 4, none⟩ (.bool mo)) := ⟨_, rfl⟩
    have FIN : Hid (∃ l, Halves w Wf 0 t (mk, ms, me, mt, mo) l ⟨w1.heap.size, flat (its.drop 16) [], foot w1.heap.size (.slice (some ⟨r', 0, none⟩) 15 cap') (.slice none 0 0) []⟩) := by
      have hg4 := hg3.set 0 (.slice (some ⟨r, 0, none⟩) 15 cap)
      have u4 := Upd.setCell W3 t.g 0 (.slice (some ⟨r, 0, none⟩) 15 cap) hg3 [t.g] (by simp)
      have hR4 := hR3.upd u4 (by rw [count_one, if_neg (by omega)])
      have u5 := upd_set5 hR4 (strV mk) (strV ms) (strV me) (.bool mt) (.bool mo)
      rw [← hWf] at u5
      have c4 : ∀ b, b ≠ t.g → [t.g].count b = 0 := fun b hb => by rw [count_one, if_neg (fun e => hb e.symm)]
      have c5 : ∀ b, b ≠ w.heap.size → [w.heap.size].count b = 0 := fun b hb => by rw [count_one, if_neg (fun e => hb e.symm)]
      have hgf := hg4.upd u5 (c5 _ (by omega))
      have hrf := (hbr3.upd u4 (c4 _ (fun e => hgr e.symm))).upd u5 (c5 _ (by omega))
      have hrbf := (hrb3.upd u4 (c4 _ (by omega))).upd u5 (c5 _ (by omega))
      have hof := owns_upd (owns_upd ho3 u4 (fun k hk => c4 _ (fun e => by subst e; have := hf1' t.g hg; omega))) u5 (fun k hk => c5 _ (fun e => by subst e; have := hoZ; omega))
      have hM := HM.out
      rw [hM]
      have hUf : Upd w Wf [t.g, r] := by
        refine (hu03.mono (fun k _ h => ?_)).trans ((u4.mono (fun k _ h => ?_)).trans (u5.mono (G := [t.g, r, w.heap.size]) (fun k _ h => ?_)) (fun k _ h => h)) (fun k hk h => ?_)
        all_goals (try (simp only [List.count_cons, List.count_nil, beq_iff_eq] at h ⊢))
        all_goals (repeat' split at h)
        all_goals (repeat' split)
        all_goals omega
      refine ⟨_, halves_mk N0.out hl hsep [t.g, r] hUf ?_ (.slice (some ⟨r, 0, none⟩) 15 cap) (.slice none 0 0) (.slice (some ⟨r', 0, none⟩) 15 cap') (.slice none 0 0) w1.heap.size hgf ?_ (World.ownsRow_nil _ _ _ _) hrbf hof (World.ownsRow_nil _ _ _ _) rfl rfl (fun _ => ⟨rfl, rfl⟩) (by omega) (fun k hk => ⟨hf1' k hk, rfl⟩) ?_⟩
      · intro k hk hc
        rw [hown, count_one]
        simp only [List.count_cons, List.count_nil, beq_iff_eq] at hc
        omega
      · refine owns_mk hrf hl15 (by omega) hcap2 ?_
        have h1 := HSL.out
        rw [List.length_append, flatI_len, hl] at h1
        rw [List.length_append, hl15, List.length_append, hZl]
        omega
      · intro k
        have h1 := ownB_le (.slice (some ⟨r', 0, none⟩) 15 cap') k
        by_cases e : w1.heap.size = k
        · subst e
          rw [if_pos rfl, hoB]
          simp [ownB, Value.ownBlock]
        · rw [if_neg e]
          simp only [show (ownB (.slice none 0 0)).count k = 0 from rfl]
          omega
    subst hW2
    clear hg3 hM3 hR3 hrb3 hbr3 ho3 hu03 N1
    go_wp2
    rw [← hWf]
    obtain ⟨l, hl'⟩ := FIN.out
    exact bodyPost_ret (v := .tuple #[aggI (mk, ms, me, mt, mo), ptr w1.heap.size]) (by simp [results, Try.results64, go_sem, hWf, *]) rfl ⟨_, l, _, rfl, hl'⟩
  | succ h =>
    have hkl : ks.length = 32 := by have := N0.out.inner (by omega); omega
    have hi16 : 16 < ks.length := by omega
    obtain ⟨rc, capc, hc, hcapc, hcapc2, hownc, hrcl, -⟩ := row_kid N0.out.krow hi16
    rw [hkl] at hc hcapc
    subst hc
    obtain ⟨Sc, hbc, hScl⟩ : ∃ Sc, Blk w rc 59 (ks.map (fun k => ptr k.g) ++ Sc) ∧ (ks.map (fun k => ptr k.g) ++ Sc).length = capc * 1 := by
      rcases owns_cases N0.out.krow with ⟨h1, h2, _⟩ | ⟨g', cap', S, h1, h2, _, _, h5, _⟩
      · omega
      · rw [hkl] at h1; cases h1; exact ⟨S, h2, h5⟩
    have hgc : t.g ≠ rc := fun e => by
      have h1 := hsep rc
      rw [hcnt, hownc, if_pos e] at h1
      simp at h1
      omega
    have hrc : r ≠ rc := fun e => by
      have h1 := hsep rc
      rw [hcnt, hownc, hown, e] at h1
      simp at h1
      omega
    have c4 : ∀ b, b ≠ t.g → [t.g].count b = 0 := fun b hb => by rw [count_one, if_neg (fun e => hb e.symm)]
    have hg4 := hg3.set 0 (.slice (some ⟨r, 0, none⟩) 15 cap)
    have u4 := Upd.setCell W3 t.g 0 (.slice (some ⟨r, 0, none⟩) 15 cap) hg3 [t.g] (by simp)
    obtain ⟨W4, hW4⟩ : ∃ W4, W4 = W3.setCell ⟨t.g, 0, none⟩ (.slice (some ⟨r, 0, none⟩) 15 cap) := ⟨_, rfl⟩
    rw [← hW4] at hg4 u4
    have hM4 := hM3.upd u4 (c4 _ (by omega))
    have hR4 := hR3.upd u4 (c4 _ (by omega))
    have hrb4 := hrb3.upd u4 (c4 _ (by omega))
    have hbr4 := hbr3.upd u4 (c4 _ (fun e => hgr e.symm))
    have ho4 := owns_upd ho3 u4 (fun k hk => c4 _ (fun e => by subst e; have := hf1' t.g hg; omega))
    have hu04 : Upd w W4 [t.g, r] := by
      refine (hu03.mono (fun k _ h => ?_)).trans (u4.mono (G := [t.g, r]) (fun k _ h => ?_)) (fun k hk h => h)
      all_goals (simp only [List.count_cons, List.count_nil, beq_iff_eq] at h ⊢)
      all_goals (repeat' split at h)
      all_goals (repeat' split)
      all_goals omega
    have hbc4 := hbc.upd hu04 (by simp only [List.count_cons, List.count_nil, beq_iff_eq, if_neg hgc, if_neg hrc])
    have hsz4 : w1.heap.size + 1 ≤ W4.heap.size := by have := hrb4.lt; omega
    have hcflat : ks.map (fun k => ptr k.g) ++ Sc = (ks.take 16).map (fun k => ptr k.g) ++ ((ks.drop 16).map (fun k => ptr k.g) ++ Sc) := by
      rw [← List.append_assoc, ← List.map_append, List.take_append_drop]
    have hct : ((ks.take 16).map (fun k => ptr k.g)).length = 16 := by rw [List.length_map, List.length_take, hkl]; rfl
    have hcd : ((ks.drop 16).map (fun k => ptr k.g)).length = 16 := by rw [List.length_map, List.length_drop, hkl]
    have hbc4' := hbc4
    rw [hcflat] at hbc4'
    have X := clone74 ⟨rc, 16, none⟩ 16 (capc - 16) ((ks.drop 16).map (fun k => ptr k.g)) W4 (by rw [hcd]) (fun j u hj => by
      rw [Addr.add_lit]
      have := blk_get hbc4' j u hj
      rw [hct] at this
      exact this) (ptrs_one _) (by omega)
    have hnil := neq63 (some ⟨rc, 0, none⟩) 32 capc 0 0
    simp only [Option.isSome_some] at hnil
    have hcc16 : ¬ capc = 16 := by omega
    subst hW2
    have HU03 : Hid (Upd w W4 [t.g, r]) := hu04
    clear hg3 hM3 hR3 hrb3 hbr3 ho3 hu03 N1 hu04 hbc
    subst hW4
    go_wp2_with (go_at_call 74; refine X.mono ?_; rintro e w5 ⟨v5, rfl, ho5, hu5, hf5⟩; revert hf5)
    intro hf5
    have hu5 : Upd _ w5 [] := hu5
    obtain ⟨rc', capc', rfl⟩ : ∃ r' cap', v5 = .slice (some ⟨r', 0, none⟩) 16 cap' := by
      rcases owns_cases ho5 with ⟨_, h2, _⟩ | ⟨g', cap', S, h1, _⟩
      · omega
      · exact ⟨_, _, h1⟩
    generalize W3.setCell ⟨t.g, 0, none⟩ (.slice (some ⟨r, 0, none⟩) 15 cap) = W4 at *
    clear X hcl
    have hg5 := hg4.upd hu5 (by simp)
    simp only [List.set_cons_zero] at hg5
    have hM5 := hM4.upd hu5 (by simp)
    have hR5 := hR4.upd hu5 (by simp)
    have hrb5 := hrb4.upd hu5 (by simp)
    have hbr5 := hbr4.upd hu5 (by simp)
    have hbc5 := hbc4'.upd hu5 (by simp)
    have ho5' := owns_upd ho4 hu5 (fun _ _ => by simp)
    have hu05 := HU03.out.trans hu5 (fun _ _ _ => by simp)
    have hf5' : ∀ k, k < W4.heap.size → (ownB (.slice (some ⟨rc', 0, none⟩) 16 capc')).count k = 0 := fun k hk => by have := (hf5 k).1 hk; simpa [ownB, Value.ownBlock] using this
    have hrc4 : W4.heap.size ≤ rc' := by
      rcases Nat.lt_or_ge rc' W4.heap.size with h | h
      · have := hf5' rc' h; simp [ownB, Value.ownBlock] at this
      · exact h
    have hsz5 := hu5.size
    -- right.children
    obtain ⟨W5, hW5⟩ : ∃ W5, W5 = w5.setCell ⟨w1.heap.size, 1, none⟩ (.slice (some ⟨rc', 0, none⟩) 16 capc') := ⟨_, rfl⟩
    have u6 : Upd w5 W5 [w1.heap.size] := by rw [hW5]; exact Upd.setCell w5 _ 1 _ hrb5 _ (by simp)
    have cb : ∀ b, b ≠ w1.heap.size → [w1.heap.size].count b = 0 := fun b hb => by rw [count_one, if_neg (fun e => hb e.symm)]
    have hrb6 : Blk W5 w1.heap.size 65 [.slice (some ⟨r', 0, none⟩) 15 cap', .slice (some ⟨rc', 0, none⟩) 16 capc'] := by rw [hW5]; exact hrb5.set 1 _
    have hg6 := hg5.upd u6 (cb _ (by omega))
    have hM6 := hM5.upd u6 (cb _ (by omega))
    have hR6 := hR5.upd u6 (cb _ (by omega))
    have hbr6 := hbr5.upd u6 (cb _ (by omega))
    have hbc6 := hbc5.upd u6 (cb _ (by omega))
    have ho6 := owns_upd ho5' u6 (fun k hk => cb _ (fun e => by subst e; omega))
    have hoc6 := owns_upd ho5 u6 (fun k hk => cb _ (fun e => by subst e; have := hf5' w1.heap.size (by omega); omega))
    -- clear(children)
    obtain ⟨Zc, hZc⟩ : ∃ Zc, Zc = (Builtin.zeroCells (Value.pointer none).cells 16).toList := ⟨_, rfl⟩
    have hZcl : Zc.length = 16 := by rw [hZc, Array.length_toList, size_zeroCells]; rfl
    obtain ⟨W6, hW6⟩ : ∃ W6, W6 = W5.setCells rc 16 Zc := ⟨_, rfl⟩
    have hcl : ∀ ty, (Builtin.clear_ #[63] ty #[.slice (some ⟨rc, 16, none⟩) 16 (capc - 16)]).run Try.prog W5 = .ok (.tuple #[]) W6 := fun ty => by
      rw [hW6, hZc]
      refine run_clearK W5 63 59 ty (.pointer none) Try.underlying63 Try.zeroValue59 rc 16 16 _ (by omega) (zero_cells_one (by decide) (by decide)) ?_ ?_
      · intro j hj
        rw [size_zeroCells, show (Value.pointer none).cells.size = 1 from rfl] at hj
        refine blk_some hbc6 ?_
        rw [List.length_append, List.length_append, hct, hcd]
        omega
      · intro j hj
        exact hbc6.free _
    have hbc7 : Blk W6 rc 59 ((ks.take 16).map (fun k => ptr k.g) ++ (Zc ++ Sc)) := by
      have h2 := blk_put Zc hbc6 (by rw [hcd, hZcl])
      rw [hct, ← hW6] at h2
      exact h2
    have u7 : Upd W5 W6 [rc] := by rw [hW6]; exact upd_setCells [rc] (by simp) Zc _ hbc6
    have cc : ∀ b, b ≠ rc → [rc].count b = 0 := fun b hb => by rw [count_one, if_neg (fun e => hb e.symm)]
    have hg7 := hg6.upd u7 (cc _ hgc)
    have hM7 := hM6.upd u7 (cc _ (by omega))
    have hR7 := hR6.upd u7 (cc _ (by omega))
    have hbr7 := hbr6.upd u7 (cc _ hrc)
    have hrb7 := hrb6.upd u7 (cc _ (by omega))
    have ho7 := owns_upd ho6 u7 (fun k hk => cc _ (fun e => by subst e; have := hf1' k hrcl; omega))
    have hoc7 := owns_upd hoc6 u7 (fun k hk => cc _ (fun e => by subst e; have := hf5' k (by omega); omega))
    obtain ⟨Wf, hWf⟩ : ∃ Wf, Wf = ((((((W6.setCell ⟨t.g, 1, none⟩ (.slice (some ⟨rc, 0, none⟩) 16 capc)).setCell ⟨w.heap.size, 0, none⟩ (strV mk)).setCell ⟨w.heap.size, 1, none⟩ (strV ms)).setCell ⟨w.heap.size, 2, none⟩ (strV me)).setCell ⟨w.heap.size, 3, none⟩ (.bool mt)).setCell ⟨w.heap.size, 4, none⟩ (.bool mo)) := ⟨_, rfl⟩
    have FIN : Hid (∃ l, Halves w Wf (h + 1) t (mk, ms, me, mt, mo) l ⟨w1.heap.size, flat (its.drop 16) (ks.drop 16), foot w1.heap.size (.slice (some ⟨r', 0, none⟩) 15 cap') (.slice (some ⟨rc', 0, none⟩) 16 capc') (ks.drop 16)⟩) := by
      have hg8 := hg7.set 1 (.slice (some ⟨rc, 0, none⟩) 16 capc)
      have u8 := Upd.setCell W6 t.g 1 (.slice (some ⟨rc, 0, none⟩) 16 capc) hg7 [t.g] (by simp)
      have hR8 := hR7.upd u8 (c4 _ (by omega))
      have u9 := upd_set5 hR8 (strV mk) (strV ms) (strV me) (.bool mt) (.bool mo)
      rw [← hWf] at u9
      have c5 : ∀ b, b ≠ w.heap.size → [w.heap.size].count b = 0 := fun b hb => by rw [count_one, if_neg (fun e => hb e.symm)]
      have hgf := hg8.upd u9 (c5 _ (by omega))
      have hrf := (hbr7.upd u8 (c4 _ (fun e => hgr e.symm))).upd u9 (c5 _ (by omega))
      have hcf := (hbc7.upd u8 (c4 _ (fun e => hgc e.symm))).upd u9 (c5 _ (by omega))
      have hrbf := (hrb7.upd u8 (c4 _ (by omega))).upd u9 (c5 _ (by omega))
      have hof := owns_upd (owns_upd ho7 u8 (fun k hk => c4 _ (fun e => by subst e; have := hf1' t.g hg; omega))) u9 (fun k hk => c5 _ (fun e => by subst e; have := hoZ; omega))
      have hocf := owns_upd (owns_upd hoc7 u8 (fun k hk => c4 _ (fun e => by subst e; have := hf5' t.g (by omega); omega))) u9 (fun k hk => c5 _ (fun e => by subst e; have := hf5' w.heap.size (by omega); omega))
      have hM := HM.out
      rw [hM]
      have hUf : Upd w Wf [t.g, r, rc] := by
        have z1 : Upd w w5 [t.g, r, rc] := hu05.mono (fun k _ h => by
          simp only [List.count_cons, List.count_nil, beq_iff_eq] at h ⊢
          omega)
        have z2 : Upd w W5 [t.g, r, rc] := z1.trans u6 (fun k hk _ => cb _ (by omega))
        have z3 : Upd w W6 [t.g, r, rc] := z2.trans u7 (fun k hk h => by
          simp only [List.count_cons, List.count_nil, beq_iff_eq] at h ⊢
          omega)
        have z4 := z3.trans u8 (fun k hk h => by
          simp only [List.count_cons, List.count_nil, beq_iff_eq] at h ⊢
          omega)
        exact z4.trans u9 (fun k hk _ => c5 _ (by omega))
      have hks16 : (ks.take 16).length = 16 := by rw [List.length_take, hkl]; rfl
      have hks16' : (ks.drop 16).length = 16 := by rw [List.length_drop, hkl]
      refine ⟨_, halves_mk N0.out hl hsep [t.g, r, rc] hUf ?_ (.slice (some ⟨r, 0, none⟩) 15 cap) (.slice (some ⟨rc, 0, none⟩) 16 capc) (.slice (some ⟨r', 0, none⟩) 15 cap') (.slice (some ⟨rc', 0, none⟩) 16 capc') w1.heap.size hgf ?_ ?_ hrbf hof (by rw [hks16']; exact hocf) rfl rfl (fun h => by omega) (by omega) (fun k hk => ⟨hf1' k hk, hf5' k (by omega)⟩) ?_⟩
      · intro k hk hc
        rw [hown, hownc, count_one, count_one]
        simp only [List.count_cons, List.count_nil, beq_iff_eq] at hc
        omega
      · refine owns_mk hrf hl15 (by omega) hcap2 ?_
        have h1 := HSL.out
        rw [List.length_append, flatI_len, hl] at h1
        rw [List.length_append, hl15, List.length_append, hZl]
        omega
      · rw [hks16]
        refine owns_mk hcf (by rw [hct]) (by omega) hcapc2 ?_
        rw [hcflat, List.length_append, List.length_append, hct, hcd] at hScl
        rw [List.length_append, List.length_append, hct, hZcl]
        omega
      · intro k
        have h1 := ownB_le (.slice (some ⟨r', 0, none⟩) 15 cap') k
        have h2 := ownB_le (.slice (some ⟨rc', 0, none⟩) 16 capc') k
        have h3 : k < W4.heap.size → (ownB (.slice (some ⟨rc', 0, none⟩) 16 capc')).count k = 0 := hf5' k
        have h4 : W4.heap.size ≤ k → (ownB (.slice (some ⟨r', 0, none⟩) 15 cap')).count k = 0 := fun h => owns_lt ho4 k h
        by_cases e : w1.heap.size = k
        · subst e
          rw [if_pos rfl, hoB, h3 (by omega)]
          omega
        · rw [if_neg e]
          rcases Nat.lt_or_ge k W4.heap.size with h | h
          · rw [h3 h]; omega
          · rw [h4 h]; omega
    obtain ⟨g0, g1, gf0, gf1⟩ := hg5.two
    obtain ⟨r0, r1, rf0, rf1⟩ := hrb5.two
    obtain ⟨p0, p1, pf0, pf1⟩ := hg7.two
    obtain ⟨m0, m1, m2, m3, m4, mf0, mf1, mf2, mf3, mf4⟩ := hM7.five
    obtain ⟨e0, e1, e2, e3, e4, ef0, ef1, ef2, ef3, ef4⟩ := hR7.five
    have hne1 : ¬ t.g = w1.heap.size := by omega
    clear hg4 hM4 hR4 hrb4 hbr4 ho4 hbc4 hbc4' ho5 ho5' hu05 hg5 hM5 hR5 hrb5 hbr5 hbc5 hg6 hM6 hR6 hbr6 hbc6 ho6 hoc6 hbc7 hg7 hM7 hR7 hbr7 hrb7 ho7 hoc7 u4 u6 u7 hu5 hf5 hf5' hW6
    subst hW5
    go_wp2
    rw [← hWf]
    obtain ⟨l, hl'⟩ := FIN.out
    exact bodyPost_ret (v := .tuple #[aggI (mk, ms, me, mt, mo), ptr w1.heap.size]) (by simp [results, Try.results64, go_sem, hWf, *]) rfl ⟨_, l, _, rfl, hl'⟩
end Go.Proofs.Qxb6003818a
