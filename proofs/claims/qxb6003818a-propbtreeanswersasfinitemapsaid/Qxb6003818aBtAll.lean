import Derived.Test.Qxb6003818aBtJ
namespace Go.Proofs.Qxb6003818a
open Go.ChangeShapes Go.WideShapes Go.ChangeAt Go.RowKit
set_option linter.unusedVariables false
set_option linter.unusedSimpArgs false

theorem info38 : (Try.prog.info? 38).map (fun i => (i.zero, i.size, i.bytes)) = some (some (.agg #[.string ByteArray.empty, .string ByteArray.empty, .bool false, .bool false]), 4, 40) := by kernel_rfl
/-- The values between two rounds, and one cell of the steps. -/
structure Now (w : World) (vb n : Nat) (vs : List KR) (b0 o : Nat) (v : Value) (W : World) : Prop where
  row : ∃ S, Blk W vb 38 (vs.flatMap encK ++ S) ∧ (vs.flatMap encK ++ S).length = n * 4
  cell : W.cell? ⟨b0, o, none⟩ = some v
  upd : Upd w W []
theorem Now.later {w W W' : World} {vb n b0 o : Nat} {vs : List KR} {v : Value} (h : Now w vb n vs b0 o v W) (hu : Upd W W' []) : Now w vb n vs b0 o v W' := by
  obtain ⟨S, h1, h2⟩ := h.row
  exact ⟨⟨S, h1.upd hu (by simp), h2⟩, cell_upd h.cell hu, h.upd.trans hu (fun _ _ h => h)⟩
theorem flatK4 (l : List KR) : (l.flatMap encK).length = l.length * 4 := by
  induction l with
  | nil => rfl
  | cons x l ih => rw [List.flatMap_cons, List.length_append, ih, List.length_cons]; simp [encK]; omega
theorem Now.four {w W : World} {vb n b0 o i : Nat} {vs : List KR} {v : Value} (h : Now w vb n vs b0 o v W) (hn : i < n) :
    ∃ u0 u1 u2 u3, W.cell? ⟨vb, i * 4, none⟩ = some u0 ∧ W.cell? ⟨vb, i * 4 + 1, none⟩ = some u1 ∧ W.cell? ⟨vb, i * 4 + 2, none⟩ = some u2 ∧ W.cell? ⟨vb, i * 4 + 3, none⟩ = some u3 ∧ W.frozen? ⟨vb, i * 4, none⟩ = false ∧ W.frozen? ⟨vb, i * 4 + 1, none⟩ = false ∧ W.frozen? ⟨vb, i * 4 + 2, none⟩ = false ∧ W.frozen? ⟨vb, i * 4 + 3, none⟩ = false := by
  obtain ⟨S, h1, h2⟩ := h.row
  exact ⟨_, _, _, _, h1.cell (by omega), h1.cell (by omega), h1.cell (by omega), h1.cell (by omega), h1.free _, h1.free _, h1.free _, h1.free _⟩
theorem Now.put {w W : World} {vb n b0 o i : Nat} {vs : List KR} {v : Value} (h : Now w vb n vs b0 o v W) (hi : vs.length = i) (hn : i < n) (hw : w.heap.size ≤ vb) (x : KR) :
    (∃ S, Blk (W.setCells vb (i * 4) (encK x)) vb 38 ((vs ++ [x]).flatMap encK ++ S) ∧ ((vs ++ [x]).flatMap encK ++ S).length = n * 4) ∧ Upd w (W.setCells vb (i * 4) (encK x)) [] := by
  obtain ⟨S, h1, h2⟩ := h.row
  have hl : (vs.flatMap encK).length = i * 4 := by rw [flatK4, hi]
  have h4 : 4 ≤ S.length := by rw [List.length_append] at h2; omega
  have e : S = S.take 4 ++ S.drop 4 := (List.take_append_drop 4 S).symm
  have hx : (encK x).length = 4 := by simp [encK]
  have h5 := blk_put (encK x) (X := vs.flatMap encK) (Y := S.take 4) (Z := S.drop 4) (by rw [← e]; exact h1) (by rw [List.length_take, hx]; omega)
  rw [hl] at h5
  refine ⟨⟨S.drop 4, ?_, ?_⟩, ?_⟩
  · simpa [List.flatMap_append] using h5
  · simp [List.flatMap_append, hl, hx] at h2 ⊢; omega
  · exact h.upd.trans (upd_setCells [vb] (by simp) (encK x) (i * 4) h1) (fun q hq _ => by rw [count_one, if_neg (by omega)])
theorem Now.put4 {w W : World} {vb n b0 o i : Nat} {vs : List KR} {v : Value} (h : Now w vb n vs b0 o v W) (hi : vs.length = i) (hn : i < n) (hw : w.heap.size ≤ vb) (t : ByteArray) :
    ∃ (vs' : List KR) (S' : List Value), vs'.length = i + 1 ∧ Blk ((((W.setCell ⟨vb, i * 4, none⟩ (.string ⟨#[]⟩)).setCell ⟨vb, i * 4 + 1, none⟩ (.string t)).setCell ⟨vb, i * 4 + 2, none⟩ (.bool false)).setCell ⟨vb, i * 4 + 3, none⟩ (.bool false)) vb 38 (vs'.flatMap encK ++ S') ∧ (vs'.flatMap encK ++ S').length = n * 4 ∧ Upd w ((((W.setCell ⟨vb, i * 4, none⟩ (.string ⟨#[]⟩)).setCell ⟨vb, i * 4 + 1, none⟩ (.string t)).setCell ⟨vb, i * 4 + 2, none⟩ (.bool false)).setCell ⟨vb, i * 4 + 3, none⟩ (.bool false)) [] := by
  obtain ⟨⟨S, h1, h2⟩, h3⟩ := h.put hi hn hw ([], t.data.toList, false, false)
  exact ⟨vs ++ [([], t.data.toList, false, false)], S, by simp [hi], h1, h2, h3⟩
theorem made4 {w : World} {b n : Nat} {xs : List Value} (h : w.ownsRow 0 38 4 (.slice (some ⟨b, 0, none⟩) n n) n xs) : ∃ S : List Value, Blk w b 38 S ∧ S.length = n * 4 := by
  rcases owns_cases h with ⟨h1, _⟩ | ⟨g, cap, S, h1, h2, _, _, h5, _⟩
  · cases h1
  · cases h1
    exact ⟨_, h2, h5⟩

theorem run_u64 (x : Int) : 0 ≤ IntKind.u64.wrap x ∧ IntKind.u64.wrap x < 18446744073709551616 := by
  rw [IntKind.wrap_u64]; omega
set_option maxHeartbeats 8000000 in
set_option maxRecDepth 100000 in
/-- btAll, where btRun answers true on whatever values. -/
theorem all13_of (a : Option Addr) (c B n : Nat) (ops : List Op3) (ur : Bool) (rs : Int) (w : World) (hO : Ops w B a ops) (hB : B ≤ w.heap.size) (hn : n = ops.length) (hn4 : n ≤ 4096)
    (hrun : ∀ (vb : Nat) (vals : List KR) (w2 : World), Upd w w2 [] → Blk w2 vb 38 (vals.flatMap encK) → vals.length = n → Calls Try.prog 23 #[.slice a n c, .bool ur, .int .i64 rs, .slice (some ⟨vb, 0, none⟩) n n, .bool false] w2 fun e w' => e = .returned (.bool true) ∧ Upd w2 w' []) :
    Calls Try.prog 13 #[.slice a n c, .bool ur, .int .i64 rs, .bool false] w fun e w' => e = .returned (.bool true) ∧ Upd w w' [] := by
  obtain ⟨i8, hi8, hz8, hs8, hb8⟩ := info_parts info38
  have HH : Hid (Ops w B a ops ∧ B ≤ w.heap.size ∧ n = ops.length) := ⟨hO, hB, hn⟩
  clear hO hB hn
  go_enter Try.func13, Try.ntmps13
  go_wp2_with (at_make; refine wpList_make_full _ rfl _ _ 43 rfl 0 38 i8 _ 4 Try.underlying43 hi8 hz8 hs8 _ _ _ _ n rfl rfl rfl rfl (by rw [hb8]; omega) (by unfold maxLen; omega) (Nat.zero_le _) ?_; intro w1 hown1 hg1; revert hg1)
  intro hg1
  have hu1 : Upd w w1 [] := Upd.of_grown hg1
  obtain ⟨S1, hk1, hk2⟩ := made4 hown1
  have HST : Hid (Upd w w1 [] ∧ Blk w1 w.heap.size 38 S1 ∧ S1.length = n * 4) := ⟨hu1, hk1, hk2⟩
  clear hu1 hk1 hk2 hg1 hown1
  go_wp2
  obtain ⟨vb, hvb⟩ : ∃ vb, vb = w.heap.size := ⟨_, rfl⟩
  rw [← hvb] at HST ⊢
  have HVB : Hid (vb = w.heap.size) := hvb
  clear hvb
  go_loopg [11] n (fun kx s11 wr => ∃ (i : Nat) (vs : List KR) (S : List Value), s11 = .int .i64 i ∧ i ≤ n ∧ n - i ≤ kx ∧ vs.length = i ∧ Blk wr vb 38 (vs.flatMap encK ++ S) ∧ (vs.flatMap encK ++ S).length = n * 4 ∧ Upd w wr [])
  case atStart => exact ⟨0, [], S1, rfl, Nat.zero_le _, by omega, rfl, HST.out.2.1, HST.out.2.2, HST.out.1⟩
  case round =>
    clear HST
    obtain ⟨i, vs, S, rfl, hin, hkx, hvs, hb, hbl, hu⟩ := hrel
    by_cases hlt : i < n
    · obtain ⟨hO, hB, hnn⟩ := HH.out
      have hio : i < ops.length := by rw [← hnn]; exact hlt
      obtain ⟨b0, off, ha, hb0, -, -, o2⟩ := (hO.upd hu (fun _ _ => by simp)) i hio
      subst ha
      generalize ops[i].2.2 = oval at o2
      have N : Now w vb n vs b0 (off + i * 3 + 2) (.int .i64 oval) wr := ⟨⟨S, hb, hbl⟩, o2, hu⟩
      have N1 := N.later (Upd.drew wr [])
      have hiz : (i : Int) < (n : Int) := by omega
      have HVS : Hid (vs.length = i) := hvs
      clear hb hbl hu hnn hio hB hO N hvs
      go_wp2
      go_region_with (first | (go_at_call 22; refine (utoa22 _ (by first | exact run_u64 _ | omega) _).mono ?_; rintro e w2 ⟨s, hsz, rfl, hu2⟩; have N2 : Now w vb n vs b0 (off + i * 3 + 2) (.int .i64 oval) w2 := Now.later (by assumption) hu2; have o3 := N2.cell) | (go_at_call 21; refine (newKR _ _).mono ?_; rintro e w2 ⟨rfl, hu2⟩; have N2 : Now w vb n vs b0 (off + i * 3 + 2) (.int .i64 oval) w2 := Now.later (by assumption) hu2; obtain ⟨u0, u1, u2, u3, c0, c1, c2, c3, f0, f1, f2, f3⟩ := N2.four hlt))
      all_goals (
        have PT := N2.put4 HVS.out hlt (Nat.le_of_eq HVB.out.symm)
        have HPT : Hid (∀ t : ByteArray, _) := PT
        clear PT c0 c1 c2 c3 f0 f1 f2 f3 N2 hrun
        go_wp2
        go_roundg (n - (i + 1))
        case measure => omega
        case rel =>
          obtain ⟨vs', S', q1, q2, q3, q4⟩ := HPT.out _
          exact ⟨i + 1, vs', S', by simp, by omega, Nat.le_refl _, q1, q2, q3, q4⟩)
    · have hS : S = [] := by
        rw [List.length_append, flatK4] at hbl
        exact List.eq_nil_of_length_eq_zero (by omega)
      subst hS
      rw [List.append_nil] at hb
      have hni : i = n := by omega
      have hiz : ¬ (i : Int) < (n : Int) := by omega
      have X := hrun vb vs wr hu hb (by omega)
      have HU : Hid (Upd w wr []) := hu
      clear hb hbl hu hvs hrun
      go_wp2_with (go_at_call 23; refine X.mono ?_; rintro e w2 ⟨rfl, hu2⟩)
      go_ret
      exact ⟨rfl, HU.out.trans hu2 (fun _ _ h => h)⟩
end Go.Proofs.Qxb6003818a
