import Derived.Test.Qxb6003818aBtI
import Derived.Shelf.Spec.SlicesInsert
import Derived.Deep.RegionLaw
import Derived.Laws.NewBlocks
namespace Go.Proofs.Qxb6003818a
open Go.ChangeShapes Go.WideShapes Go.ChangeAt Go.RowKit Go.Shelf Go.Lib
set_option linter.unusedVariables false
set_option linter.unusedSimpArgs false


set_option maxHeartbeats 4000000 in
set_option maxRecDepth 100000 in
/-- Insert: no room, i < n. -/
theorem ins76_grow (g n c i vb : Nat) (xs S vs : List Value) (w : World) (hb : Blk w g 105 (xs ++ S)) (hi : i < n) (hnc : n ≤ c) (hroom : c < n + 1) (hbig : n ≤ 100000) (hxl : xs.length = n * 5)
    (hvb : Blk w vb 105 vs) (hvl : vs.length = 5) (h1c : ∀ v ∈ xs, v.oneCell' = true) (h1v : ∀ v ∈ vs, v.oneCell' = true) :
    Calls Try.prog 76 #[.slice (some ⟨g, 0, none⟩) n c, .int .i64 i, .slice (some ⟨vb, 0, none⟩) 1 1] w (Ins w 105 5 (n + 1) (.slice (some ⟨g, 0, none⟩) n c) (xs.take (i * 5) ++ vs ++ xs.drop (i * 5))) := by
  obtain ⟨i0, hi0, hz0, hzs, hzb⟩ := info_parts info105
  have hgl := hb.lt
  have hvl' := hvb.lt
  have hz2 : ¬ ((i : Int) = (n : Int)) := by omega
  have hz3 : (c : Int) < (n : Int) + 1 := by omega
  have hkk : (n : Int) + 1 - (i : Int) = ((n + 1 - i : Nat) : Int) := by omega
  have hik : i + (n + 1 - i) = n + 1 := by omega
  have htl : (xs.take (i * 5)).length = i * 5 := by rw [List.length_take, hxl]; omega
  have hold : (Builtin.firstCells i0.size i (.slice (some ⟨g, 0, none⟩) i c)).run Try.prog w.drew = .ok (xs.take (i * 5)).toArray w.drew := by
    rw [hzs]
    refine run_firstCells_some w.drew 5 i ⟨g, 0, none⟩ i c (xs.take (i * 5)) (by rw [htl]; try omega) (fun j v hj => ?_)
    rw [Addr.add_lit, Nat.zero_add]
    obtain ⟨q1, q2⟩ := List.getElem?_eq_some_iff.1 hj
    have := hb.cell (i := j) (by rw [List.length_append]; omega)
    rw [List.getElem_append_left (by omega)] at this
    rw [List.getElem_take] at q2
    rw [q2] at this
    exact this
  obtain ⟨G, hG⟩ : ∃ G, G = grownCap w (n + 1) c 105 := ⟨_, rfl⟩
  obtain ⟨z, hz⟩ : ∃ z : Value, z = Value.agg #[.string ByteArray.empty, .string ByteArray.empty, .string ByteArray.empty, .bool false, .bool false] := ⟨_, rfl⟩
  have hzsz : z.cells.size = 5 := by rw [hz]; rfl
  obtain ⟨R, hR⟩ : ∃ R : List Value, R = (Builtin.zeroCells z.cells (n + 1 - i)).toList ++ (Builtin.zeroCells z.cells (G - (n + 1))).toList := ⟨_, rfl⟩
  obtain ⟨W1, hW1⟩ : ∃ W1, W1 = w.drew.alloc (.cells ((xs.take (i * 5)) ++ R).toArray 105) := ⟨_, rfl⟩
  have hrz : ∀ ty, (Builtin.append_ #[62, 3] ty #[.slice (some ⟨g, 0, none⟩) i c, .int .i64 ((n : Int) + 1 - (i : Int))]).run Try.prog w =
      .ok (.slice (some ⟨w.heap.size, 0, none⟩) (n + 1) G) W1 := fun ty => by
    have h := Lib.run_append_grow_zeros w 62 3 ty 105 i0 _ .i64 .i64 Try.underlying62 Try.underlying3 hi0 hz0 (some ⟨g, 0, none⟩) i c (xs.take (i * 5)) hold (n + 1 - i) (by omega) (by omega) (by omega) (by omega) (by rw [hzb]; omega) (by rw [hzb, hik]; exact growslice_fits hroom (by omega))
    rw [hik, ← hG] at h
    rw [hkk, h, hW1, hR, hz]
    refine congrArg (fun r => Result.ok (Value.slice (some ⟨w.heap.size, 0, none⟩) (n + 1) G) (w.drew.alloc (.cells r 105))) ?_
    apply Array.ext'
    simp [List.append_assoc]
  have hGn : n + 1 ≤ G := by rw [hG]; exact grownCap_ge w _ _ _
  have hG63 : G ≤ 9223372036854775807 := by
    have := grownCap_le_maxLen w (n + 1) c 105 (by unfold maxLen; omega)
    rw [← hG] at this
    unfold maxLen at this
    omega
  have hRl : ((xs.take (i * 5)) ++ R).length = G * 5 := by
    rw [List.length_append, htl, hR, List.length_append, Array.length_toList, Array.length_toList, size_zeroCells, size_zeroCells, hzsz]
    omega
  have hbN : Blk W1 w.heap.size 105 ((xs.take (i * 5)) ++ R) := by rw [hW1]; exact heap_alloc_new w.drew _
  have hu1 : Upd w W1 [] := by rw [hW1]; exact (Upd.drew w _).trans (Upd.alloc w.drew _ _) (fun k hk hc => hc)
  have hbg := hb.upd hu1 (by simp)
  have hbv := hvb.upd hu1 (by simp)
  have hgN : g ≠ w.heap.size := by omega
  have hvN : vb ≠ w.heap.size := by omega
  clear hold hG hR hz hzsz hW1 hb hvb hkk hik
  obtain ⟨N, HN⟩ : ∃ N, N = w.heap.size := ⟨_, rfl⟩
  rw [← HN] at hbN hgN hvN hrz
  clear hgl hvl'
  have hcpA : ∀ ty dc, (Builtin.copy_ #[62, 62] ty #[.slice (some ⟨N, i * 5, none⟩) (n + 1 - i) dc, .slice (some ⟨vb, 0, none⟩) 1 1]).run Try.prog W1 = .ok (goInt (Nat.min 1 (n + 1 - i))) (W1.setCells N (i * 5) vs) := fun ty dc => by
    refine run_copyK W1 _ _ ty 105 5 N (i * 5) (n + 1 - i) dc ⟨vb, 0, none⟩ 1 1 vs i0 Try.underlying62 hi0 hzs ?_ ?_ ?_ ?_ h1v
    · rw [hvl, show Nat.min 1 (n + 1 - i) = 1 by simp only [Nat.min_def]; split <;> omega]
    · intro j v hj
      rw [Addr.add_lit, Nat.zero_add]
      obtain ⟨q1, q2⟩ := List.getElem?_eq_some_iff.1 hj
      have := hbv.cell q1
      rw [q2] at this
      exact this
    · intro j hj
      exact blk_some hbN (by omega)
    · intro j hj
      exact hbN.free _
  obtain ⟨W2, hW2⟩ : ∃ W2, W2 = W1.setCells N (i * 5) vs := ⟨_, rfl⟩
  have hRk : 5 ≤ R.length := by rw [List.length_append, htl] at hRl; omega
  have hbN2 : Blk W2 N 105 ((xs.take (i * 5)) ++ (vs ++ R.drop 5)) := by
    have hp := blk_put vs (Z := R.drop 5) (Y := R.take 5) (by rw [List.take_append_drop]; exact hbN) (by rw [List.length_take, hvl]; omega)
    rw [htl] at hp
    rw [hW2]
    exact hp
  have hu2 : Upd W1 W2 [N] := by rw [hW2]; exact upd_setCells [N] (by simp) vs _ hbN
  have hbg2 := hbg.upd hu2 (List.count_eq_zero.2 (by simpa using hgN))
  have hdl : (xs.drop (i * 5)).length = (n - i) * 5 := by rw [List.length_drop, hxl]; try omega
  have hvRl : ((xs.take (i * 5)) ++ (vs ++ R.drop 5)).length = G * 5 := by
    rw [List.length_append, htl] at hRl
    rw [List.length_append, List.length_append, List.length_drop, htl, hvl]; omega
  have hcpB : ∀ ty dc sc, (Builtin.copy_ #[62, 62] ty #[.slice (some ⟨N, (i + 1) * 5, none⟩) (n - i) dc, .slice (some ⟨g, i * 5, none⟩) (n - i) sc]).run Try.prog W2.drew = .ok (goInt (Nat.min (n - i) (n - i))) (W2.drew.setCells N ((i + 1) * 5) (xs.drop (i * 5))) := fun ty dc sc => by
    refine run_copyK W2.drew _ _ ty 105 5 N ((i + 1) * 5) (n - i) dc ⟨g, i * 5, none⟩ (n - i) sc (xs.drop (i * 5)) i0 Try.underlying62 hi0 hzs ?_ ?_ ?_ ?_ (fun v hv => h1c v (List.mem_of_mem_drop hv))
    · rw [hdl, show Nat.min (n - i) (n - i) = n - i from Nat.min_self _]
      try omega
    · intro j v hj
      rw [Addr.add_lit]
      obtain ⟨q1, q2⟩ := List.getElem?_eq_some_iff.1 hj
      have := hbg2.cell (i := i * 5 + j) (by rw [List.length_drop] at q1; rw [List.length_append]; omega)
      rw [List.length_drop] at q1
      rw [List.getElem_append_left (by omega)] at this
      rw [List.getElem_drop] at q2
      rw [q2] at this
      exact this
    · intro j hj
      exact blk_some (w := W2) hbN2 (by omega)
    · intro j hj
      exact hbN2.free _
  rw [← hW2] at hcpA
  have F : Hid (Ins w 105 5 (n + 1) (.slice (some ⟨g, 0, none⟩) n c) (xs.take (i * 5) ++ vs ++ xs.drop (i * 5)) (.returned (.slice (some ⟨N, 0, none⟩) (n + 1) G)) (W2.drew.setCells N ((i + 1) * 5) (xs.drop (i * 5)))) := by
    have hq : ((xs.take (i * 5)) ++ vs).length = (i + 1) * 5 := by rw [List.length_append, htl, hvl]; try omega
    have hd2 : (n - i) * 5 ≤ (R.drop 5).length := by rw [List.length_append, List.length_append, htl, hvl] at hvRl; omega
    refine ⟨_, rfl, ?_, ?_, ?_⟩
    · refine owns_mk (S := (R.drop 5).drop ((n - i) * 5)) ?_ ?_ hGn hG63 ?_
      · rw [← hq, List.append_assoc]
        refine blk_put (w := W2.drew) (xs.drop (i * 5)) (Y := (R.drop 5).take ((n - i) * 5)) (by rw [List.take_append_drop, List.append_assoc]; exact hbN2) (by rw [List.length_take, hdl]; omega)
      · rw [List.length_append, hq, hdl]; try omega
      · rw [List.length_append, List.length_append, hq, hdl, List.length_drop]
        rw [List.length_append, List.length_append, htl, hvl] at hvRl
        omega
    · have hx := upd_setCells [N] (by simp) (xs.drop (i * 5)) ((i + 1) * 5) (hbN2.drew)
      have hy : Upd w (W2.drew.setCells N ((i + 1) * 5) (xs.drop (i * 5))) [] := (hu1.trans (hu2.trans ((Upd.drew W2 _).trans hx (fun _ _ h => h)) (fun _ _ h => h)) (fun k hk _ => by rw [List.count_eq_zero]; simp; have := HN; omega))
      exact hy.mono (fun k hk hc => by simp)
    · exact fresh_new w _ N (by rw [HN]; exact Nat.le_refl _)
  clear hbN2 hbN hu1 hu2 hbg hbg2 hbv hdl hRl hvRl hRk hxl htl h1c h1v hvl
  clear HN hW2 hgN hvN z R hz0 hzb
  have hin : i ≤ n := by omega
  have hinz : (i : Int) ≤ (n : Int) := by omega
  have hGi : ¬ (G = i) := by omega
  have hGim : ¬ (G = i + 1) := by omega
  have hci : ¬ (c = i) := by omega
  have hw1 : IntKind.i64.wrap ((i : Int) + 1) = (i : Int) + 1 := by rw [IntKind.wrap_i64]; omega
  have hw2 : IntKind.i64.wrap ((n : Int) + 1) = (n : Int) + 1 := by rw [IntKind.wrap_i64]; omega
  have hw3 : IntKind.i64.wrap ((n : Int) + 1 - (i : Int)) = (n : Int) + 1 - (i : Int) := by rw [IntKind.wrap_i64]; omega
  have hb1 : (0 : Int) ≤ (i : Int) + 1 := by omega
  have htn : ((i : Int) + 1).toNat = i + 1 := by omega
  have hb3 : (i : Int) ≤ (n : Int) + 1 := by omega
  have hb7 : (i : Int) + 1 ≤ (n : Int) + 1 := by omega
  go_enter Try.func76, Try.ntmps76
  go_wp2_with (first
    | (at_builtin; refine Lib.wpList_append_run _ rfl _ _ _ _ rfl _ _ rfl rfl _ _ (hrz _) ?_)
    | (at_builtin; refine wpList_copy_runI _ rfl _ _ 62 62 rfl _ _ rfl rfl (hcpA _ _) ?_))
  go_region_law (refine step_copy_runI rfl _ _ 62 62 rfl _ _ (by simp [Act.eval, Act.put]) (by simp [Act.eval, Act.put]) (hcpB _ _ _) ?_)
  go_wp2
  go_ret
  exact F.out
end Go.Proofs.Qxb6003818a
