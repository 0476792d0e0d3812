import Derived.Test.Qxb6003818aBtI
import Derived.Shelf.Spec.SlicesInsert
import Derived.Deep.RegionLaw
import Derived.Laws.NewBlocks
namespace Go.Proofs.Qxb6003818a
open Go.ChangeShapes Go.WideShapes Go.ChangeAt Go.RowKit Go.Shelf Go.Lib
set_option linter.unusedVariables false
set_option linter.unusedSimpArgs false


set_option maxHeartbeats 4000000 in
set_option maxRecDepth 100000 in
/-- Delete of one element. -/
theorem del78 (v : Value) (n i : Nat) (xs : List Value) (w : World) (hown : w.ownsRow 0 105 5 v n xs) (hi : i < n) (h1c : ∀ v ∈ xs, v.oneCell' = true) :
    Calls Try.prog 78 #[v, .int .i64 i, .int .i64 ((i : Int) + 1)] w (Ins w 105 5 (n - 1) v (xs.take (i * 5) ++ xs.drop ((i + 1) * 5))) := by
  obtain ⟨i0, hi0, hz0, hzs, hzb⟩ := info_parts info105
  rcases owns_cases hown with ⟨h1, h2, h3⟩ | ⟨g, cap, S, h1, hb, hnc, hc63, hSl, ho, hxl⟩
  · omega
  subst h1
  obtain ⟨A, hA⟩ : ∃ A, A = xs.take (i * 5) := ⟨_, rfl⟩
  obtain ⟨m, hm⟩ : ∃ m, m = (xs.drop (i * 5)).take 5 := ⟨_, rfl⟩
  obtain ⟨D, hD⟩ : ∃ D, D = xs.drop ((i + 1) * 5) := ⟨_, rfl⟩
  have hxs : xs = A ++ m ++ D := by
    rw [hA, hm, hD, show (i + 1) * 5 = i * 5 + 5 by omega, ← List.drop_drop, List.append_assoc, List.take_append_drop, List.take_append_drop]
  have hAl : A.length = i * 5 := by rw [hA, List.length_take]; omega
  have hml : m.length = 5 := by rw [hm, List.length_take, List.length_drop]; omega
  have hDl : D.length = (n - (i + 1)) * 5 := by rw [hD, List.length_drop]; omega
  have h1D : ∀ v ∈ D, v.oneCell' = true := fun v hv => h1c v (by rw [hD] at hv; exact List.mem_of_mem_drop hv)
  rw [← hA, ← hD]
  have hlen : (xs ++ S).length = xs.length + S.length := List.length_append
  obtain ⟨z, hz⟩ : ∃ z : Value, z = Value.agg #[.string ByteArray.empty, .string ByteArray.empty, .string ByteArray.empty, .bool false, .bool false] := ⟨_, rfl⟩
  have hzsz : z.cells.size = 5 := by rw [hz]; rfl
  have hz1 : ∀ u ∈ (Builtin.zeroCells z.cells 1).toList, u.oneCell' = true := zero_cells_one (by rw [hz]; decide) (by omega)
  have hzl : (Builtin.zeroCells z.cells 1).size = 5 := by rw [size_zeroCells, hzsz]; try omega
  have hzl' : (Builtin.zeroCells z.cells 1).toList.length = 5 := by rw [Array.length_toList]; exact hzl
  have hcut := blk_cut (w := w.drew) (g := g) (k := 5) (T := 105) (A := A) (m := m) (D := D) (S := S) (z := (Builtin.zeroCells z.cells 1).toList) (by rw [← hxs]; exact hb) hml (by rw [Array.length_toList]; exact hzl)
  have hbD : Blk w g 105 (((A ++ m) ++ (D ++ S))) := by rw [← List.append_assoc (A ++ m), ← hxs]; exact hb
  obtain ⟨W1, hW1⟩ : ∃ W1, W1 = w.drew.setCells g (i * 5) D := ⟨_, rfl⟩
  rw [hAl, ← hW1] at hcut
  obtain ⟨hb1, hb2⟩ := hcut
  have hAm : (A ++ m).length = (i + 1) * 5 := by rw [List.length_append]; omega
  obtain ⟨AD, hADe, hsrc⟩ : ∃ AD : Addr, (if cap = i + 1 then some (⟨g, 0, none⟩ : Addr) else some ⟨g, (i + 1) * 5, none⟩) = some AD ∧ Hid (∀ t u, D[t]? = some u → w.drew.cell? (AD.add t) = some u) := by
    by_cases h : cap = i + 1
    · refine ⟨⟨g, 0, none⟩, by simp [h], fun t u hu => ?_⟩
      have h0 : D.length = 0 := by rw [hDl]; omega
      rw [List.length_eq_zero_iff.1 h0] at hu
      simp at hu
    · refine ⟨⟨g, (i + 1) * 5, none⟩, by simp [h], fun t u hu => ?_⟩
      rw [Addr.add_lit, ← hAm]
      exact blk_get hbD t u hu
  have s1 : Hid (D.length = (n - (i + 1)) * 5) := by show D.length = (n - (i + 1)) * 5; rw [hDl]; try omega
  have s2 : Hid (∀ u ∈ D, u.oneCell' = true) := h1D
  have s3 : Hid (∀ t, t < D.length → (w.drew.cell? ⟨g, 0 + i * 5 + t, none⟩).isSome = true ∧ w.drew.frozen? ⟨g, 0 + i * 5 + t, none⟩ = false) := by
    intro t ht
    exact ⟨blk_some (w := w) hb (by omega), hb.free _⟩
  have hW : Hid (W1 = w.drew.setCells g (0 + i * 5) D) := by show W1 = _; rw [hW1]; congr 1; omega
  have hcl : ∀ ty, (Builtin.clear_ #[62] ty #[.slice (some ⟨g, (i + (n - (i + 1))) * 5, none⟩) (n - (i + (n - (i + 1)))) (cap - (i + (n - (i + 1))))]).run Try.prog W1 = .ok (.tuple #[]) (W1.setCells g ((i + (n - (i + 1))) * 5) (Builtin.zeroCells z.cells 1).toList) := fun ty => by
    rw [show n - (i + (n - (i + 1))) = 1 by omega]
    refine run_clearK W1 62 105 ty z Try.underlying62 (by rw [hz]; exact Try.zeroValue105) g _ 1 _ (by omega) hz1 ?_ ?_
    · intro j hj
      refine blk_some hb1 ?_
      rw [hzl] at hj
      rw [List.length_append, List.length_append, List.length_append, List.length_drop, List.length_append]
      omega
    · intro j hj
      exact hb1.free _
  obtain ⟨W2, hW2⟩ : ∃ W2, W2 = W1.setCells g ((i + (n - (i + 1))) * 5) (Builtin.zeroCells z.cells 1).toList := ⟨_, rfl⟩
  rw [← hW2] at hcl
  have F : Hid (Ins w 105 5 (n - 1) (.slice (some ⟨g, 0, none⟩) n cap) (A ++ D) (.returned (.slice (some ⟨g, 0, none⟩) (i + (n - (i + 1))) cap)) W2) := by
    have hn1 : i + (n - (i + 1)) = n - 1 := by omega
    rw [hn1] at hW2 ⊢
    have hsum : i * 5 + D.length = (n - 1) * 5 := by rw [hDl]; omega
    rw [hsum, ← hW2] at hb2
    refine ⟨_, rfl, owns_mk hb2 ?_ (by omega) hc63 ?_, ?_, fresh_same w _ (ownB_le _)⟩
    · rw [List.length_append]; omega
    · rw [List.length_append, List.length_append, List.length_append, hzl']; omega
    · have u1 : Upd w W1 [g] := by rw [hW1]; exact (Upd.drew w _).trans (upd_setCells [g] (by simp) D _ hb.drew) (fun _ _ h => h)
      have u2 : Upd W1 W2 [g] := by rw [hW2]; exact upd_setCells [g] (by simp) _ _ hb1
      rw [ho]
      exact u1.trans u2 (fun _ _ h => h)
  clear hzl' hW2 hW1 hb hb1 hb2 hbD hA hm hD hxs hAl hml hDl h1D h1c hlen hz hzsz hz1 hzl hAm hSl hxl ho hown
  have hic : i ≤ cap := by omega
  have hjc : i + 1 ≤ cap := by omega
  have hq1 : (i : Int) ≤ (i : Int) + 1 := by omega
  have hq2 : (i : Int) + 1 ≤ (n : Int) := by omega
  have hq3 : ((i : Int) == (i : Int) + 1) = false := by rw [beq_eq_false_iff_ne]; omega
  have hq4 : ((i : Int) + 1).toNat = i + 1 := by omega
  have hq5 : (0 : Int) ≤ (i : Int) + 1 := by omega
  have hq6 : i ≤ n := by omega
  have hq7 : (n : Int) ≤ (cap : Int) := by omega
  have hq8 : ¬ cap = i + (n - (i + 1)) := by omega
  have hq9 : i + (n - (i + 1)) ≤ n := by omega
  have hq10 : i + 1 ≤ n := by omega
  go_enter Try.func78, Try.ntmps78
  go_wp2_with fail
  go_region_law (refine step_append_room rfl (.tmp 22) (.tmp 25) 62 rfl 105 i0 5 Try.underlying62 hi0 hzs g 0 i cap (by simp [Act.eval, Act.put]) AD (n - (i + 1)) (cap - (i + 1)) D (by simp [Act.eval, Act.put]) s1.out hsrc.out s2.out (by omega) s3.out ?_; rw [← hW.out])
  go_wp2
  go_ret
  exact F.out
end Go.Proofs.Qxb6003818a
