import Derived.Test.Qxb6003818aBtI
import Derived.Shelf.Spec.SlicesInsert
import Derived.Deep.RegionLaw
import Derived.Laws.NewBlocks
namespace Go.Proofs.Qxb6003818a
open Go.ChangeShapes Go.WideShapes Go.ChangeAt Go.RowKit Go.Shelf Go.Lib
set_option linter.unusedVariables false
set_option linter.unusedSimpArgs false


set_option maxHeartbeats 4000000 in
set_option maxRecDepth 100000 in
/-- Insert: there is room, i < n. -/
theorem ins77_shift (g n c i vb : Nat) (xs S vs : List Value) (w : World) (hb : Blk w g 59 (xs ++ S)) (hi : i < n) (hroom : n + 1 ≤ c) (hc63 : c ≤ 9223372036854775807) (hxl : xs.length = n) (hSl : (xs ++ S).length = c)
    (hvb : Blk w vb 59 vs) (hvl : vs.length = 1) (hne : vb ≠ g) (h1c : ∀ v ∈ xs, v.oneCell' = true) (h1v : ∀ v ∈ vs, v.oneCell' = true) :
    Calls Try.prog 77 #[.slice (some ⟨g, 0, none⟩) n c, .int .i64 i, .slice (some ⟨vb, 0, none⟩) 1 1] w fun e w' =>
      e = .returned (.slice (some ⟨g, 0, none⟩) (n + 1) c) ∧ w' = (w.drew.setCells g ((i + 1)) (xs.drop (i))).setCells g (i) vs := by
  obtain ⟨i0, hi0, hz0, hzs, hzb⟩ := info_parts info59
  have hlen : (xs ++ S).length = xs.length + S.length := List.length_append
  have hz2 : ¬ ((i : Int) = (n : Int)) := by omega
  have hov : ∀ lb cb, (callFunc 85 #[.slice (some ⟨vb, 0, none⟩) 1 1, .slice (some ⟨g, (i + 1), none⟩) lb cb]).run Try.prog w = .ok (.value (.bool false)) w := fun lb cb => by
    rw [run_callFunc_extern Try.func85 (by kernel_rfl) (by kernel_rfl) (by kernel_rfl) (e := Extern.SlicesOverlaps.overlaps #[63, 63] #[4]) (by kernel_rfl),
      Lib.run_overlaps_apart w 63 4 59 Try.underlying63 1 Try.sizeOf59 ⟨vb, 0, none⟩ ⟨g, (i + 1), none⟩ 1 1 lb cb hne 59 59 vs.length (xs ++ S).length (by unfold Blk at hvb; simp [World.shape?, hvb]) (by unfold Blk at hb; simp only [World.shape?, hb, List.size_toArray]) (by omega) (hvb.free 0) (hvb.free _)]
    rfl
  have hdl : (xs.drop (i)).length = (n - i) := by rw [List.length_drop, hxl]; try omega
  have hw1 : IntKind.i64.wrap ((i : Int) + 1) = (i : Int) + 1 := by rw [IntKind.wrap_i64]; omega
  have hw2 : IntKind.i64.wrap ((n : Int) + 1) = (n : Int) + 1 := by rw [IntKind.wrap_i64]; omega
  have hb1 : (0 : Int) ≤ (i : Int) + 1 := by omega
  have htn : ((i : Int) + 1).toNat = i + 1 := by omega
  have htn2 : ((n : Int) + 1).toNat = n + 1 := by omega
  have hb2 : ¬ (c = i + 1) := by omega
  have hb3 : (i : Int) ≤ (n : Int) + 1 := by omega
  have hb4 : ¬ (c = i) := by omega
  have hb5 : (n : Int) + 1 ≤ (c : Int) := by omega
  have hb6 : ¬ ((c : Int) < (n : Int) + 1) := by omega
  have hb7 : (i : Int) + 1 ≤ (n : Int) + 1 := by omega
  have hcp1 : ∀ ty dc sc, (Builtin.copy_ #[63, 63] ty #[.slice (some ⟨g, (i + 1), none⟩) (n - i) dc, .slice (some ⟨g, i, none⟩) (n + 1 - i) sc]).run Try.prog w.drew = .ok (goInt (Nat.min (n + 1 - i) (n - i))) (w.drew.setCells g ((i + 1)) (xs.drop (i))) := fun ty dc sc => by
    refine run_copyK w.drew _ _ ty 59 1 g ((i + 1)) (n - i) dc ⟨g, i, none⟩ (n + 1 - i) sc (xs.drop (i)) i0 Try.underlying63 hi0 hzs ?_ ?_ ?_ ?_ (fun v hv => h1c v (List.mem_of_mem_drop hv))
    · rw [hdl, show Nat.min (n + 1 - i) (n - i) = n - i by simp only [Nat.min_def]; split <;> omega]
      try omega
    · intro j v hj
      rw [Addr.add_lit]
      obtain ⟨q1, q2⟩ := List.getElem?_eq_some_iff.1 hj
      have := hb.cell (i := i + j) (by rw [List.length_drop] at q1; omega)
      rw [List.length_drop] at q1
      rw [List.getElem_append_left (by omega)] at this
      rw [List.getElem_drop] at q2
      rw [q2] at this
      exact this
    · intro j hj
      exact blk_some hb (by omega)
    · intro j hj
      exact hb.free _
  obtain ⟨W1, hW1⟩ : ∃ W1, W1 = w.drew.setCells g ((i + 1)) (xs.drop (i)) := ⟨_, rfl⟩
  have hcp2 : ∀ (W : World), (∀ x, W.cell? x = W1.cell? x) → (∀ x, W.frozen? x = W1.frozen? x) → ∀ ty dc, (Builtin.copy_ #[63, 63] ty #[.slice (some ⟨g, i, none⟩) (n + 1 - i) dc, .slice (some ⟨vb, 0, none⟩) 1 1]).run Try.prog W = .ok (goInt (Nat.min 1 (n + 1 - i))) (W.setCells g (i) vs) := fun W hWc hWf ty dc => by
    refine run_copyK W _ _ ty 59 1 g (i) (n + 1 - i) dc ⟨vb, 0, none⟩ 1 1 vs i0 Try.underlying63 hi0 hzs ?_ ?_ ?_ ?_ h1v
    · rw [hvl, show Nat.min 1 (n + 1 - i) = 1 by simp only [Nat.min_def]; split <;> omega]
    · intro j v hj
      rw [Addr.add_lit, hWc, hW1, World.cell?_setCells_out g _ _ _ _ (fun h _ => absurd h hne)]
      obtain ⟨q1, q2⟩ := List.getElem?_eq_some_iff.1 hj
      have := hvb.cell q1
      rw [q2] at this
      rw [Nat.zero_add]
      exact this
    · intro j hj
      rw [hWc, hW1]
      exact isSome_setCells g (xs.drop (i)) ((i + 1)) w.drew (fun t ht => blk_some (w := w) hb (by omega)) (i + j) (blk_some (w := w) hb (by omega))
    · intro j hj
      rw [hWf, hW1, World.frozen?_setCells]
      exact hb.free _
  rw [← hW1] at hcp1
  clear hdl hb hvb hSl hxl h1c h1v hvl
  go_enter Try.func77, Try.ntmps77
  go_wp2_with (simp only [hov])
  go_region_law (refine step_copy_runI rfl _ _ 63 63 rfl _ _ (by simp [Act.eval, Act.put]) (by simp [Act.eval, Act.put]) (hcp1 _ _ _) ?_)
  go_wp2_with (at_builtin; refine wpList_copy_runI _ rfl _ _ 63 63 rfl _ _ rfl rfl (hcp2 _ (fun _ => rfl) (fun _ => rfl) _ _) ?_)
  go_ret
  first | exact ⟨rfl, rfl⟩ | exact ⟨rfl, by rw [hW1]⟩
end Go.Proofs.Qxb6003818a
