import Derived.Test.Qxb6003818aBtI
import Derived.Shelf.Spec.SlicesInsert
import Derived.Deep.RegionLaw
import Derived.Laws.NewBlocks
namespace Go.Proofs.Qxb6003818a
open Go.ChangeShapes Go.WideShapes Go.ChangeAt Go.RowKit Go.Shelf Go.Lib
set_option linter.unusedVariables false
set_option linter.unusedSimpArgs false


set_option maxHeartbeats 4000000 in
set_option maxRecDepth 100000 in
/-- Clone. -/
theorem clone74 (a : Addr) (m c : Nat) (cs : List Value) (w : World) (hl : cs.length = m * 1) (hcs : ∀ j u, cs[j]? = some u → w.cell? (a.add j) = some u) (h1 : ∀ u ∈ cs, u.oneCell' = true) (hm : m ≤ 100000) :
    Calls Try.prog 74 #[.slice (some a) m c] w (Ins w 59 1 m (.slice none 0 0) cs) := by
  obtain ⟨i0, hi0, hz0, hzs, hzb⟩ := info_parts info59
  obtain ⟨w1, hw1⟩ : ∃ w1, w1 = w.alloc (.cells #[] 59) := ⟨_, rfl⟩
  have hown : w1.ownsRow 0 59 1 (.slice (some ⟨w.heap.size, 0, none⟩) 0 0) 0 [] := by rw [hw1]; exact World.ownsRow_made w #[] 0 (Nat.zero_le _) (by unfold maxLen; omega) (by simp)
  have hu1 : Upd w w1 [] := by rw [hw1]; exact Upd.alloc w _ _
  have hcs1 : ∀ j u, cs[j]? = some u → w1.cell? (a.add j) = some u := fun j u hj => by rw [hw1]; exact Lib.cell?_alloc_some _ (hcs j u hj)
  obtain ⟨v', w', h1', h2, h3, h4⟩ := run_append_own' (P := Try.prog) w1 63 63 59 i0 _ 1 8 Try.underlying63 hi0 hz0 hzs hzb (by rfl) (by omega) _ 0 [] hown a m c cs hl hcs1 h1 (by unfold maxLen; omega) (by omega)
  rw [Nat.zero_add, List.nil_append] at h2
  have F : Hid (Ins w 59 1 m (.slice none 0 0) cs (.returned v') w') := by
    refine ⟨v', rfl, h2, ?_, ?_⟩
    · exact hu1.trans h3 (fun k hk _ => by rw [List.count_eq_zero]; simp [ownB, Value.ownBlock]; omega)
    · have hs1 : w1.heap.size = w.heap.size + 1 := by rw [hw1]; simp
      intro k
      have hk := h4 k
      refine ⟨fun hkl => ?_, fun hkl => ownB_le _ _⟩
      have := hk.1 (by omega)
      rw [show (ownB (.slice (some ⟨w.heap.size, 0, none⟩) 0 0)).count k = 0 by rw [List.count_eq_zero]; simp [ownB, Value.ownBlock]; omega] at this
      omega
  clear h2 h3 h4 hcs hcs1 hown hu1 h1 hl
  subst hw1
  have hnil := eql63 (some a) m c 0 0
  simp only [Option.isNone_some] at hnil
  go_enter Try.func74, Try.ntmps74
  go_wp2_with (at_builtin; refine Lib.wpList_append_run _ rfl _ _ _ _ rfl _ _ rfl rfl _ _ h1' ?_)
  go_ret
  exact F.out
end Go.Proofs.Qxb6003818a
