import Derived.Test.Qxb6003818aDisj
import Derived.Test.Qxb6003818aPlain
namespace Go.Proofs.Qxb6003818a
open Go.ChangeShapes Go.WideShapes Go.ChangeAt Go.RowKit
set_option linter.unusedVariables false
set_option linter.unusedSimpArgs false

theorem row_prefix {w : World} {g : Nat} {T : TypeId} {arr m : List KR} (h : Blk w g T (arr.flatMap encK)) (ht : arr.take m.length = m) : Row w w.heap.size (some ⟨g, 0, none⟩) (m.flatMap encK) := by
  intro i hi
  have hi' := hi
  rw [flat_len] at hi
  have hle : m.length ≤ arr.length := by rw [← ht]; simp; omega
  refine ⟨g, 0, rfl, h.lt, ?_⟩
  rw [Nat.zero_add, h.cell (i := i) (by rw [flat_len]; omega)]
  congr 1
  have e1 : (arr.flatMap encK)[i]? = (m.flatMap encK)[i]? := by
    rw [flat_get arr i (by omega), flat_get m i hi]
    have : arr[i / 4]? = m[i / 4]? := by
      have e : (arr.take m.length)[i / 4]? = m[i / 4]? := by rw [ht]
      rwa [List.getElem?_take, if_pos (by omega)] at e
    rw [List.getElem?_eq_getElem (show i / 4 < arr.length by omega), List.getElem?_eq_getElem (show i / 4 < m.length by omega)] at this
    rw [Option.some.inj this]
  rw [List.getElem?_eq_getElem (by rw [flat_len]; omega), List.getElem?_eq_getElem hi'] at e1
  exact Option.some.inj e1

theorem fold_len : ∀ (l m : List KR), (l.foldl stepK m).length ≤ m.length + l.length
  | [], m => by simp
  | r :: l, m => by
    rw [List.foldl_cons]
    have h1 := fold_len l (stepK m r)
    have h2 : (stepK m r).length ≤ m.length + 1 := by
      unfold stepK
      split
      · simp
      · split
        · simp
        · simp <;> omega
    simp; omega

set_option maxHeartbeats 2000000 in
theorem zzdisjoint_any (b o c : Nat) (l : List KR) (B : Nat) (w : World) (hS : Row w B (some ⟨b, o, none⟩) (l.flatMap encK)) (hB : B ≤ w.heap.size) (hn : l.length ≤ 1000) :
    Calls Try.prog 11 #[.slice (some ⟨b, o, none⟩) l.length c] w fun e w' =>
      (∃ (g : Nat) (m : List KR), e = .returned (.slice (some ⟨g, 0, none⟩) m.length m.length) ∧ Blk w' g 24 (m.flatMap encK) ∧ Sep m ∧ (∀ k, anyHas m k = anyHas l k) ∧ m.length ≤ 1000) ∧ Below w.heap.size w w' := by
  go_enter Try.func11, Try.ntmps11
  go_wp2_with fail
  refine (toRanges_any b o c l B w hS hB hn).mono ?_
  rintro e w1 ⟨rfl, hb1, h1⟩
  go_wp2_with fail
  refine (disjoint_any w.heap.size l w1 hb1 hn).mono ?_
  rintro e w2 ⟨⟨m, arr, l', hd, rfl, hb2⟩, h2⟩
  have hml : m.length ≤ 1000 := by
    have := fold_len l' []
    rw [← hd.hm, hd.perm.length_eq] at this
    simp at this; omega
  have B2 := h1.trans h2
  go_wp2_with fail
  refine (fromRanges_any w.heap.size 0 l.length m w2.heap.size w2 (row_prefix hb2 hd.tk) (Nat.le_refl _) hml).mono ?_
  rintro e w3 ⟨rfl, hb3, h3⟩
  have law := merged_law hd.perm hd.up
  rw [← hd.hm] at law
  have HL := show Hid _ from law
  clear law hd
  go_wp2_with fail
  go_ret
  exact ⟨⟨_, m, rfl, hb3, HL.out.1, HL.out.2, hml⟩, B2.trans (h3.mono B2.size)⟩
end Go.Proofs.Qxb6003818a
