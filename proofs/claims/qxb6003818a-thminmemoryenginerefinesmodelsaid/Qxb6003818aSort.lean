import Derived.Test.Qxb6003818aSmall2
import Derived.Test.Qxb6003818aShelf
namespace Go.Proofs.Qxb6003818a
open Go.ChangeShapes Go.WideShapes Go.ChangeAt Go.RowKit Go.Sort Go.Lib Go.Shelf
set_option linter.unusedVariables false
set_option linter.unusedSimpArgs false

theorem cmp_lt : ∀ a b : Str, decide (compareBytes a b < 0) = decide (a < b)
  | [], [] => by simp [compareBytes]
  | [], _ :: _ => by simp [compareBytes]
  | _ :: _, [] => by simp [compareBytes]
  | a :: xs, b :: ys => by
    have ih := cmp_lt xs ys
    rw [decide_eq_decide] at ih ⊢
    unfold compareBytes
    rw [List.cons_lt_cons_iff]
    by_cases h1 : a < b
    · simp [h1]
    · by_cases h2 : b < a
      · have : ¬ a = b := fun e => by subst e; exact absurd h2 (UInt8.lt_irrefl _)
        simp [h1, h2, this]
      · have : a = b := UInt8.le_antisymm (UInt8.not_lt.1 h2) (UInt8.not_lt.1 h1)
        simp [h1, h2, this, ih]

abbrev cfK (x y : KR) : Int := compareBytes x.1 y.1
theorem ltK (x y : KR) : ltOf cfK x y = decide (x.1 < y.1) := cmp_lt _ _
theorem not_lt_trans {x y z : Str} (h1 : ¬ x < y) (h2 : ¬ y < z) : ¬ x < z := by
  intro h
  rcases lt_tri x y with h3 | rfl | h3
  · exact h1 h3
  · exact h2 h
  · exact h2 (List.lt_trans h3 h)
theorem swoK : SWO (ltOf cfK) where
  irrefl x := by rw [ltK]; simp [lt_irr]
  trans x y z h1 h2 := by rw [ltK] at *; simp at *; exact List.lt_trans h1 h2
  ntrans x y z h1 h2 := by
    rw [ltK, decide_eq_false_iff_not] at *
    exact not_lt_trans h1 h2

theorem closure26 (x y : KR) (W : World) : Calls Try.prog 26 #[aggK x.1 x.2.1 x.2.2.1 x.2.2.2, aggK y.1 y.2.1 y.2.2.1 y.2.2.2] W fun e w' => e = .returned (.int .i64 (cfK x y)) ∧ ∃ q os', w' = grow (W.drewN q) os' := by
  have hcon := fun W' => Try.strings_Compare ⟨x.1.toArray⟩ ⟨y.1.toArray⟩ W'
  simp only [List.toList_toArray] at hcon
  show Calls Try.prog 26 _ _ (fun e w' => e = .returned (.int .i64 (compareBytes x.1 y.1)) ∧ _)
  generalize compareBytes x.1 y.1 = r at hcon ⊢
  go_enter Try.func26, Try.ntmps26
  go_wp2_with (go_at_call 27; refine (hcon _).mono ?_; rintro e w' ⟨rfl, rfl⟩)
  go_ret
  exact ⟨rfl, 0, _, by rw [alloc_eq_grow, alloc_eq_grow, grow_grow]; rfl⟩

theorem flat_get : ∀ (l : List KR) (t : Nat) (h : t < l.length * 4), (l.flatMap encK)[t]? = (encK (l[t / 4]'(by omega)))[t % 4]?
  | [], t, h => by simp at h
  | r :: l, t, h => by
    rw [List.flatMap_cons]
    by_cases h4 : t < 4
    · rw [List.getElem?_append_left (by simp [encK]; omega)]
      have e1 : t / 4 = 0 := by omega
      have e2 : t % 4 = t := by omega
      simp [e1, e2]
    · rw [List.getElem?_append_right (by simp [encK]; omega)]
      have hl : (encK r).length = 4 := rfl
      rw [hl, flat_get l (t - 4) (by simp at h; omega)]
      have e1 : t / 4 = (t - 4) / 4 + 1 := by omega
      have e2 : t % 4 = (t - 4) % 4 := by omega
      simp [e1, e2]
theorem flat_len : ∀ l : List KR, (l.flatMap encK).length = l.length * 4
  | [] => rfl
  | r :: l => by rw [List.flatMap_cons, List.length_append, flat_len l]; simp [encK]; omega
theorem flatK_eq (l : List KR) : (flatK encK 4 l.toArray).toList = l.flatMap encK := by
  apply List.ext_getElem?
  intro t
  by_cases h : t < l.length * 4
  · rw [flat_get l t h, Array.getElem?_toList]
    have h1 : t < (flatK encK 4 l.toArray).size := by simpa using h
    rw [Array.getElem?_eq_getElem h1]
    have h2 := get_flatK encK 4 l.toArray t (by simpa using h)
    rw [getElem!_pos _ t h1] at h2
    rw [h2]
    have h3 : t / 4 < l.length := by omega
    have h4 : t % 4 < (encK l[t / 4]).length := by simp [encK]; omega
    rw [List.getElem?_eq_getElem h4]
    simp [h3, h4]
  · rw [List.getElem?_eq_none (by simp; omega), List.getElem?_eq_none (by rw [flat_len]; omega)]
theorem flatK_arr (l : List KR) : flatK encK 4 l.toArray = (l.flatMap encK).toArray := by
  rw [← flatK_eq]

theorem holds_blk {w : World} {g : Nat} {T : TypeId} {l : List KR} (h : Blk w g T (l.flatMap encK)) : HoldsK encK 4 w g 0 l.toArray := by
  intro j hj
  rw [flatK_arr] at hj ⊢
  simp only [List.size_toArray] at hj
  rw [Nat.zero_add]
  refine ⟨?_, h.free j⟩
  rw [h.cell hj, getElem!_pos _ j (by simpa using hj)]
  simp

theorem putCells_all (F c : Array Value) (h : F.size = c.size) : putCells id 0 F c = F := by
  apply Array.ext (by simp [putCells, h])
  intro i h1 h2
  simp [putCells, h2]
theorem blk_sorted {w : World} {g n : Nat} {T : TypeId} {os : Array Obj} {l l' : List KR} (h : Blk w g T (l.flatMap encK)) (hl : l'.length = l.length) : Blk (sortWorldK encK 4 w g 0 n l'.toArray os) g T (l'.flatMap encK) := by
  unfold sortWorldK putRowK Blk
  have hg := h.lt
  unfold Blk at h
  rw [heap_grow_old _ _ (by simpa using hg), flatK_arr]
  simp only [putRow, mapBlock, Sort.ahead, Array.getElem?_modify, h, onCells, if_true, Option.map_some]
  rw [putCells_all _ _ (by simp only [List.size_toArray]; rw [flat_len, flat_len, hl])]
theorem grown_sorted {w : World} {g n : Nat} {os : Array Obj} {l' : List KR} : w.grownBy (sortWorldK encK 4 w g 0 n l'.toArray os) (some g) := by
  unfold sortWorldK putRowK
  refine ⟨rfl, rfl, rfl, by simp, fun k hk hne => ?_⟩
  rw [heap_grow_old _ _ (by simpa using hk)]
  have : g ≠ k := fun e => hne (by rw [e])
  simp [putRow, mapBlock, Sort.ahead, Array.getElem?_modify, this]

/-- slices.SortFunc at the ranges. -/
theorem sort_any (g cap : Nat) (l : List KR) (w : World) (h : Blk w g 38 (l.flatMap encK)) (hn : l.length ≤ 1000) :
    Calls Try.prog 25 #[.slice (some ⟨g, 0, none⟩) l.length cap, .func (.func 26) #[] #[]] w fun e w' =>
      e = .returned (.tuple #[]) ∧ ∃ l' : List KR, l'.Perm l ∧ l'.Pairwise (fun a b => ¬ b.1 < a.1) ∧ Blk w' g 38 (l'.flatMap encK) ∧ w.grownBy w' (some g) := by
  have eg : ∀ args w, (callFunc 26 args).run Try.prog w = .ok (.enter 26 args) w := enters_of Try.func26 (by kernel_rfl) rfl
  have X := AnyQ.slices_SortFunc Try.sortKR 4 Try.isAgg38 Try.sizeOf38 encK (fun _ => rfl) (fun x v hv => by simp [encK] at hv; rcases hv with rfl | rfl | rfl | rfl <;> rfl) cfK swoK 26 #[] g 0 cap l.toArray w eg
    (fun _ _ _ _ x y => closure26 x y _) (holds_blk h) h.lt (by simp; omega)
  change Calls Try.prog 25 _ _ _ at X
  refine X.mono ?_
  rintro e w' ⟨rfl, d', n, os, hp, hs, rfl⟩
  have hsz : d'.toList.length = l.length := by have := hp.1; simpa using this
  refine ⟨rfl, d'.toList, ?_, ?_, blk_sorted (l' := d'.toList) h hsz, grown_sorted (l' := d'.toList)⟩
  · have := hp.2.2
    have e1 : (d'.extract 0 l.toArray.size).toList = d'.toList := by simp [← hsz]
    have e2 : (l.toArray.extract 0 l.toArray.size).toList = l := by simp
    rwa [e1, e2] at this
  · rw [List.pairwise_iff_getElem]
    intro i j hi hj hij
    have := hs i j (Nat.zero_le _) hij (by simpa [hsz] using hj)
    rw [ltK, decide_eq_false_iff_not] at this
    have a1 : d'[i]! = d'.toList[i] := by rw [getElem!_pos d' i (by simpa using hi)]; simp
    have a2 : d'[j]! = d'.toList[j] := by rw [getElem!_pos d' j (by simpa using hj)]; simp
    rwa [a1, a2] at this
end Go.Proofs.Qxb6003818a
