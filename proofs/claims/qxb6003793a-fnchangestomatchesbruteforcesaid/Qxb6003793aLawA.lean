import Derived.Test.Qxb6003793aChg
import Derived.Test.Qxb6003793aUnion
import Derived.Test.Qxb6003793aView
import Derived.Test.Qxb6003793aCloneB
import Derived.Test.Qxb6003793aChecks
namespace Go.Proofs.Qxb6003793a
open Go.ChangeShapes Go.WideShapes Go.ChangeAt Go.RowKit Go.Maps
open Go.WideMaps Go.WideElems
open Pl
set_option linter.unusedVariables false

set_option maxHeartbeats 1000000 in
theorem zzchangesTo_any (b n : Nat) (ps : List (Str × Int)) (a0 a1 a2 a3 a4 : Option Addr) (c0 c1 c2 c3 c4 : Nat) (s0 s1 s2 s3 s4 : List Str) (B : Nat) (w : World) (hB : B ≤ w.heap.size)
    (hm : MapIs w b n ps) (hn : n ≤ 150000) (hs : Seen w B a0 a1 a2 a3 a4 c0 c1 s0 s1 s2 s3 s4) (hpl : ∀ p ∈ ps, p.1.length ≤ maxLen) :
    Calls Try.prog 19 #[.map (some b), .agg #[.slice a0 s0.length c0, .slice a1 s1.length c1, .slice a2 s2.length c2, .slice a3 s3.length c3, .slice a4 s4.length c4]] w fun e w' =>
      (∃ v, e = .returned v ∧ Changed w' w.heap.size v ps s0 s1 s2 s3 s4) ∧ Below w.heap.size w w' := by
  go_enter Try.func19, Try.ntmps19
  go_wp2_with fail
  have b1 : ∀ o, Below w.heap.size w (w.alloc o) := fun o => (Below.refl _ w).alloc (Nat.le_refl _) o
  have X := changesTo_any b n ps a0 a1 a2 a3 a4 c0 c1 c2 c3 c4 s0 s1 s2 s3 s4 B (w.alloc (.cells #[.slice a0 s0.length c0, .slice a1 s1.length c1, .slice a2 s2.length c2, .slice a3 s3.length c3, .slice a4 s4.length c4] 49)) (by simp; omega) (hm.below (b1 _) hm.lt) hn (hs.below (b1 _) hB) hpl
  refine X.mono ?_
  rintro e w1 ⟨⟨v, rfl, us, h1, h2, h3, h4⟩, hb1⟩
  clear X
  go_wp2_with fail
  go_ret
  exact ⟨⟨v, rfl, us, h1, h2, h3, owns_base h4 (by simp)⟩, (b1 _).trans (hb1.mono (by simp))⟩

/-- A slice of changes that the call owns, written out. -/
theorem owned_shape3 {w : World} {base n : Nat} {v : Value} {xs : List Value} (h : w.ownsRow base 56 3 v n xs) : ∃ a cap, v = .slice a n cap ∧ Row w w.heap.size a xs := by
  rcases h.2 with ⟨rfl, h0⟩ | ⟨g, cap, cur, rfl, hbase, hb, h1, h2, h3, h4⟩
  · subst h0
    have : xs = [] := List.length_eq_zero_iff.1 (by have := h.1; simpa using this)
    subst this
    exact ⟨none, 0, rfl, Row.nil _ _ _⟩
  · refine ⟨_, cap, rfl, fun i hi => ⟨g, 0, rfl, (Array.getElem?_eq_some_iff.1 hb).1, ?_⟩⟩
    have hlen := h.1
    have : cur.toList[i]? = some xs[i] := by
      have e : (cur.toList.take (n * 3))[i]? = xs[i]? := by rw [h4]
      rw [List.getElem?_take, if_pos (by omega)] at e
      rw [e, List.getElem?_eq_getElem hi]
    simp only [World.cell?, hb, Nat.zero_add]
    simpa using this

theorem chgs_at {h st : Str → Int} {us : List Str} {i : Nat} (hi : i < us.length) (hne : h us[i] ≠ st us[i]) : ∃ r, chgs h st us = chgs h st (us.take i) ++ (us[i], h us[i], st us[i]) :: r := by
  refine ⟨chgs h st (us.drop (i + 1)), ?_⟩
  have e : us = us.take i ++ us[i] :: us.drop (i + 1) := by rw [← List.drop_eq_getElem_cons hi, List.take_append_drop]
  have e2 : chgs h st us = chgs h st (us.take i ++ us[i] :: us.drop (i + 1)) := by rw [← e]
  rw [e2, chgs, List.filterMap_append, List.filterMap_cons]
  simp [chgs, chgOf, hne]

theorem flat_len (cs : List (Str × Int × Int)) : (cs.flatMap encC).length = cs.length * 3 := by
  induction cs with
  | nil => rfl
  | cons c cs ih => rw [List.flatMap_cons, List.length_append, ih]; simp [encC]; omega
/-- The three cells of a change. -/
theorem change_cells {w : World} {B bg og : Nat} {cs : List (Str × Int × Int)} (h : Row w B (some ⟨bg, og, none⟩) (cs.flatMap encC)) {dn r : List (Str × Int × Int)} {c : Str × Int × Int} (he : cs = dn ++ c :: r) :
    w.cell? ⟨bg, og + dn.length * 3, none⟩ = some (.string ⟨c.1.toArray⟩) ∧ w.cell? ⟨bg, og + dn.length * 3 + 1, none⟩ = some (.int .u8 c.2.1) ∧ w.cell? ⟨bg, og + dn.length * 3 + 2, none⟩ = some (.int .u8 c.2.2) := by
  have key : ∀ j (hj : j < 3), w.cell? ⟨bg, og + (dn.length * 3 + j), none⟩ = (encC c)[j]? := by
    intro j hj
    have e : cs.flatMap encC = dn.flatMap encC ++ (encC c ++ r.flatMap encC) := by rw [he, List.flatMap_append, List.flatMap_cons]
    have hl : dn.length * 3 + j < (cs.flatMap encC).length := by rw [flat_len, he]; simp; omega
    obtain ⟨b, o, ea, _, hc⟩ := h _ hl
    cases ea
    rw [hc, ← List.getElem?_eq_getElem hl, e, List.getElem?_append_right (by rw [flat_len]; omega), List.getElem?_append_left (by rw [flat_len]; simp [encC]; omega)]
    congr 1
    rw [flat_len]
    omega
  exact ⟨by simpa [encC] using key 0 (by omega), by have := key 1 (by omega); rw [← Nat.add_assoc] at this; simpa [encC] using this, by have := key 2 (by omega); rw [← Nat.add_assoc] at this; simpa [encC] using this⟩

/-- What the row tells of a slice of strings that came in. -/
structure InS (w : World) (a : Option Addr) (ss : List Str) : Prop where
  row : Strs w w.heap.size a ss
  nil : a = none → ss = []
  le : ss.length ≤ 9223372036854775807
  len : ∀ x ∈ ss, x.length ≤ maxLen
/-- .. of a slice of bytes. -/
structure InB (w : World) (a : Option Addr) (vs : List Int) : Prop where
  row : Row w w.heap.size a (vs.map (Value.int .u8))
  nil : a = none → vs = []
  le : vs.length ≤ 9223372036854775807
  bd : ∀ v ∈ vs, 0 ≤ v ∧ v ≤ 255
theorem OwnS.nil {w : World} {lo : Nat} {a : Option Addr} {ss : List Str} (h : OwnS w lo a ss) : a = none → ss = [] := by
  intro e
  rcases h with ⟨_, h⟩ | ⟨g, h, _⟩
  · exact h
  · rw [e] at h; cases h
theorem view_nodup {s1 s2 s3 s4 : List Str} (h : ViewOK s1 s2 s3 s4) : (s1 ++ mergeL s2 (mergeL s3 s4)).Nodup := by
  have h1 := nodup_of_sorted h.all
  refine (List.Perm.nodup_iff ?_).1 h1
  refine (merge_perm _ _).trans ?_
  refine ((merge_perm s1 s2).append (merge_perm s3 s4)).trans ?_
  rw [List.append_assoc]
  refine List.Perm.append_left s1 ?_
  exact ((List.Perm.append_left s2 (merge_perm s3 s4)).symm.trans (merge_perm s2 (mergeL s3 s4)).symm).symm.symm
theorem view_len {w : World} {a1 a2 a3 a4 : Option Addr} {s1 s2 s3 s4 : List Str} (h1 : InS w a1 s1) (h2 : InS w a2 s2) (h3 : InS w a3 s3) (h4 : InS w a4 s4) : ∀ x ∈ s1 ++ mergeL s2 (mergeL s3 s4), x.length ≤ maxLen := by
  intro x hx
  rw [List.mem_append, mem_merge, mem_merge] at hx
  rcases hx with h | h | h | h
  · exact h1.len x h
  · exact h2.len x h
  · exact h3.len x h
  · exact h4.len x h
theorem zip_keys {ks : List Str} {vs : List Int} (h : ks.length = vs.length) : (ks.zip vs).map (·.1) = ks := by
  show (ks.zip vs).map Prod.fst = ks
  exact List.map_fst_zip (by omega)
end Go.Proofs.Qxb6003793a
