import Derived.Test.Qxb6003793aLawA
import Derived.Test.Qxb6003793aCheckB
import Derived.Test.Qxb6003793aAppP
namespace Go.Proofs.Qxb6003793a
open Go.ChangeShapes Go.WideShapes Go.ChangeAt Go.RowKit Go.Maps
open Go.WideMaps Go.WideElems
open Pl
set_option linter.unusedVariables false

theorem Strs.drew {w : World} {B : Nat} {a : Option Addr} {ss : List Str} (h : Strs w B a ss) : Strs w.drew B a ss := h.below (Below.refl B w).drew (Nat.le_refl _)
theorem Row.drew {w : World} {B : Nat} {a : Option Addr} {xs : List Value} (h : Row w B a xs) : Row w.drew B a xs := h.below (Below.refl B w).drew (Nat.le_refl _)

/-- 'v, ok := m[x]'. -/
theorem MapIs.look_ok {w : World} {b n : Nat} {ps : List (Str × Int)} (h : MapIs w b n ps) (x : Str) (hx : x.length ≤ maxLen) :
    ∃ ok, (Instr.lookup 46 (.map (some b)) (.string ⟨x.toArray⟩) true).run Try.prog w = .ok (.tuple #[.int .u8 (heldF x ps), .bool ok]) w ∧ (ok = false → heldF x ps = 0) := by
  obtain ⟨D, hown, hat, hhas⟩ := h
  obtain ⟨v, pl, hrun, hv⟩ := hown.look_ok law9 Try.underlying46 (zero52 w) (zd := .lit (.int .u8 0)) (zp := []) (plainElem_int Try.underlying52 (WalkArith.wf_u8 (by omega))) (keyOf9 hx)
  rw [hat x] at hv
  obtain ⟨c, rfl, hc, -⟩ := plainElem_int_inv Try.underlying52 hv
  obtain rfl : heldF x ps = c := by simpa using congrArg Prod.fst hc
  refine ⟨_, hrun, fun hf => ?_⟩
  have := hat x
  rw [atKey_of_not_has hf] at this
  simpa using this.symm

theorem split_k {α : Type} (cs : List α) {k : Nat} (hk : k < cs.length) : cs = cs.take k ++ cs[k] :: cs.drop (k + 1) := by
  rw [← List.drop_eq_getElem_cons hk, List.take_append_drop]

/-- The cells of the k-th change. -/
theorem change_k {w : World} {B : Nat} {a : Option Addr} {cs : List (Str × Int × Int)} (h : Row w B a (cs.flatMap encC)) (hl : 0 < cs.length) :
    ∃ bg og, a = some ⟨bg, og, none⟩ ∧ bg < B ∧ ∀ k (hk : k < cs.length), w.cell? ⟨bg, og + k * 3, none⟩ = some (.string ⟨cs[k].1.toArray⟩) ∧ w.cell? ⟨bg, og + k * 3 + 1, none⟩ = some (.int .u8 cs[k].2.1) ∧ w.cell? ⟨bg, og + k * 3 + 2, none⟩ = some (.int .u8 cs[k].2.2) := by
  obtain ⟨bg, og, hag, hbg, _⟩ := h 0 (by rw [flat_len]; omega)
  cases hag
  refine ⟨bg, og, rfl, hbg, fun k hk => ?_⟩
  have := change_cells h (split_k cs hk)
  rwa [List.length_take, Nat.min_eq_left (by omega)] at this

theorem stand_bd (x : Str) (s1 s2 s3 s4 : List Str) : 0 ≤ stand x s1 s2 s3 s4 ∧ stand x s1 s2 s3 s4 ≤ 255 := by
  unfold stand
  repeat' split
  all_goals omega

/-- What the walk asks of the changes. -/
structure ChOK (cs : List (Str × Int × Int)) : Prop where
  ne : ∀ k (hk : k < cs.length), (cs[k].2.1 == cs[k].2.2) = false
  up : ∀ k (hk : k + 1 < cs.length), Op.bytesLess cs[k].1 cs[k + 1].1 = true
  len : ∀ k (hk : k < cs.length), cs[k].1.length ≤ maxLen
  bd : ∀ k (hk : k < cs.length), 0 ≤ cs[k].2.2 ∧ cs[k].2.2 ≤ 255

theorem chok {h : Str → Int} {s1 s2 s3 s4 us : List Str} (hu : us.Pairwise (· < ·)) (hl : ∀ x ∈ us, x.length ≤ maxLen) : ChOK (chgs h (fun x => stand x s1 s2 s3 s4) us) := by
  have key := fun k hk => mem_chgs.1 (List.getElem_mem (l := chgs h (fun x => stand x s1 s2 s3 s4) us) (n := k) hk)
  have hup := chgs_up (h := h) (st := fun x => stand x s1 s2 s3 s4) hu
  refine ⟨fun k hk => ?_, fun k hk => ?_, fun k hk => ?_, fun k hk => ?_⟩
  · have := key k hk
    rw [this.2.2.1, this.2.2.2]
    simpa using this.2.1
  · rw [less_eq]
    have := (List.pairwise_iff_getElem.1 hup) k (k + 1) (by simp; omega) (by simpa using hk) (by omega)
    simpa using this
  · exact hl _ (key k hk).1
  · rw [(key k hk).2.2.2]
    exact stand_bd _ _ _ _ _
end Go.Proofs.Qxb6003793a
