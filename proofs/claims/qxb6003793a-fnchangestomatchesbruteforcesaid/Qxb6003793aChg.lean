import Derived.Test.Qxb6003793aSortW
import Derived.Test.Qxb6003793aChgP
import Derived.Deep.RegionWith
namespace Go.Proofs.Qxb6003793a
open Go.ChangeShapes Go.WideShapes Go.ChangeAt Go.RowKit Go.Maps
open Go.WideMaps Go.WideElems
open Pl
set_option linter.unusedVariables false

theorem info56 : (Try.prog.info? 56).map (fun i => (i.zero, i.size, i.bytes)) = some (some (.agg #[.string ByteArray.empty, .int .u8 0, .int .u8 0]), 3, 24) := by kernel_rfl

/-- A change, as it lies in memory. -/
def encC (c : Str × Int × Int) : List Value := [.string ⟨c.1.toArray⟩, .int .u8 c.2.1, .int .u8 c.2.2]

/-- The view's four lists and Out, as changesTo meets them. -/
structure Seen (w : World) (B : Nat) (a0 a1 a2 a3 a4 : Option Addr) (c0 c1 : Nat) (s0 s1 s2 s3 s4 : List Str) : Prop where
  h0 : Strs w B a0 s0
  h1 : Strs w B a1 s1
  h2 : Strs w B a2 s2
  h3 : Strs w B a3 s3
  h4 : Strs w B a4 s4
  z0 : a0 = none → s0 = [] ∧ c0 = 0
  z1 : a1 = none → s1 = [] ∧ c1 = 0
  n0 : s0.length ≤ 1024
  n1 : s1.length ≤ 3072
  n2 : s2.length ≤ 1024
  n3 : s3.length ≤ 1024
  n4 : s4.length ≤ 1024
  p0 : s0.Pairwise (· < ·)
  p2 : s2.Pairwise (· < ·)
  p3 : s3.Pairwise (· < ·)
  p4 : s4.Pairwise (· < ·)
  nd : (s0 ++ s1).Nodup
  out : ∀ x, x ∈ s1 ↔ x ∈ s2 ∨ x ∈ s3 ∨ x ∈ s4
  len : ∀ x ∈ s0 ++ s1, x.length ≤ maxLen
theorem Seen.below {w w' : World} {B B' : Nat} {a0 a1 a2 a3 a4 : Option Addr} {c0 c1 : Nat} {s0 s1 s2 s3 s4 : List Str} (h : Seen w B a0 a1 a2 a3 a4 c0 c1 s0 s1 s2 s3 s4) (hb : Below B' w w') (hB : B ≤ B') : Seen w' B a0 a1 a2 a3 a4 c0 c1 s0 s1 s2 s3 s4 :=
  { h with h0 := h.h0.below hb hB, h1 := h.h1.below hb hB, h2 := h.h2.below hb hB, h3 := h.h3.below hb hB, h4 := h.h4.below hb hB }
theorem Seen.mono {w : World} {B B' : Nat} {a0 a1 a2 a3 a4 : Option Addr} {c0 c1 : Nat} {s0 s1 s2 s3 s4 : List Str} (h : Seen w B a0 a1 a2 a3 a4 c0 c1 s0 s1 s2 s3 s4) (hB : B ≤ B') : Seen w B' a0 a1 a2 a3 a4 c0 c1 s0 s1 s2 s3 s4 :=
  { h with h0 := h.h0.mono hB, h1 := h.h1.mono hB, h2 := h.h2.mono hB, h3 := h.h3.mono hB, h4 := h.h4.mono hB }
theorem Seen.standing {w : World} {B : Nat} {a0 a1 a2 a3 a4 : Option Addr} {c0 c1 : Nat} {s0 s1 s2 s3 s4 : List Str} (h : Seen w B a0 a1 a2 a3 a4 c0 c1 s0 s1 s2 s3 s4) (hB : B ≤ w.heap.size) (l1 c2 c3 c4 : Nat) (id : Str) :
    Calls Try.prog 35 #[.agg #[.slice a0 s0.length c0, .slice a1 l1 c1, .slice a2 s2.length c2, .slice a3 s3.length c3, .slice a4 s4.length c4], .string ⟨id.toArray⟩] w fun e w' =>
      e = .returned (.int .u8 (stand id s0 s2 s3 s4)) ∧ Below w.heap.size w w' :=
  standing_any a0 a1 a2 a3 a4 c0 c1 c2 c3 c4 l1 s0 s2 s3 s4 id B w hB h.h0 h.h2 h.h3 h.h4 (by have := h.n0; omega) (by have := h.n2; omega) (by have := h.n3; omega) (by have := h.n4; omega) h.p0 h.p2 h.p3 h.p4
theorem Seen.zero {w : World} {B : Nat} {a0 a1 a2 a3 a4 : Option Addr} {c0 c1 : Nat} {s0 s1 s2 s3 s4 : List Str} (h : Seen w B a0 a1 a2 a3 a4 c0 c1 s0 s1 s2 s3 s4) (x : Str) : stand x s0 s2 s3 s4 = 0 ↔ x ∉ s0 ++ s1 := by
  rw [stand_zero, List.mem_append, h.out x]
  simp only [not_or]

/-- What changesTo hands back. -/
def Changed (w' : World) (lo : Nat) (v : Value) (ps : List (Str × Int)) (s0 s1 s2 s3 s4 : List Str) : Prop :=
  ∃ us : List Str, us.Pairwise (· < ·) ∧ (∀ x, x ∈ us ↔ x ∈ s0 ++ s1 ∨ x ∈ ps.map (·.1)) ∧ us.length ≤ 200000 ∧
    w'.ownsRow lo 56 3 v (chgs (fun x => heldF x ps) (fun x => stand x s0 s2 s3 s4) us).length ((chgs (fun x => heldF x ps) (fun x => stand x s0 s2 s3 s4) us).flatMap encC)

theorem ownsMap_below {w w' : World} {b n B : Nat} {D : DataW Unit} (h : w.ownsMap Try.prog 9 (plainElem Try.prog 52) b n D) (hb : Below B w w') (hB : b < B) : w'.ownsMap Try.prog 9 (plainElem Try.prog 52) b n D := by
  obtain ⟨es, clock, hh, F⟩ := h
  exact ⟨es, clock, (hb.block b hB).trans hh, F⟩

theorem cell_three_new (w : World) (x y z : Value) (t : TypeId) : ∀ j u, [x, y, z][j]? = some u → (w.alloc (.cells #[x, y, z] t)).cell? ((⟨w.heap.size, 0, none⟩ : Addr).add j) = some u := by
  intro j u hj
  rw [Addr.add_lit, Nat.zero_add]
  have : (w.alloc (.cells #[x, y, z] t)).heap[w.heap.size]? = some (.cells #[x, y, z] t) := heap_alloc_new w _
  simp only [World.cell?, this]
  simpa using hj
theorem encC_one (c : Str × Int × Int) : ∀ u ∈ encC c, u.oneCell' = true := by
  intro u hu
  simp only [encC, List.mem_cons, List.not_mem_nil, or_false] at hu
  rcases hu with rfl | rfl | rfl <;> rfl
theorem owns_base {w : World} {base base' : Nat} {e : TypeId} {size : Nat} {v : Value} {n : Nat} {xs : List Value} (h : w.ownsRow base e size v n xs) (hb : base' ≤ base) : w.ownsRow base' e size v n xs := by
  refine ⟨h.1, ?_⟩
  rcases h.2 with h0 | ⟨g, cap, cur, hv, hbs, r⟩
  · exact .inl h0
  · exact .inr ⟨g, cap, cur, hv, Nat.le_trans hb hbs, r⟩
theorem kept_none {w w' : World} {base : Nat} {e : TypeId} {size : Nat} {v : Value} {n : Nat} {xs : List Value} (h : w.ownsRow base e size v n xs) (hg : w.grownBy w' none) : w'.ownsRow base e size v n xs :=
  h.kept hg (by cases hv : v.ownBlock with | none => exact .inl rfl | some k => exact .inr (by simp))
theorem kept_below {w w' : World} {base B : Nat} {e : TypeId} {size : Nat} {v : Value} {n : Nat} {xs : List Value} (h : w.ownsRow base e size v n xs) (hb : Below B w w') (hB : w.heap.size ≤ B) : w'.ownsRow base e size v n xs := by
  refine ⟨h.1, ?_⟩
  rcases h.2 with h0 | ⟨g, cap, cur, hv, hbs, hh, r⟩
  · exact .inl h0
  · exact .inr ⟨g, cap, cur, hv, hbs, (hb.block g (Nat.lt_of_lt_of_le (Array.getElem?_eq_some_iff.1 hh).1 hB)).trans hh, r⟩
theorem ranges_below {w w' : World} {b r n B : Nat} {D : DataW Unit} {left : Lit → Bool} {cnt : Nat} (h : w.ranges Try.prog 9 (plainElem Try.prog 52) b r n D left cnt) (hb : Below B w w') (hB : w.heap.size ≤ B) : w'.ranges Try.prog 9 (plainElem Try.prog 52) b r n D left cnt :=
  h.kept (row := none) ⟨hb.os, hb.tape, hb.output, hb.size, fun k hk _ => hb.block k (by omega)⟩ (by simp) (by simp)

set_option maxRecDepth 100000 in
set_option maxHeartbeats 4000000 in
theorem changesTo_any (b n : Nat) (ps : List (Str × Int)) (a0 a1 a2 a3 a4 : Option Addr) (c0 c1 c2 c3 c4 : Nat) (s0 s1 s2 s3 s4 : List Str) (B : Nat) (w : World) (hB : B ≤ w.heap.size)
    (hm : MapIs w b n ps) (hn : n ≤ 150000) (hs : Seen w B a0 a1 a2 a3 a4 c0 c1 s0 s1 s2 s3 s4) (hpl : ∀ p ∈ ps, p.1.length ≤ maxLen) :
    Calls Try.prog 31 #[.map (some b), .agg #[.slice a0 s0.length c0, .slice a1 s1.length c1, .slice a2 s2.length c2, .slice a3 s3.length c3, .slice a4 s4.length c4]] w fun e w' =>
      (∃ v, e = .returned v ∧ Changed w' w.heap.size v ps s0 s1 s2 s3 s4) ∧ Below w.heap.size w w' := by
  obtain ⟨i0, hi0, hz0, hz1, hz2⟩ := info_parts info9
  obtain ⟨i1, hi1, hy0, hy1, hy2⟩ := info_parts info56
  have hbl := hm.lt
  obtain ⟨D, hown, hat, hhas⟩ := hm
  have HAT := show Hid _ from hat
  have HHAS := show Hid _ from hhas
  have HPL := show Hid _ from hpl
  clear hat hhas hpl
  have n0 := hs.n0
  have n1 := hs.n1
  have hDn := size_le hown
  go_enter Try.func31, Try.ntmps31
  go_wp2_with fail
  have b2 : ∀ o o', Below w.heap.size w ((w.alloc o).alloc o') := fun o o' => ((Below.refl _ w).alloc (Nat.le_refl _) o).alloc (by simp) o'
  have X := concat_any (w.heap.size + 1) a0 a1 c0 c1 s0 s1 (w.heap.size + 2) ((w.alloc (.cells #[.slice a0 s0.length c0, .slice a1 s1.length c1, .slice a2 s2.length c2, .slice a3 s3.length c3, .slice a4 s4.length c4] 49)).alloc (.cells #[.slice a0 s0.length c0, .slice a1 s1.length c1] 36)) (by simp) (by omega) (by simp) (by simp) ((hs.h0.below (b2 _ _) hB).mono (by omega)) ((hs.h1.below (b2 _ _) hB).mono (by omega)) (by omega) (by omega) hs.z0 hs.z1
  refine X.mono ?_
  clear X
  rintro e w2 ⟨⟨v1, rfl, hrow2⟩, hb2⟩
  have hrow2' : w2.ownsRow (w.heap.size + 2) 9 1 v1 (s0.length + s1.length) ((s0 ++ s1).map encStr) := by simpa using hrow2
  have hb2' : Below (w.heap.size + 2) ((w.alloc (.cells #[.slice a0 s0.length c0, .slice a1 s1.length c1, .slice a2 s2.length c2, .slice a3 s3.length c3, .slice a4 s4.length c4] 49)).alloc (.cells #[.slice a0 s0.length c0, .slice a1 s1.length c1] 36)) w2 := by simpa using hb2
  have hbox2 : Blk w2 w.heap.size 49 [.slice a0 s0.length c0, .slice a1 s1.length c1, .slice a2 s2.length c2, .slice a3 s3.length c3, .slice a4 s4.length c4] := by
    unfold Blk
    rw [hb2'.block w.heap.size (by omega), Below.heap_alloc _ _ _ (by simp)]
    exact heap_alloc_new w _
  have B2 : Below w.heap.size w w2 := (b2 _ _).trans (hb2'.mono (by omega))
  have z2 : w.heap.size + 2 ≤ w2.heap.size := by have := hb2'.size; simpa using this
  clear hrow2 hb2 hb2' b2
  have hown2 := ownsMap_below hown B2 hbl
  go_wp2_with (at_range; refine wpList_range_own _ rfl _ 46 rfl 9 52 law9 Try.underlying46 _ b n D rfl hown2 ?_; intro w3 hrg3 hg3 hs3)
  go_frame
  have hrow3 := kept_none hrow2' hg3
  have hbox3 := hbox2.kept hg3 (by simp)
  have B3 : Below w.heap.size w w3 := B2.grown hg3 (by omega) (fun k h => by cases h)
  go_loopw [5] (fun v wr => ∃ (left : Lit → Bool) (cnt : Nat) (met : List Str), wr.ranges Try.prog 9 (plainElem Try.prog 52) b w2.heap.size n D left cnt ∧ met.length + cnt ≤ n ∧
      wr.ownsRow (w.heap.size + 2) 9 1 v (subj (s0 ++ s1) met (fun x => stand x s0 s2 s3 s4)).length ((subj (s0 ++ s1) met (fun x => stand x s0 s2 s3 s4)).map encStr) ∧
      Blk wr w.heap.size 49 [.slice a0 s0.length c0, .slice a1 s1.length c1, .slice a2 s2.length c2, .slice a3 s3.length c3, .slice a4 s4.length c4] ∧ Collected D left met ∧ Below w.heap.size w wr)
    (fun _ wr => wr.rangeLeft b w2.heap.size)
  case atStart => exact ⟨_, _, [], hrg3, by simpa using hDn, by rw [subj_nil]; simpa using hrow3, hbox3, Collected.start D, B3⟩
  case round =>
    clear hrow3 hbox3 B3 hrow2' hbox2 B2 hown2 hrg3 hs3
    have zr : w.heap.size + 2 ≤ w2.heap.size := z2
    obtain ⟨left, cnt, met, hrg, hcs, hrow, hbox, hC, hbel⟩ := hrel
    go_wp2_with (at_next; refine wpList_next_ranges _ rfl _ rfl 9 law9 (plainElem Try.prog 52) encStr (Value.int .u8) (fun key kl hk => by obtain ⟨x, hx, _⟩ := Maps.keyOf_str Try.underlying9 hk; exact ⟨x, hx⟩) (fun v y hv => by obtain ⟨c, rfl, _⟩ := plainElem_int_inv Try.underlying52 hv; exact ⟨c, rfl⟩) b w2.heap.size n _ _ _ rfl hrg ?_ ?_)
    · intro hc0 hl0
      have hsl := subj_le (s0 ++ s1) met (fun x => stand x s0 s2 s3 s4)
      rw [List.length_append] at hsl
      have hTT := subj_sorted (vw := s0 ++ s1) (met := met) (st := fun x => stand x s0 s2 s3 s4) hs.nd hC.1 hs.zero
      have hmet : ∀ x, x ∈ met ↔ x ∈ ps.map (·.1) := fun x => by
        rw [hC.2 x, hl0]
        simp only [and_true]
        exact HHAS.out x
      have hTl : ((subj (s0 ++ s1) met (fun x => stand x s0 s2 s3 s4)).mergeSort leB).length = (subj (s0 ++ s1) met (fun x => stand x s0 s2 s3 s4)).length := List.length_mergeSort _
      have hTn : ((subj (s0 ++ s1) met (fun x => stand x s0 s2 s3 s4)).mergeSort leB).length ≤ 200000 := by rw [hTl]; omega
      have HTT : Hid (((subj (s0 ++ s1) met (fun x => stand x s0 s2 s3 s4)).mergeSort leB).Pairwise (· < ·) ∧ ∀ x, x ∈ (subj (s0 ++ s1) met (fun x => stand x s0 s2 s3 s4)).mergeSort leB ↔ x ∈ s0 ++ s1 ∨ x ∈ ps.map (·.1)) :=
        ⟨hTT.1, fun x => by rw [hTT.2 x, hmet x]⟩
      have hownr := hrg.owns
      clear hTT hmet hC hl0 hc0
      go_wp2_with fail
      refine (sort_any (w.heap.size + 2) _ _ wr (by omega) hrow).mono ?_
      rintro e w6 ⟨rfl, hrow6, hg6⟩
      have hbox6 := hbox.kept hg6 (row_ne_low hrow (by omega))
      have hm6 : MapIs w6 b n ps := ⟨D, hownr.kept hg6 (row_ne_low hrow (by omega)), HAT.out, HHAS.out⟩
      have B6 : Below w.heap.size w w6 := hbel.grown hg6 hbel.size (fun k e => by have := (hrow.lt k e).1; omega)
      rw [← hTl] at hrow6
      obtain ⟨aT, capT, hvT, hST⟩ := owned_shape hrow6
      subst hvT
      clear hrow6 hg6 hrow hrg hbox hownr HAT HHAS hbel hTl hsl hcs
      generalize (subj (s0 ++ s1) met (fun x => stand x s0 s2 s3 s4)).mergeSort leB = T at *
      have z6 := B6.size
      have hs6 := hs.below B6 hB
      have hbox6l := hbox6.lt
      go_wp2_with fail
      go_loopw [7, 36] (fun vc i wr => ∃ k : Nat, k ≤ T.length ∧ i = .int .i64 k ∧ wr.ownsRow w6.heap.size 56 3 vc (chgs (fun x => heldF x ps) (fun x => stand x s0 s2 s3 s4) (T.take k)).length ((chgs (fun x => heldF x ps) (fun x => stand x s0 s2 s3 s4) (T.take k)).flatMap encC) ∧ Below w6.heap.size w6 wr)
        (fun _ i _ => T.length - (intOf i).toNat)
      case atStart => exact ⟨0, Nat.zero_le _, rfl, World.ownsRow_nil _ _ _ _, Below.refl _ _⟩
      case round =>
        obtain ⟨k, hk, rfl, hrow, hbel⟩ := hrel
        have hsz := hbel.size
        by_cases hlt : k < T.length
        · obtain ⟨bT, oT, rfl, hbT, hcT⟩ := (hST.below hbel (Nat.le_refl _)).at hlt
          have hm7 := hm6.below hbel hm6.lt
          have hbox7 := hbox6.below hbel hbox6l
          have hs7 := (hs6.below hbel (by omega)).mono (show B ≤ wr.heap.size by omega)
          obtain ⟨x, hx⟩ : ∃ x, x = T[k] := ⟨_, rfl⟩
          rw [← hx] at hcT
          have HX : Hid (x = T[k]) := hx
          have hxl : x.length ≤ maxLen := by
            rw [hx]
            rcases (HTT.out.2 T[k]).1 (List.getElem_mem hlt) with h | h
            · exact hs.len _ h
            · obtain ⟨p, hp, e⟩ := List.mem_map.1 h
              rw [← e]
              exact HPL.out p hp
          clear hx
          have q0 := hbox7.cell (i := 0) (by simp)
          have q1 := hbox7.cell (i := 1) (by simp)
          have q2 := hbox7.cell (i := 2) (by simp)
          have q3 := hbox7.cell (i := 3) (by simp)
          have q4 := hbox7.cell (i := 4) (by simp)
          simp only [List.getElem_cons_zero, List.getElem_cons_succ] at q0 q1 q2 q3 q4
          have hlk1 := hm7.drew.look x hxl
          cases hne : (heldF x ps != stand x s0 s2 s3 s4)
          · have HE : Hid (heldF T[k] ps = stand T[k] s0 s2 s3 s4) := by rw [HX.out] at hne; simpa [Hid] using hne
            go_wp2_with fail
            go_region_with (go_at_call 35; refine ((hs7.below (Below.refl wr.heap.size wr).drew (Nat.le_refl _)).standing (by exact Nat.le_refl _) s1.length c2 c3 c4 x).mono ?_; rintro e w8 ⟨rfl, hb8⟩; have hlk8 := (hm7.drew.below hb8 hm7.drew.lt).look x hxl)
            all_goals go_wp2_with fail
            all_goals go_roundw
            all_goals first
              | exact ⟨k + 1, by omega, by go_num, by rw [chgs_same hlt HE.out]; exact kept_below hrow.drew ‹Below wr.drew.heap.size wr.drew _› (Nat.le_refl _), (hbel.drew).trans (Below.mono ‹Below wr.drew.heap.size wr.drew _› hsz)⟩
              | (simp [intOf]; omega)
          · have HE : Hid (heldF T[k] ps ≠ stand T[k] s0 s2 s3 s4) := by rw [HX.out] at hne; simpa [Hid] using hne
            have hcl := chgs_le (fun x => heldF x ps) (fun x => stand x s0 s2 s3 s4) (T.take k)
            rw [List.length_take] at hcl
            go_wp2_with fail
            go_region_with (go_at_call 35; refine ((hs7.below (Below.refl wr.heap.size wr).drew (Nat.le_refl _)).standing (by exact Nat.le_refl _) s1.length c2 c3 c4 x).mono ?_; rintro e w8 ⟨rfl, hb8⟩; have hlk8 := (hm7.drew.below hb8 hm7.drew.lt).look x hxl)
            all_goals
              have hb8 := ‹Below wr.drew.heap.size wr.drew _›
              have hrow8 := kept_below hrow.drew hb8 (Nat.le_refl _)
              have z8 := hb8.size
              have z8' : w6.heap.size ≤ _ := Nat.le_trans hsz z8
              go_wp2_with (at_builtin; refine wpList_append_own _ rfl (.tmp 49) (.tmp 54) 44 rfl w6.heap.size 56 i1 (.agg #[.string ByteArray.empty, .int .u8 0, .int .u8 0]) 3 24 Try.underlying44 hi1 hy0 hy1 hy2 rfl (by decide) _ _ _ rfl (hrow8.alloc _) ⟨_, 0, none⟩ 1 1 (encC (x, heldF x ps, stand x s0 s2 s3 s4)) rfl rfl (cell_three_new _ _ _ _ _) (encC_one _) (by unfold maxLen; omega) (by omega) (by simp; omega) ?_; intro v9 w9 hrow9 hg9 hnil9)
              go_roundw
              case rel =>
                refine ⟨k + 1, by omega, by go_num, ?_, ((hbel.drew.trans (hb8.mono hsz)).alloc z8' _).grown hg9 (by simp; omega) (fun k e => (hrow8.lt k e).1)⟩
                rw [chgs_diff hlt HE.out, ← HX.out, List.length_append, List.flatMap_append]
                simpa using hrow9
              case measure => simp [intOf]; omega
        · have e : Hid (T.take k = T) := List.take_of_length_le (by omega)
          go_wp2_with fail
          go_ret
          rw [e.out] at hrow
          exact ⟨⟨_, rfl, T, HTT.out.1, HTT.out.2, hTn, owns_base hrow (by omega)⟩, B6.trans (hbel.mono (by omega))⟩
    · intro x c kl yd yp w4 cnt4 hkey hlk hv hatx hrg4 hlt hg4 hs4 hen
      obtain ⟨x', ex, rfl, hxl⟩ := Maps.keyOf_str Try.underlying9 hkey
      obtain rfl : x = x' := encStr_inj ex
      have hrow4 := hrow.kept hg4 (Or.inr (row_ne_iter hrow hrg).symm)
      have hbox4 := hbox.kept hg4 (by simp; omega)
      have B4 : Below w.heap.size w w4 := hbel.grown hg4 hbel.size (fun k e => by cases e; omega)
      have hs4' := hs.below B4 hB
      have z4 := B4.size
      clear hs4
      have q0 := hbox4.cell (i := 0) (by simp)
      have q1 := hbox4.cell (i := 1) (by simp)
      have q2 := hbox4.cell (i := 2) (by simp)
      have q3 := hbox4.cell (i := 3) (by simp)
      have q4 := hbox4.cell (i := 4) (by simp)
      simp only [List.getElem_cons_zero, List.getElem_cons_succ] at q0 q1 q2 q3 q4
      go_wp2_with fail
      refine (hs4'.standing (Nat.le_trans hB z4) s1.length c2 c3 c4 x).mono ?_
      rintro e w5 ⟨rfl, hb5⟩
      have hrow5 := kept_below hrow4 hb5 (Nat.le_refl _)
      have hbox5 := hbox4.below hb5 hbox4.lt
      have hrg5 := ranges_below hrg4 hb5 (Nat.le_refl _)
      have B5 : Below w.heap.size w w5 := B4.trans (hb5.mono z4)
      have z5 := B5.size
      have z45 := hrg5.lt
      have HC : Hid (Collected D (fun z => left z && !z.sameKey (.string x)) (met ++ [x])) := hC.step hlk hatx
      have hsl := subj_le (s0 ++ s1) met (fun x => stand x s0 s2 s3 s4)
      rw [List.length_append] at hsl
      have HLE := hrg.left_eq
      have HL : Hid (wr.rangeLeft b w2.heap.size = cnt) := HLE
      clear HLE hC hlk hatx hv hkey q0 q1 q2 q3 q4 hbox4 hrow4 hrg4 hs4' B4 hbox hrow hbel hen ex hb5 hg4
      cases hst : (stand x s0 s2 s3 s4 == 0)
      · have hsj : Hid (subj (s0 ++ s1) (met ++ [x]) (fun x => stand x s0 s2 s3 s4) = subj (s0 ++ s1) met (fun x => stand x s0 s2 s3 s4)) := subj_snoc_no hst
        go_wp2_with fail
        go_roundw
        case rel => exact ⟨_, cnt4, met ++ [x], hrg5, by simp; omega, by rw [hsj.out]; exact hrow5, hbox5, HC.out, B5⟩
        case measure => rw [hrg5.left_eq, HL.out]; exact hlt
      · have hsj : Hid (subj (s0 ++ s1) (met ++ [x]) (fun x => stand x s0 s2 s3 s4) = subj (s0 ++ s1) met (fun x => stand x s0 s2 s3 s4) ++ [x]) := subj_snoc_yes hst
        go_wp2_with (at_builtin; refine wpList_append_own _ rfl (.tmp 28) (.tmp 30) 36 rfl (w.heap.size + 2) 9 i0 (.string ByteArray.empty) 1 16 Try.underlying36 hi0 hz0 hz1 hz2 rfl (by decide) _ _ _ rfl (hrow5.alloc _) ⟨w5.heap.size, 0, none⟩ 1 1 [encStr x] rfl rfl (cell_one_new _ _ _) (by simp [Value.oneCell', encStr]) (by unfold maxLen; omega) (by omega) (by simp; omega) ?_; intro v6 w6 hrow6 hg6 hnil6)
        have hrg6 := (hrg5.alloc (.cells #[encStr x] 9)).kept hg6 (row_ne_low (hrow5.alloc (.cells #[encStr x] 9)) (by omega)) (row_ne_iter (hrow5.alloc (.cells #[encStr x] 9)) (hrg5.alloc (.cells #[encStr x] 9)))
        go_roundw
        case rel =>
          refine ⟨_, cnt4, met ++ [x], hrg6, by simp; omega, ?_, ?_, HC.out, ?_⟩
          · rw [hsj.out, List.length_append, List.map_append]
            exact hrow6
          · exact (hbox5.kept (World.grownBy_alloc _ _ none) (by simp)).kept hg6 (row_ne_low (hrow5.alloc (.cells #[encStr x] 9)) (by omega))
          · exact (B5.alloc z5 _).grown hg6 (by simp; omega) (fun k e => by have := ((hrow5.alloc (.cells #[encStr x] 9)).lt k e).1; omega)
        case measure => rw [hrg6.left_eq, HL.out]; exact hlt
end Go.Proofs.Qxb6003793a
