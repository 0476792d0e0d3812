import Derived.Test.Qxb6003818aGrow
namespace Go.Proofs.Qxb6003818a
open Go.ChangeShapes Go.WideShapes Go.ChangeAt Go.RowKit
open Go.Sort (grow)
set_option linter.unusedVariables false
set_option linter.unusedSimpArgs false

/-- What disjoint leaves. -/
structure Disj (l : List KR) (m arr l' : List KR) : Prop where
  perm : l'.Perm l
  up : l'.Pairwise (fun a b => ¬ b.1 < a.1)
  hm : m = l'.foldl stepK []
  len : arr.length = l.length
  tk : arr.take m.length = m

set_option maxRecDepth 100000 in
set_option maxHeartbeats 8000000 in
theorem disjoint_any (g : Nat) (l : List KR) (w : World) (h : Blk w g 38 (l.flatMap encK)) (hn : l.length ≤ 1000) :
    Calls Try.prog 19 #[.slice (some ⟨g, 0, none⟩) l.length l.length] w fun e w' =>
      (∃ m arr l', Disj l m arr l' ∧ e = .returned (.slice (some ⟨g, 0, none⟩) m.length l.length) ∧ Blk w' g 38 (arr.flatMap encK)) ∧ Below g w w' := by
  obtain ⟨i0, hi0, hz0, hz1, hz2⟩ := info_parts info38
  have hgl := h.lt
  go_enter Try.func19, Try.ntmps19
  go_wp2_with (go_at_call 25; refine (sort_any g l.length l w h hn).mono ?_; rintro e w1 ⟨rfl, l', hperm, hup, hb1, hg1⟩)
  have HLL : Hid (l'.length = l.length) := hperm.length_eq
  have HP := show Hid _ from hperm
  have HU := show Hid _ from hup
  have B1 : Below g w w1 := (Below.refl _ _).grown hg1 (Nat.le_of_lt hgl) (fun k e => by cases e; exact Nat.le_refl _)
  clear hperm hup hg1 h
  go_loopw [3, 13] (fun v i wr => ∃ (k : Nat) (m arr : List KR), k ≤ l.length ∧ i = .int .i64 k ∧ v = .slice (some ⟨g, 0, none⟩) m.length l.length ∧ Arr l' k m arr ∧ Blk wr g 38 (arr.flatMap encK) ∧ Below g w wr) (fun _ i _ => l.length - (intOf i).toNat)
  case atStart => exact ⟨0, [], l', Nat.zero_le _, rfl, rfl, Arr.start l', hb1, B1⟩
  case round =>
    clear hb1 B1
    obtain ⟨k, m, arr, hk, rfl, rfl, harr, hbk, hbel⟩ := hrel
    have HA := show Hid _ from harr
    have hml : m.length ≤ k := harr.le
    have hgr := hbk.lt
    have hsz := hbel.size
    by_cases hlt : k < l.length
    · have hlt' : k < l'.length := by rw [HLL.out]; exact hlt
      have hka : k < arr.length := by rw [harr.len]; exact hlt'
      have hma : m.length < arr.length := by omega
      obtain ⟨c0, c1, c2, c3⟩ := blk_k hbk hka
      rw [harr.cur hlt'] at c0 c1 c2 c3
      obtain ⟨r, hr⟩ : ∃ r, r = l'[k] := ⟨_, rfl⟩
      rw [← hr] at c0 c1 c2 c3
      have HR : Hid (r = l'[k]) := hr
      clear hr harr
      obtain ⟨rs, re, rt, ro⟩ := r
      simp only at c0 c1 c2 c3
      by_cases hm0 : m = []
      · subst hm0
        have HS : Hid (stepK [] l'[k] = [] ++ [l'[k]]) := rfl
        have hbox : Blk (wr.alloc (.cells #[.string ⟨rs.toArray⟩, .string ⟨re.toArray⟩, .bool rt, .bool ro] 38)) wr.heap.size 38 (encK (rs, re, rt, ro)) := newest _ _
        have hbkW := hbk.below (b1 wr (.cells #[.string ⟨rs.toArray⟩, .string ⟨re.toArray⟩, .bool rt, .bool ro] 38)) hgr
        have hbelW := hbel.alloc (Nat.le_of_lt hgr) (.cells #[.string ⟨rs.toArray⟩, .string ⟨re.toArray⟩, .bool rt, .bool ro] 38)
        simp only [List.length_nil] at *
        go_wp2_with fail
        generalize wr.heap.size = bx at *
        clear hbk hbel c0 c1 c2 c3
        generalize (wr.alloc (.cells #[.string ⟨rs.toArray⟩, .string ⟨re.toArray⟩, .bool rt, .bool ro] 38)) = W at *
        go_quiet (fail)
        have hbk2 := hbkW.drewN nq
        have hbox2 := hbox.drewN nq
        have hbel2 := below_drewN hbelW nq
        generalize W.drewN nq = w2 at *
        obtain ⟨q0, q1, q2, q3, -, -, -, -⟩ := hbox2.four
        simp only at q0 q1 q2 q3
        have hbk3 := hbk2.below (b1 w2 (.cells #[.string ⟨rs.toArray⟩, .string ⟨re.toArray⟩, .bool rt, .bool ro] 38)) hbk2.lt
        go_wp2_with (at_builtin; refine wpList_append_cells _ rfl (.tmp 30) (.tmp 32) 43 rfl 38 i0 4 Try.underlying43 hi0 hz1 g 0 0 l.length rfl ⟨w2.heap.size, 0, none⟩ 1 1 (encK (rs, re, rt, ro)) rfl rfl (four_new w2 (rs, re, rt, ro) 38) (encK_one _) (by omega) (spare4 hbk3 hma _) ?_)
        go_roundw
        case rel =>
          refine ⟨k + 1, [] ++ [l'[k]], arr.set 0 l'[k], by omega, by go_num, rfl, HA.out.push hlt' HS.out, ?_, below_setCells (hbel2.alloc (Nat.le_of_lt hbk2.lt) _) (Nat.le_refl _) _ _⟩
          rw [← HR.out]
          exact blk_setCells' hbk3 hma _
        case measure => simp [intOf]; omega
      · have hmp : 0 < m.length := by cases m with | nil => exact absurd rfl hm0 | cons a b => simp
        clear hm0
        have hpa : m.length - 1 < arr.length := by omega
        have HLAST : Hid (m.getLast? = some arr[m.length - 1]) := HA.out.last hlt' hmp
        generalize hN : m.length = N at *
        have HN := show Hid _ from hN
        clear hN
        obtain ⟨q, rfl⟩ : ∃ q, N = q + 1 := ⟨N - 1, by omega⟩
        simp only [Nat.add_sub_cancel] at HLAST hpa
        obtain ⟨p, hp⟩ : ∃ p, p = arr[q] := ⟨_, rfl⟩
        rw [← hp] at HLAST
        have HPP : Hid (p = arr[q]) := hp
        clear hp
        obtain ⟨ps, pe, pt, po⟩ := p
        have hq0 : ((q : Int) + 1 == 0) = false := by rw [beq_eq_false_iff_ne]; omega
        have hwr : IntKind.i64.wrap (q : Int) = q := by simp [IntKind.wrap, IntKind.bits, IntKind.signed]; omega
        have hqi : (q : Int) < (q : Int) + 1 := by omega
        have hqi2 : ((q + 1 : Nat) : Int) = (q : Int) + 1 := by omega
        go_wp2_with fail
        have hbox : Blk (wr.alloc (.cells #[.string ⟨rs.toArray⟩, .string ⟨re.toArray⟩, .bool rt, .bool ro] 38)) wr.heap.size 38 (encK (rs, re, rt, ro)) := newest _ _
        have hbkW := hbk.below (b1 wr (.cells #[.string ⟨rs.toArray⟩, .string ⟨re.toArray⟩, .bool rt, .bool ro] 38)) hgr
        have hbelW := hbel.alloc (Nat.le_of_lt hgr) (.cells #[.string ⟨rs.toArray⟩, .string ⟨re.toArray⟩, .bool rt, .bool ro] 38)
        generalize wr.heap.size = bx at *
        clear hbk hbel c0 c1 c2 c3
        generalize (wr.alloc (.cells #[.string ⟨rs.toArray⟩, .string ⟨re.toArray⟩, .bool rt, .bool ro] 38)) = W at *
        obtain ⟨q0, q1, q2, q3, -, -, -, -⟩ := hbox.four
        simp only at q0 q1 q2 q3
        obtain ⟨d0, d1, d2, d3⟩ := blk_k hbkW hpa
        rw [← HPP.out] at d0 d1 d2 d3
        simp only at d0 d1 d2 d3
        have X28 := fun w => startsPast_grow rs re rt ro ps pe pt po w
        have q0' := fun n os => cell_grown (w := W) (a := ⟨bx, 0, none⟩) hbox.lt q0 n os
        have q1' := fun n os => cell_grown (w := W) (a := ⟨bx, 1, none⟩) hbox.lt q1 n os
        have q2' := fun n os => cell_grown (w := W) (a := ⟨bx, 2, none⟩) hbox.lt q2 n os
        have q3' := fun n os => cell_grown (w := W) (a := ⟨bx, 3, none⟩) hbox.lt q3 n os
        have d0' := fun n os => cell_grown (w := W) (a := ⟨g, q * 4, none⟩) hbkW.lt d0 n os
        have d1' := fun n os => cell_grown (w := W) (a := ⟨g, q * 4 + 1, none⟩) hbkW.lt d1 n os
        have d2' := fun n os => cell_grown (w := W) (a := ⟨g, q * 4 + 2, none⟩) hbkW.lt d2 n os
        have d3' := fun n os => cell_grown (w := W) (a := ⟨g, q * 4 + 3, none⟩) hbkW.lt d3 n os
        clear q0 q1 q2 q3 d0 d1 d2 d3
        cases hsp : startsPastK rs pe po
        · rw [hsp] at X28
          have HS : Hid (stepK m l'[k] = m.dropLast ++ [joinK (ps, pe, pt, po) (rs, re, rt, ro)]) := by
            unfold Hid
            rw [← HR.out]
            exact stepK_join HLAST.out hsp
          refine wp_region_quiet_grown (by kernel_rfl) (by kernel_rfl) ?_
          repeat (go_big_quiet_step (first | (go_at_call 28; refine Calls.grown_of (X28 _))))
          refine wpQuiet_nil ?_
          intro _ hw'
          obtain ⟨gp, hw''⟩ := hw'
          subst hw''
          have hb2 := below_grow W gp.n gp.os
          generalize grow (W.drewN gp.n) gp.os = w2 at *
          have hbk2 := hbkW.below hb2 hbkW.lt
          have hbox2 := hbox.below hb2 hbox.lt
          have hbel2 := hbelW.trans (hb2.mono (Nat.le_of_lt hbkW.lt))
          clear hb2 hbox hbkW hbelW q0' q1' q2' q3' d0' d1' d2' d3'
          have X29 := joined_any ps pe pt po rs re rt ro w2.drew
          unfold joinV at X29
          have HJ : Hid (joinK (ps, pe, pt, po) (rs, re, rt, ro) = (ps, joinE pe pt po re rt ro)) := rfl
          generalize joinE pe pt po re rt ro = J at X29 HJ
          obtain ⟨je, jt, jo⟩ := J
          simp only at X29
          obtain ⟨q0, q1, q2, q3, -, -, -, -⟩ := hbox2.four
          simp only at q0 q1 q2 q3
          obtain ⟨d0, d1, d2, d3⟩ := blk_k hbk2 hpa
          rw [← HPP.out] at d0 d1 d2 d3
          simp only at d0 d1 d2 d3
          have hbelR := hbel2.drew
          go_wp2_with fail
          go_region_with (go_at_call 29; refine X29.mono ?_; rintro e3 w3 ⟨rfl, hb3⟩; have hbk3 := hbk2.drew.below hb3 hbk2.lt; obtain ⟨z0, z1, z2, z3⟩ := blk_k hbk3 hpa; have f0 := hbk3.free (q * 4); have f1 := hbk3.free (q * 4 + 1); have f2 := hbk3.free (q * 4 + 2); have f3 := hbk3.free (q * 4 + 3))
          all_goals go_wp2_with fail
          all_goals go_roundw
          case rel =>
            refine ⟨k + 1, m.dropLast ++ [joinK (ps, pe, pt, po) (rs, re, rt, ro)], arr.set q (joinK (ps, pe, pt, po) (rs, re, rt, ro)), by omega, by go_num, by rw [List.length_append, List.length_dropLast, HN.out]; rfl, ?_, ?_, ?_⟩
            · have := HA.out.join hlt' (by rw [HN.out]; omega) _ HS.out
              rwa [HN.out] at this
            · rw [HJ.out]; exact blk_set4 hbk3 hpa (ps, je, jt, jo)
            · exact ((((hbelR.trans (hb3.mono (Nat.le_of_lt hbk2.lt))).setCell (Nat.le_refl _) _).setCell (Nat.le_refl _) _).setCell (Nat.le_refl _) _).setCell (Nat.le_refl _) _
          case measure => simp [intOf]; omega
          case rel =>
            refine ⟨k + 1, m.dropLast ++ [joinK (ps, pe, pt, po) (rs, re, rt, ro)], arr.set q (joinK (ps, pe, pt, po) (rs, re, rt, ro)), by omega, by go_num, by rw [List.length_append, List.length_dropLast, HN.out]; rfl, ?_, ?_, ?_⟩
            · have := HA.out.join hlt' (by rw [HN.out]; omega) _ HS.out
              rwa [HN.out] at this
            · rw [HJ.out]; exact blk_set4 hbk3 hpa (ps, je, jt, jo)
            · exact ((((hbelR.trans (hb3.mono (Nat.le_of_lt hbk2.lt))).setCell (Nat.le_refl _) _).setCell (Nat.le_refl _) _).setCell (Nat.le_refl _) _).setCell (Nat.le_refl _) _
          case measure => simp [intOf]; omega
        · rw [hsp] at X28
          have HS : Hid (stepK m l'[k] = m ++ [l'[k]]) := by
            unfold Hid
            rw [← HR.out]
            exact stepK_past HLAST.out hsp
          refine wp_region_quiet_grown (by kernel_rfl) (by kernel_rfl) ?_
          repeat (go_big_quiet_step (first | (go_at_call 28; refine Calls.grown_of (X28 _))))
          refine wpQuiet_nil ?_
          intro _ hw'
          obtain ⟨gp, hw''⟩ := hw'
          subst hw''
          have hb2 := below_grow W gp.n gp.os
          generalize grow (W.drewN gp.n) gp.os = w2 at *
          have hbk2 := hbkW.below hb2 hbkW.lt
          have hbox2 := hbox.below hb2 hbox.lt
          have hbel2 := hbelW.trans (hb2.mono (Nat.le_of_lt hbkW.lt))
          clear hb2 hbox hbkW hbelW q0' q1' q2' q3' d0' d1' d2' d3'
          obtain ⟨q0, q1, q2, q3, -, -, -, -⟩ := hbox2.four
          simp only at q0 q1 q2 q3
          have hbk3 := hbk2.below (b1 w2 (.cells #[.string ⟨rs.toArray⟩, .string ⟨re.toArray⟩, .bool rt, .bool ro] 38)) hbk2.lt
          go_wp2_with (at_builtin; refine wpList_append_cells _ rfl (.tmp 30) (.tmp 32) 43 rfl 38 i0 4 Try.underlying43 hi0 hz1 g 0 (q + 1) l.length rfl ⟨w2.heap.size, 0, none⟩ 1 1 (encK (rs, re, rt, ro)) rfl rfl (four_new w2 (rs, re, rt, ro) 38) (encK_one _) (by omega) (spare4 hbk3 hma _) ?_)
          go_roundw
          case rel =>
            refine ⟨k + 1, m ++ [l'[k]], arr.set m.length l'[k], by omega, by go_num, by rw [List.length_append, HN.out]; rfl, HA.out.push hlt' HS.out, ?_, below_setCells (hbel2.alloc (Nat.le_of_lt hbk2.lt) _) (Nat.le_refl _) _ _⟩
            rw [HN.out, ← HR.out]
            exact blk_setCells' hbk3 hma _
          case measure => simp [intOf]; omega
    · go_wp2_with fail
      go_ret
      have hkl : k = l.length := by omega
      refine ⟨⟨m, arr, l', ⟨HP.out, HU.out, ?_, by rw [HA.out.len, HLL.out], HA.out.tk⟩, rfl, hbk⟩, hbel⟩
      have := HA.out.hm
      rwa [List.take_of_length_le (by rw [HLL.out]; omega)] at this
end Go.Proofs.Qxb6003818a
