import Derived.Test.Qxb6003818aLaw
import Derived.BigRegion
namespace Go.Proofs.Qxb6003818a
open Go.ChangeShapes Go.WideShapes Go.ChangeAt Go.RowKit
set_option linter.unusedVariables false
set_option linter.unusedSimpArgs false

set_option maxRecDepth 100000 in
set_option maxHeartbeats 16000000 in
theorem lawT (s e : Str) (eo d st : Bool) (la : Str) (ao : Option Addr) (c : Nat) (ot : List KR) (pr : Str) (w : World) (hO : Row w w.heap.size ao (ot.flatMap encK)) (hle : ot.length ≤ 9223372036854775807) :
    Calls Try.prog 3 #[.string ⟨s.toArray⟩, .string ⟨e.toArray⟩, .bool eo, .bool d, .bool st, .string ⟨la.toArray⟩, .slice ao ot.length c, .string ⟨pr.toArray⟩] w fun en w' => en = .returned (.bool true) ∧ Below w.heap.size w w' := by
  by_cases l1 : 65536 < s.length
  · go_enter Try.func3, Try.ntmps3
    go_wp2_with fail
    go_ret
    exact ⟨rfl, Below.refl _ _⟩
  by_cases l2 : 65536 < e.length
  · go_enter Try.func3, Try.ntmps3
    go_wp2_with fail
    go_ret
    exact ⟨rfl, Below.refl _ _⟩
  by_cases l3 : 65536 < la.length
  · go_enter Try.func3, Try.ntmps3
    go_wp2_with fail
    go_ret
    exact ⟨rfl, Below.refl _ _⟩
  by_cases l4 : 65536 < pr.length
  · go_enter Try.func3, Try.ntmps3
    go_wp2_with fail
    go_ret
    exact ⟨rfl, Below.refl _ _⟩
  by_cases l5 : 64 < ot.length
  · go_enter Try.func3, Try.ntmps3
    go_wp2_with fail
    go_ret
    exact ⟨rfl, Below.refl _ _⟩
  have hn : ot.length ≤ 64 := by omega
  go_enter Try.func3, Try.ntmps3
  go_wp2_with fail
  go_loop [17] (fun i => ∃ k : Nat, k ≤ ot.length ∧ i = .int .i64 k) (fun i => ot.length - (intOf i).toNat)
  case atStart => exact ⟨0, Nat.zero_le _, rfl⟩
  case round =>
    obtain ⟨k, hk, rfl⟩ := hrel
    by_cases hlt : k < ot.length
    · obtain ⟨b, o, hao, hb, _⟩ := hO 0 (by rw [flat_len]; omega)
      subst hao
      obtain ⟨c0, c1, c2, c3⟩ := row_k hO hlt
      by_cases g1 : 65536 < ot[k].1.length
      · go_wp2_with fail
        go_ret
        exact ⟨rfl, Below.refl _ _⟩
      · by_cases g2 : 65536 < ot[k].2.1.length
        · go_wp2_with fail
          go_ret
          exact ⟨rfl, Below.refl _ _⟩
        · go_wp2_with fail
          go_round
          case rel => exact ⟨k + 1, by omega, by go_num⟩
          case measure => simp [intOf]; omega
    · cases st
      · go_wp2_with fail
        have hcov := second (w := w) (boxK s e false eo 24) (encK (s, e, false, eo)) 24
        have BW := b2 w (boxK s e false eo 24) (boxK s e false eo 24)
        unfold boxK encK at hcov
        unfold boxK at BW
        generalize w.heap.size + 1 = cb at *
        generalize ((w.alloc (.cells #[.string ⟨s.toArray⟩, .string ⟨e.toArray⟩, .bool false, .bool eo] 24)).alloc (.cells #[.string ⟨s.toArray⟩, .string ⟨e.toArray⟩, .bool false, .bool eo] 24)) = W at *
        have hcov : Blk W cb 24 (encK (s, e, false, eo)) := hcov
        have HCL : Hid ((!bl pr s && holdsK e false eo pr) = coversK s e eo d false la pr) := cover_law s e eo d false la pr
        have X8 := zzcontains_any s e false eo pr W
        rw [HCL.out] at X8
        refine X8.mono ?_
        clear X8
        rintro en w1 ⟨rfl, h1⟩
        have hcov1 := hcov.below h1 hcov.lt
        have B1 := BW.trans (h1.mono BW.size)
        clear h1 hcov BW
        go_wp2_with fail
        refine (covers_any s e eo d false la pr w1).mono ?_
        rintro en w2 ⟨rfl, rfl⟩
        obtain ⟨i0, hi0, hz0, hz1, hz2⟩ := info_parts info24
        go_wp2_with (at_make; refine wpList_make_own _ rfl _ _ 22 rfl w.heap.size 24 i0 (.agg #[.string ByteArray.empty, .string ByteArray.empty, .bool false, .bool false]) 4 Try.underlying22 hi0 hz0 hz1 _ _ _ (ot.length + 1) rfl rfl (by first | rfl | omega) (by rw [hz2]; omega) (by unfold maxLen; omega) B1.size ?_; intro w3 hown hgrow)
        obtain ⟨cur, hb3, hl3⟩ : ∃ cur, Blk w3 w2.heap.size 24 cur ∧ cur.length = (ot.length + 1) * 4 := by
          rcases hown.2 with ⟨h0, _⟩ | ⟨g', cap', cur, hv, hb, hh, q1, q2, q3, q4⟩
          · cases h0
          · cases hv
            exact ⟨cur.toList, by unfold Blk; rw [hh], by simpa using q3⟩
        have hcov3 := hcov1.kept hgrow (by simp)
        have hcg := hcov1.lt
        have B3 := B1.grown hgrow B1.size (fun k h => by cases h)
        have z1 := B1.size
        clear hown hgrow hcov1
        have hcl := hcov3.lt
        generalize hgR : w2.heap.size = gR at *
        go_loopw [20, 21] (fun v i wr => ∃ (k : Nat) (cur : List Value), i = .int .i64 k ∧ v = .slice (some ⟨gR, 0, none⟩) k (ot.length + 1 : Nat) ∧ Fill ot (ot.length + 1) k cur ∧ Blk wr gR 24 cur ∧ Blk wr cb 24 (encK (s, e, false, eo)) ∧ Below w.heap.size w wr) (fun _ i _ => ot.length - (intOf i).toNat)
        case atStart => exact ⟨0, cur, rfl, rfl, ⟨hl3, Nat.zero_le _, by simp⟩, hb3, hcov3, B3⟩
        case round =>
          clear hb3 hl3 hcov3 B3
          obtain ⟨k, cur, rfl, rfl, hf, hbk, hcov, hbel⟩ := hrel
          have hk := hf.le
          have HF := show Hid _ from hf
          have hcl := hf.len
          clear hf
          have hgl := hbk.lt
          by_cases hlt : k < ot.length
          · obtain ⟨b, o, hao, hb, _⟩ := hO 0 (by rw [flat_len]; omega)
            subst hao
            obtain ⟨c0, c1, c2, c3⟩ := row_k (hO.below hbel (Nat.le_refl _)) hlt
            obtain ⟨r, hr⟩ : ∃ r, r = ot[k] := ⟨_, rfl⟩
            rw [← hr] at c0 c1 c2 c3
            have HR : Hid (r = ot[k]) := hr
            clear hr
            obtain ⟨rs, re, rt, ro⟩ := r
            simp only at c0 c1 c2 c3
            have hki : (k : Int) < (ot.length : Int) := by omega
            obtain ⟨v0, x0⟩ : ∃ v, wr.cell? ⟨gR, k * 4, none⟩ = some v := ⟨_, hbk.cell (by omega)⟩
            obtain ⟨v1, x1⟩ : ∃ v, wr.cell? ⟨gR, k * 4 + 1, none⟩ = some v := ⟨_, hbk.cell (by omega)⟩
            obtain ⟨v2, x2⟩ : ∃ v, wr.cell? ⟨gR, k * 4 + 2, none⟩ = some v := ⟨_, hbk.cell (by omega)⟩
            obtain ⟨v3, x3⟩ : ∃ v, wr.cell? ⟨gR, k * 4 + 3, none⟩ = some v := ⟨_, hbk.cell (by omega)⟩
            have f0 := hbk.free (k * 4)
            have f1 := hbk.free (k * 4 + 1)
            have f2 := hbk.free (k * 4 + 2)
            have f3 := hbk.free (k * 4 + 3)
            have hki2 : (k : Int) + 1 ≤ (ot.length : Int) + 1 := by omega
            have hki3 : k + 1 ≤ ot.length + 1 := by omega
            have hne1 : gR ≠ wr.heap.size := by omega
            have hne2 : wr.heap.size ≠ gR := by omega
            have hcgn : cb ≠ gR := by omega
            go_wp2_with fail
            go_region
            go_wp2_with fail
            go_roundw
            case rel =>
              refine ⟨k + 1, upd4 cur (k * 4) ot[k], by go_num, rfl, HF.out.push hlt (by omega), ?_, ?_, ?_⟩
              · rw [← HR.out]
                exact (Blk.below ((((hbk.set _ _).set _ _).set _ _).set _ _) (b1 _ _) (by simpa [World.setCell] using hgl)).drew
              · exact (Blk.below ((((hcov.other hcgn _ _).other hcgn _ _).other hcgn _ _).other hcgn _ _) (b1 _ _) (by simpa [World.setCell] using hcov.lt)).drew
              · exact (((((hbel.setCell z1 _).setCell z1 _).setCell z1 _).setCell z1 _).alloc (by simpa [World.setCell] using hbel.size) _).drew
            case measure => simp [intOf]; omega
          · obtain rfl : k = ot.length := by omega
            obtain ⟨v0, x0⟩ : ∃ v, wr.cell? ⟨gR, ot.length * 4, none⟩ = some v := ⟨_, hbk.cell (by omega)⟩
            obtain ⟨v1, x1⟩ : ∃ v, wr.cell? ⟨gR, ot.length * 4 + 1, none⟩ = some v := ⟨_, hbk.cell (by omega)⟩
            obtain ⟨v2, x2⟩ : ∃ v, wr.cell? ⟨gR, ot.length * 4 + 2, none⟩ = some v := ⟨_, hbk.cell (by omega)⟩
            obtain ⟨v3, x3⟩ : ∃ v, wr.cell? ⟨gR, ot.length * 4 + 3, none⟩ = some v := ⟨_, hbk.cell (by omega)⟩
            have f0 := hbk.free (ot.length * 4)
            have f1 := hbk.free (ot.length * 4 + 1)
            have f2 := hbk.free (ot.length * 4 + 2)
            have f3 := hbk.free (ot.length * 4 + 3)
            have hne1 : gR ≠ wr.heap.size := by omega
            have hne2 : wr.heap.size ≠ gR := by omega
            obtain ⟨y0, y1, y2, y3, -, -, -, -⟩ := hcov.four
            simp only at y0 y1 y2 y3
            go_wp2_with fail
            have hR0 : Blk ((((wr.setCell ⟨gR, ot.length * 4, none⟩ (.string ⟨s.toArray⟩)).setCell ⟨gR, ot.length * 4 + 1, none⟩ (.string ⟨e.toArray⟩)).setCell ⟨gR, ot.length * 4 + 2, none⟩ (.bool false)).setCell ⟨gR, ot.length * 4 + 3, none⟩ (.bool eo)) gR 24 ((ot ++ [(s, e, false, eo)]).flatMap encK) := by
              rw [← HF.out.close (s, e, false, eo)]
              exact (((hbk.set _ _).set _ _).set _ _).set _ _
            have hR := hR0.below (b1 _ (.cells #[.string ⟨s.toArray⟩, .string ⟨e.toArray⟩, .bool false, .bool eo] 24)) hR0.lt
            have B4 := ((((hbel.setCell (p := ⟨gR, ot.length * 4, none⟩) z1 (.string ⟨s.toArray⟩)).setCell (p := ⟨gR, ot.length * 4 + 1, none⟩) z1 (.string ⟨e.toArray⟩)).setCell (p := ⟨gR, ot.length * 4 + 2, none⟩) z1 (.bool false)).setCell (p := ⟨gR, ot.length * 4 + 3, none⟩) z1 (.bool eo)).alloc (by simpa [World.setCell] using hbel.size) (.cells #[.string ⟨s.toArray⟩, .string ⟨e.toArray⟩, .bool false, .bool eo] 24)
            clear hR0 x0 x1 x2 x3 f0 f1 f2 f3 y0 y1 y2 y3 hbk hcov
            generalize (((((wr.setCell ⟨gR, ot.length * 4, none⟩ (.string ⟨s.toArray⟩)).setCell ⟨gR, ot.length * 4 + 1, none⟩ (.string ⟨e.toArray⟩)).setCell ⟨gR, ot.length * 4 + 2, none⟩ (.bool false)).setCell ⟨gR, ot.length * 4 + 3, none⟩ (.bool eo)).alloc (.cells #[.string ⟨s.toArray⟩, .string ⟨e.toArray⟩, .bool false, .bool eo] 24)) = w4 at *
            clear hbel
            obtain ⟨R, hRd⟩ : ∃ R, R = ot ++ [(s, e, false, eo)] := ⟨_, rfl⟩
            rw [← hRd] at hR
            have hRl : R.length = ot.length + 1 := by rw [hRd]; simp
            have HRL := show Hid _ from hRl
            clear hRd
            have z4 := B4.size
            have hgl4 := hR.lt
            go_loopw [22, 23] (fun v i wr => ∃ k : Nat, k ≤ ot.length + 1 ∧ i = .int .i64 k ∧ v = .bool (anyHas (R.take k) pr) ∧ Below w4.heap.size w4 wr) (fun _ i _ => ot.length + 1 - (intOf i).toNat)
            case atStart => exact ⟨0, Nat.zero_le _, rfl, rfl, Below.refl _ _⟩
            case round =>
              clear hRl
              obtain ⟨k, hk, rfl, rfl, hbel⟩ := hrel
              by_cases hlt : k < ot.length + 1
              · have hkR : k < R.length := by rw [HRL.out]; exact hlt
                obtain ⟨c0, c1, c2, c3⟩ := blk_k (hR.below hbel hgl4) hkR
                obtain ⟨r, hr⟩ : ∃ r, r = R[k] := ⟨_, rfl⟩
                rw [← hr] at c0 c1 c2 c3
                have HA := show Hid _ from any_take hkR pr
                rw [← hr] at HA
                clear hr
                obtain ⟨rs, re, rt, ro⟩ := r
                simp only at c0 c1 c2 c3
                have X10 := fun w => has_any rs re rt ro pr w
                have hki : (k : Int) < (ot.length : Int) + 1 := by omega
                cases hh : hasK rs re rt ro pr
                · rw [hh] at X10
                  go_wp2_with (go_at_call 10; refine (X10 _).mono ?_; rintro en w6 ⟨rfl, h6⟩)
                  go_roundw
                  case rel => exact ⟨k + 1, by omega, by go_num, by rw [HA.out]; simp [hasR, hh], hbel.trans (h6.mono hbel.size)⟩
                  case measure => simp [intOf]; omega
                · rw [hh] at X10
                  go_wp2_with (go_at_call 10; refine (X10 _).mono ?_; rintro en w6 ⟨rfl, h6⟩)
                  go_roundw
                  case rel => exact ⟨k + 1, by omega, by go_num, by rw [HA.out]; simp [hasR, hh], hbel.trans (h6.mono hbel.size)⟩
                  case measure => simp [intOf]; omega
              · obtain rfl : k = ot.length + 1 := by omega
                have eR : R.take (ot.length + 1) = R := List.take_of_length_le (by rw [HRL.out]; omega)
                rw [eR]
                have X11 := zzdisjoint_any gR 0 (ot.length + 1) R w4.heap.size wr ((hR.row).below hbel (Nat.le_refl _)) hbel.size (by rw [HRL.out]; omega)
                rw [HRL.out] at X11
                clear eR
                generalize hb0 : anyHas R pr = b0
                have HB0 := show Hid _ from hb0
                clear hb0
                go_wp2_with fail
                refine X11.mono ?_
                rintro en w7 ⟨⟨gm, m, rfl, hm, hsep, hany, hml⟩, h7⟩
                have B7 : Below w.heap.size w w7 := (B4.trans (hbel.mono z4)).trans (h7.mono (Nat.le_trans z4 hbel.size))
                have HSEP := show Hid _ from hsep
                have HANY : Hid (anyHas m pr = b0) := by unfold Hid; rw [hany pr]; exact HB0.out
                clear X11 hsep hany h7 hbel hR
                have hgm := hm.lt
                go_wp2_with fail
                go_loopw [25, 26] (fun v i wr => ∃ k : Nat, k ≤ m.length ∧ i = .int .i64 k ∧ v = .bool (anyHas (m.take k) pr) ∧ Below w7.heap.size w7 wr) (fun _ i _ => m.length - (intOf i).toNat)
                case atStart => exact ⟨0, Nat.zero_le _, rfl, rfl, Below.refl _ _⟩
                case round =>
                  obtain ⟨k, hk, rfl, rfl, hbel⟩ := hrel
                  by_cases hlt : k < m.length
                  · obtain ⟨c0, c1, c2, c3⟩ := blk_k (hm.below hbel hgm) hlt
                    obtain ⟨r, hr⟩ : ∃ r, r = m[k] := ⟨_, rfl⟩
                    rw [← hr] at c0 c1 c2 c3
                    have HA := show Hid _ from any_take hlt pr
                    rw [← hr] at HA
                    have HRR : Hid (r = m[k]) := hr
                    clear hr
                    obtain ⟨rs, re, rt, ro⟩ := r
                    simp only at c0 c1 c2 c3
                    have X10 := fun w => has_any rs re rt ro pr w
                    have hki : (k : Int) < (m.length : Int) := by omega
                    by_cases hk0 : 0 < k
                    · obtain ⟨j, rfl⟩ : ∃ j, k = j + 1 := ⟨k - 1, by omega⟩
                      have hj : j < m.length := by omega
                      have hsp := HSEP.out j hlt
                      rw [← HRR.out] at hsp
                      obtain ⟨p, hp⟩ : ∃ p, p = m[j] := ⟨_, rfl⟩
                      rw [← hp] at hsp
                      have HPP : Hid (p = m[j]) := hp
                      clear hp
                      obtain ⟨ps, pe, pt, po⟩ := p
                      simp only at hsp
                      obtain ⟨rfl, hs1, hs2⟩ := sep_facts hsp
                      clear hsp
                      have hjd : decide ((0 : Int) < ((j + 1 : Nat) : Int)) = true := decide_eq_true (by omega)
                      have hji' : ((j + 1 : Nat) : Int) - 1 < (m.length : Int) := by omega
                      clear c0 c1 c2 c3
                      have hcA := blk_k (hm.below hbel hgm) hlt
                      rw [← HRR.out] at hcA
                      obtain ⟨c0, c1, c2, c3⟩ := hcA
                      simp only at c0 c1 c2 c3
                      cases hh : hasK rs re rt ro pr
                      · rw [hh] at X10
                        go_wp2_with (go_at_call 10; refine (X10 _).mono ?_; rintro en w6 ⟨rfl, h6⟩; have hbel6 := hbel.trans (h6.mono hbel.size); obtain ⟨e0, e1, e2, e3⟩ := blk_k (hm.below hbel6 hgm) hlt; rw [← HRR.out] at e0 e1 e2 e3; simp only at e0 e1 e2 e3; obtain ⟨d0, d1, d2, d3⟩ := blk_k (hm.below hbel6 hgm) hj; rw [← HPP.out] at d0 d1 d2 d3; simp only at d0 d1 d2 d3)
                        go_quiet (fail)
                        go_wp2_with fail
                        go_roundw
                        case rel => exact ⟨j + 1 + 1, by omega, by go_num, by rw [HA.out]; simp [hasR, hh], below_drewN hbel6 _⟩
                        case measure => simp [intOf]; omega
                      · rw [hh] at X10
                        go_wp2_with (go_at_call 10; refine (X10 _).mono ?_; rintro en w6 ⟨rfl, h6⟩; have hbel6 := hbel.trans (h6.mono hbel.size); obtain ⟨e0, e1, e2, e3⟩ := blk_k (hm.below hbel6 hgm) hlt; rw [← HRR.out] at e0 e1 e2 e3; simp only at e0 e1 e2 e3; obtain ⟨d0, d1, d2, d3⟩ := blk_k (hm.below hbel6 hgm) hj; rw [← HPP.out] at d0 d1 d2 d3; simp only at d0 d1 d2 d3)
                        go_quiet (fail)
                        go_wp2_with fail
                        go_roundw
                        case rel => exact ⟨j + 1 + 1, by omega, by go_num, by rw [HA.out]; simp [hasR, hh], below_drewN hbel6 _⟩
                        case measure => simp [intOf]; omega
                    · obtain rfl : k = 0 := by omega
                      have hjd : decide ((0 : Int) < ((0 : Nat) : Int)) = false := decide_eq_false (by omega)
                      cases hh : hasK rs re rt ro pr
                      · rw [hh] at X10
                        go_wp2_with (go_at_call 10; refine (X10 _).mono ?_; rintro en w6 ⟨rfl, h6⟩; have hbel6 := hbel.trans (h6.mono hbel.size); obtain ⟨e0, e1, e2, e3⟩ := blk_k (hm.below hbel6 hgm) hlt; rw [← HRR.out] at e0 e1 e2 e3; simp only at e0 e1 e2 e3)
                        go_quiet (fail)
                        go_wp2_with fail
                        go_roundw
                        case rel => exact ⟨0 + 1, by omega, by go_num, by rw [HA.out]; simp [hasR, hh], below_drewN hbel6 _⟩
                        case measure => simp [intOf]; omega
                      · rw [hh] at X10
                        go_wp2_with (go_at_call 10; refine (X10 _).mono ?_; rintro en w6 ⟨rfl, h6⟩; have hbel6 := hbel.trans (h6.mono hbel.size); obtain ⟨e0, e1, e2, e3⟩ := blk_k (hm.below hbel6 hgm) hlt; rw [← HRR.out] at e0 e1 e2 e3; simp only at e0 e1 e2 e3)
                        go_quiet (fail)
                        go_wp2_with fail
                        go_roundw
                        case rel => exact ⟨0 + 1, by omega, by go_num, by rw [HA.out]; simp [hasR, hh], below_drewN hbel6 _⟩
                        case measure => simp [intOf]; omega
                  · obtain rfl : k = m.length := by omega
                    have eM : m.take m.length = m := List.take_length
                    rw [eM, HANY.out]
                    clear eM
                    go_wp2_with fail
                    go_ret
                    exact ⟨by simp, B7.trans (hbel.mono B7.size)⟩
      · cases hsp : inSpan s e eo la
        · have X6 := inSpan_any s e eo la w
          rw [hsp] at X6
          go_wp2_with (go_at_call 6; refine X6.mono ?_; rintro en w1 ⟨rfl, rfl⟩)
          go_ret
          exact ⟨rfl, Below.refl _ _⟩
        · have X6 := inSpan_any s e eo la w
          rw [hsp] at X6
          obtain ⟨cs, ce, ct, co, hcv⟩ : ∃ cs ce ct co, covK s e eo d true la = (cs, ce, ct, co) := ⟨_, _, _, _, rfl⟩
          have X7 : ∀ W, Calls Try.prog 7 #[aggK s e false eo, .string ⟨la.toArray⟩, .bool d] W (Gives W (aggK cs ce ct co)) := by
            intro W
            have := zzreadTo_any s e false eo la d W
            cases d
            · simp only [covK, if_true, Bool.false_eq_true, if_false, Prod.mk.injEq] at hcv
              obtain ⟨rfl, rfl, rfl, rfl⟩ := hcv
              exact this
            · simp only [covK, if_true, Prod.mk.injEq] at hcv
              obtain ⟨rfl, rfl, rfl, rfl⟩ := hcv
              exact this
          have HCL : Hid ((!bl pr cs && holdsK ce ct co pr) = coversK s e eo d true la pr) := by
            have := cover_law s e eo d true la pr
            rw [hcv] at this
            exact this
          clear hcv
          have hzz := second (w := w) (boxK s e false eo 24) (encK (s, e, false, eo)) 24
          unfold boxK encK at hzz
          go_wp2_with (first | (go_at_call 6; refine X6.mono ?_; rintro en w9 ⟨rfl, hw9⟩; rw [hw9]; clear hw9) | (go_at_call 7; refine (X7 _).mono ?_; rintro en w0 ⟨rfl, h0⟩; have hz := hzz.below h0 hzz.lt; obtain ⟨q0, q1, q2, q3, f0, f1, f2, f3⟩ := hz.four))
          have BW0 := (b2 w _ _).trans (h0.mono (by simp; omega))
          have hcov : Blk ((((w0.setCell ⟨w.heap.size + 1, 0, none⟩ (.string ⟨cs.toArray⟩)).setCell ⟨w.heap.size + 1, 1, none⟩ (.string ⟨ce.toArray⟩)).setCell ⟨w.heap.size + 1, 2, none⟩ (.bool ct)).setCell ⟨w.heap.size + 1, 3, none⟩ (.bool co)) (w.heap.size + 1) 24 (encK (cs, ce, ct, co)) := (((hz.set 0 _).set 1 _).set 2 _).set 3 _
          have BW := (((BW0.setCell (p := ⟨w.heap.size + 1, 0, none⟩) (by simp) (.string ⟨cs.toArray⟩)).setCell (p := ⟨w.heap.size + 1, 1, none⟩) (by simp) (.string ⟨ce.toArray⟩)).setCell (p := ⟨w.heap.size + 1, 2, none⟩) (by simp) (.bool ct)).setCell (p := ⟨w.heap.size + 1, 3, none⟩) (by simp) (.bool co)
          clear hz hzz h0 BW0 q0 q1 q2 q3 f0 f1 f2 f3 X6 X7
          generalize ((((w0.setCell ⟨w.heap.size + 1, 0, none⟩ (.string ⟨cs.toArray⟩)).setCell ⟨w.heap.size + 1, 1, none⟩ (.string ⟨ce.toArray⟩)).setCell ⟨w.heap.size + 1, 2, none⟩ (.bool ct)).setCell ⟨w.heap.size + 1, 3, none⟩ (.bool co)) = W at *
          generalize w.heap.size + 1 = cb at *
          have X8 := zzcontains_any cs ce ct co pr W
          rw [HCL.out] at X8
          refine X8.mono ?_
          clear X8
          rintro en w1 ⟨rfl, h1⟩
          have hcov1 := hcov.below h1 hcov.lt
          have B1 := BW.trans (h1.mono BW.size)
          clear h1 hcov BW
          go_wp2_with fail
          refine (covers_any s e eo d true la pr w1).mono ?_
          rintro en w2 ⟨rfl, rfl⟩
          obtain ⟨i0, hi0, hz0, hz1, hz2⟩ := info_parts info24
          go_wp2_with (at_make; refine wpList_make_own _ rfl _ _ 22 rfl w.heap.size 24 i0 (.agg #[.string ByteArray.empty, .string ByteArray.empty, .bool false, .bool false]) 4 Try.underlying22 hi0 hz0 hz1 _ _ _ (ot.length + 1) rfl rfl (by first | rfl | omega) (by rw [hz2]; omega) (by unfold maxLen; omega) B1.size ?_; intro w3 hown hgrow)
          obtain ⟨cur, hb3, hl3⟩ : ∃ cur, Blk w3 w2.heap.size 24 cur ∧ cur.length = (ot.length + 1) * 4 := by
            rcases hown.2 with ⟨h0, _⟩ | ⟨g', cap', cur, hv, hb, hh, q1, q2, q3, q4⟩
            · cases h0
            · cases hv
              exact ⟨cur.toList, by unfold Blk; rw [hh], by simpa using q3⟩
          have hcov3 := hcov1.kept hgrow (by simp)
          have hcg := hcov1.lt
          have B3 := B1.grown hgrow B1.size (fun k h => by cases h)
          have z1 := B1.size
          clear hown hgrow hcov1
          have hcl := hcov3.lt
          generalize hgR : w2.heap.size = gR at *
          go_loopw [20, 21] (fun v i wr => ∃ (k : Nat) (cur : List Value), i = .int .i64 k ∧ v = .slice (some ⟨gR, 0, none⟩) k (ot.length + 1 : Nat) ∧ Fill ot (ot.length + 1) k cur ∧ Blk wr gR 24 cur ∧ Blk wr cb 24 (encK (cs, ce, ct, co)) ∧ Below w.heap.size w wr) (fun _ i _ => ot.length - (intOf i).toNat)
          case atStart => exact ⟨0, cur, rfl, rfl, ⟨hl3, Nat.zero_le _, by simp⟩, hb3, hcov3, B3⟩
          case round =>
            clear hb3 hl3 hcov3 B3
            obtain ⟨k, cur, rfl, rfl, hf, hbk, hcov, hbel⟩ := hrel
            have hk := hf.le
            have HF := show Hid _ from hf
            have hcl := hf.len
            clear hf
            have hgl := hbk.lt
            by_cases hlt : k < ot.length
            · obtain ⟨b, o, hao, hb, _⟩ := hO 0 (by rw [flat_len]; omega)
              subst hao
              obtain ⟨c0, c1, c2, c3⟩ := row_k (hO.below hbel (Nat.le_refl _)) hlt
              obtain ⟨r, hr⟩ : ∃ r, r = ot[k] := ⟨_, rfl⟩
              rw [← hr] at c0 c1 c2 c3
              have HR : Hid (r = ot[k]) := hr
              clear hr
              obtain ⟨rs, re, rt, ro⟩ := r
              simp only at c0 c1 c2 c3
              have hki : (k : Int) < (ot.length : Int) := by omega
              obtain ⟨v0, x0⟩ : ∃ v, wr.cell? ⟨gR, k * 4, none⟩ = some v := ⟨_, hbk.cell (by omega)⟩
              obtain ⟨v1, x1⟩ : ∃ v, wr.cell? ⟨gR, k * 4 + 1, none⟩ = some v := ⟨_, hbk.cell (by omega)⟩
              obtain ⟨v2, x2⟩ : ∃ v, wr.cell? ⟨gR, k * 4 + 2, none⟩ = some v := ⟨_, hbk.cell (by omega)⟩
              obtain ⟨v3, x3⟩ : ∃ v, wr.cell? ⟨gR, k * 4 + 3, none⟩ = some v := ⟨_, hbk.cell (by omega)⟩
              have f0 := hbk.free (k * 4)
              have f1 := hbk.free (k * 4 + 1)
              have f2 := hbk.free (k * 4 + 2)
              have f3 := hbk.free (k * 4 + 3)
              have hki2 : (k : Int) + 1 ≤ (ot.length : Int) + 1 := by omega
              have hki3 : k + 1 ≤ ot.length + 1 := by omega
              have hne1 : gR ≠ wr.heap.size := by omega
              have hne2 : wr.heap.size ≠ gR := by omega
              have hcgn : cb ≠ gR := by omega
              go_wp2_with fail
              go_region
              go_wp2_with fail
              go_roundw
              case rel =>
                refine ⟨k + 1, upd4 cur (k * 4) ot[k], by go_num, rfl, HF.out.push hlt (by omega), ?_, ?_, ?_⟩
                · rw [← HR.out]
                  exact (Blk.below ((((hbk.set _ _).set _ _).set _ _).set _ _) (b1 _ _) (by simpa [World.setCell] using hgl)).drew
                · exact (Blk.below ((((hcov.other hcgn _ _).other hcgn _ _).other hcgn _ _).other hcgn _ _) (b1 _ _) (by simpa [World.setCell] using hcov.lt)).drew
                · exact (((((hbel.setCell z1 _).setCell z1 _).setCell z1 _).setCell z1 _).alloc (by simpa [World.setCell] using hbel.size) _).drew
              case measure => simp [intOf]; omega
            · obtain rfl : k = ot.length := by omega
              obtain ⟨v0, x0⟩ : ∃ v, wr.cell? ⟨gR, ot.length * 4, none⟩ = some v := ⟨_, hbk.cell (by omega)⟩
              obtain ⟨v1, x1⟩ : ∃ v, wr.cell? ⟨gR, ot.length * 4 + 1, none⟩ = some v := ⟨_, hbk.cell (by omega)⟩
              obtain ⟨v2, x2⟩ : ∃ v, wr.cell? ⟨gR, ot.length * 4 + 2, none⟩ = some v := ⟨_, hbk.cell (by omega)⟩
              obtain ⟨v3, x3⟩ : ∃ v, wr.cell? ⟨gR, ot.length * 4 + 3, none⟩ = some v := ⟨_, hbk.cell (by omega)⟩
              have f0 := hbk.free (ot.length * 4)
              have f1 := hbk.free (ot.length * 4 + 1)
              have f2 := hbk.free (ot.length * 4 + 2)
              have f3 := hbk.free (ot.length * 4 + 3)
              have hne1 : gR ≠ wr.heap.size := by omega
              have hne2 : wr.heap.size ≠ gR := by omega
              obtain ⟨y0, y1, y2, y3, -, -, -, -⟩ := hcov.four
              simp only at y0 y1 y2 y3
              go_wp2_with fail
              have hR0 : Blk ((((wr.setCell ⟨gR, ot.length * 4, none⟩ (.string ⟨cs.toArray⟩)).setCell ⟨gR, ot.length * 4 + 1, none⟩ (.string ⟨ce.toArray⟩)).setCell ⟨gR, ot.length * 4 + 2, none⟩ (.bool ct)).setCell ⟨gR, ot.length * 4 + 3, none⟩ (.bool co)) gR 24 ((ot ++ [(cs, ce, ct, co)]).flatMap encK) := by
                rw [← HF.out.close (cs, ce, ct, co)]
                exact (((hbk.set _ _).set _ _).set _ _).set _ _
              have hR := hR0.below (b1 _ (.cells #[.string ⟨cs.toArray⟩, .string ⟨ce.toArray⟩, .bool ct, .bool co] 24)) hR0.lt
              have B4 := ((((hbel.setCell (p := ⟨gR, ot.length * 4, none⟩) z1 (.string ⟨cs.toArray⟩)).setCell (p := ⟨gR, ot.length * 4 + 1, none⟩) z1 (.string ⟨ce.toArray⟩)).setCell (p := ⟨gR, ot.length * 4 + 2, none⟩) z1 (.bool ct)).setCell (p := ⟨gR, ot.length * 4 + 3, none⟩) z1 (.bool co)).alloc (by simpa [World.setCell] using hbel.size) (.cells #[.string ⟨cs.toArray⟩, .string ⟨ce.toArray⟩, .bool ct, .bool co] 24)
              clear hR0 x0 x1 x2 x3 f0 f1 f2 f3 y0 y1 y2 y3 hbk hcov
              generalize (((((wr.setCell ⟨gR, ot.length * 4, none⟩ (.string ⟨cs.toArray⟩)).setCell ⟨gR, ot.length * 4 + 1, none⟩ (.string ⟨ce.toArray⟩)).setCell ⟨gR, ot.length * 4 + 2, none⟩ (.bool ct)).setCell ⟨gR, ot.length * 4 + 3, none⟩ (.bool co)).alloc (.cells #[.string ⟨cs.toArray⟩, .string ⟨ce.toArray⟩, .bool ct, .bool co] 24)) = w4 at *
              clear hbel
              obtain ⟨R, hRd⟩ : ∃ R, R = ot ++ [(cs, ce, ct, co)] := ⟨_, rfl⟩
              rw [← hRd] at hR
              have hRl : R.length = ot.length + 1 := by rw [hRd]; simp
              have HRL := show Hid _ from hRl
              clear hRd
              have z4 := B4.size
              have hgl4 := hR.lt
              go_loopw [22, 23] (fun v i wr => ∃ k : Nat, k ≤ ot.length + 1 ∧ i = .int .i64 k ∧ v = .bool (anyHas (R.take k) pr) ∧ Below w4.heap.size w4 wr) (fun _ i _ => ot.length + 1 - (intOf i).toNat)
              case atStart => exact ⟨0, Nat.zero_le _, rfl, rfl, Below.refl _ _⟩
              case round =>
                clear hRl
                obtain ⟨k, hk, rfl, rfl, hbel⟩ := hrel
                by_cases hlt : k < ot.length + 1
                · have hkR : k < R.length := by rw [HRL.out]; exact hlt
                  obtain ⟨c0, c1, c2, c3⟩ := blk_k (hR.below hbel hgl4) hkR
                  obtain ⟨r, hr⟩ : ∃ r, r = R[k] := ⟨_, rfl⟩
                  rw [← hr] at c0 c1 c2 c3
                  have HA := show Hid _ from any_take hkR pr
                  rw [← hr] at HA
                  clear hr
                  obtain ⟨rs, re, rt, ro⟩ := r
                  simp only at c0 c1 c2 c3
                  have X10 := fun w => has_any rs re rt ro pr w
                  have hki : (k : Int) < (ot.length : Int) + 1 := by omega
                  cases hh : hasK rs re rt ro pr
                  · rw [hh] at X10
                    go_wp2_with (go_at_call 10; refine (X10 _).mono ?_; rintro en w6 ⟨rfl, h6⟩)
                    go_roundw
                    case rel => exact ⟨k + 1, by omega, by go_num, by rw [HA.out]; simp [hasR, hh], hbel.trans (h6.mono hbel.size)⟩
                    case measure => simp [intOf]; omega
                  · rw [hh] at X10
                    go_wp2_with (go_at_call 10; refine (X10 _).mono ?_; rintro en w6 ⟨rfl, h6⟩)
                    go_roundw
                    case rel => exact ⟨k + 1, by omega, by go_num, by rw [HA.out]; simp [hasR, hh], hbel.trans (h6.mono hbel.size)⟩
                    case measure => simp [intOf]; omega
                · obtain rfl : k = ot.length + 1 := by omega
                  have eR : R.take (ot.length + 1) = R := List.take_of_length_le (by rw [HRL.out]; omega)
                  rw [eR]
                  have X11 := zzdisjoint_any gR 0 (ot.length + 1) R w4.heap.size wr ((hR.row).below hbel (Nat.le_refl _)) hbel.size (by rw [HRL.out]; omega)
                  rw [HRL.out] at X11
                  clear eR
                  generalize hb0 : anyHas R pr = b0
                  have HB0 := show Hid _ from hb0
                  clear hb0
                  go_wp2_with fail
                  refine X11.mono ?_
                  rintro en w7 ⟨⟨gm, m, rfl, hm, hsep, hany, hml⟩, h7⟩
                  have B7 : Below w.heap.size w w7 := (B4.trans (hbel.mono z4)).trans (h7.mono (Nat.le_trans z4 hbel.size))
                  have HSEP := show Hid _ from hsep
                  have HANY : Hid (anyHas m pr = b0) := by unfold Hid; rw [hany pr]; exact HB0.out
                  clear X11 hsep hany h7 hbel hR
                  have hgm := hm.lt
                  go_wp2_with fail
                  go_loopw [25, 26] (fun v i wr => ∃ k : Nat, k ≤ m.length ∧ i = .int .i64 k ∧ v = .bool (anyHas (m.take k) pr) ∧ Below w7.heap.size w7 wr) (fun _ i _ => m.length - (intOf i).toNat)
                  case atStart => exact ⟨0, Nat.zero_le _, rfl, rfl, Below.refl _ _⟩
                  case round =>
                    obtain ⟨k, hk, rfl, rfl, hbel⟩ := hrel
                    by_cases hlt : k < m.length
                    · obtain ⟨c0, c1, c2, c3⟩ := blk_k (hm.below hbel hgm) hlt
                      obtain ⟨r, hr⟩ : ∃ r, r = m[k] := ⟨_, rfl⟩
                      rw [← hr] at c0 c1 c2 c3
                      have HA := show Hid _ from any_take hlt pr
                      rw [← hr] at HA
                      have HRR : Hid (r = m[k]) := hr
                      clear hr
                      obtain ⟨rs, re, rt, ro⟩ := r
                      simp only at c0 c1 c2 c3
                      have X10 := fun w => has_any rs re rt ro pr w
                      have hki : (k : Int) < (m.length : Int) := by omega
                      by_cases hk0 : 0 < k
                      · obtain ⟨j, rfl⟩ : ∃ j, k = j + 1 := ⟨k - 1, by omega⟩
                        have hj : j < m.length := by omega
                        have hsp := HSEP.out j hlt
                        rw [← HRR.out] at hsp
                        obtain ⟨p, hp⟩ : ∃ p, p = m[j] := ⟨_, rfl⟩
                        rw [← hp] at hsp
                        have HPP : Hid (p = m[j]) := hp
                        clear hp
                        obtain ⟨ps, pe, pt, po⟩ := p
                        simp only at hsp
                        obtain ⟨rfl, hs1, hs2⟩ := sep_facts hsp
                        clear hsp
                        have hjd : decide ((0 : Int) < ((j + 1 : Nat) : Int)) = true := decide_eq_true (by omega)
                        have hji' : ((j + 1 : Nat) : Int) - 1 < (m.length : Int) := by omega
                        clear c0 c1 c2 c3
                        have hcA := blk_k (hm.below hbel hgm) hlt
                        rw [← HRR.out] at hcA
                        obtain ⟨c0, c1, c2, c3⟩ := hcA
                        simp only at c0 c1 c2 c3
                        cases hh : hasK rs re rt ro pr
                        · rw [hh] at X10
                          go_wp2_with (go_at_call 10; refine (X10 _).mono ?_; rintro en w6 ⟨rfl, h6⟩; have hbel6 := hbel.trans (h6.mono hbel.size); obtain ⟨e0, e1, e2, e3⟩ := blk_k (hm.below hbel6 hgm) hlt; rw [← HRR.out] at e0 e1 e2 e3; simp only at e0 e1 e2 e3; obtain ⟨d0, d1, d2, d3⟩ := blk_k (hm.below hbel6 hgm) hj; rw [← HPP.out] at d0 d1 d2 d3; simp only at d0 d1 d2 d3)
                          go_quiet (fail)
                          go_wp2_with fail
                          go_roundw
                          case rel => exact ⟨j + 1 + 1, by omega, by go_num, by rw [HA.out]; simp [hasR, hh], below_drewN hbel6 _⟩
                          case measure => simp [intOf]; omega
                        · rw [hh] at X10
                          go_wp2_with (go_at_call 10; refine (X10 _).mono ?_; rintro en w6 ⟨rfl, h6⟩; have hbel6 := hbel.trans (h6.mono hbel.size); obtain ⟨e0, e1, e2, e3⟩ := blk_k (hm.below hbel6 hgm) hlt; rw [← HRR.out] at e0 e1 e2 e3; simp only at e0 e1 e2 e3; obtain ⟨d0, d1, d2, d3⟩ := blk_k (hm.below hbel6 hgm) hj; rw [← HPP.out] at d0 d1 d2 d3; simp only at d0 d1 d2 d3)
                          go_quiet (fail)
                          go_wp2_with fail
                          go_roundw
                          case rel => exact ⟨j + 1 + 1, by omega, by go_num, by rw [HA.out]; simp [hasR, hh], below_drewN hbel6 _⟩
                          case measure => simp [intOf]; omega
                      · obtain rfl : k = 0 := by omega
                        have hjd : decide ((0 : Int) < ((0 : Nat) : Int)) = false := decide_eq_false (by omega)
                        cases hh : hasK rs re rt ro pr
                        · rw [hh] at X10
                          go_wp2_with (go_at_call 10; refine (X10 _).mono ?_; rintro en w6 ⟨rfl, h6⟩; have hbel6 := hbel.trans (h6.mono hbel.size); obtain ⟨e0, e1, e2, e3⟩ := blk_k (hm.below hbel6 hgm) hlt; rw [← HRR.out] at e0 e1 e2 e3; simp only at e0 e1 e2 e3)
                          go_quiet (fail)
                          go_wp2_with fail
                          go_roundw
                          case rel => exact ⟨0 + 1, by omega, by go_num, by rw [HA.out]; simp [hasR, hh], below_drewN hbel6 _⟩
                          case measure => simp [intOf]; omega
                        · rw [hh] at X10
                          go_wp2_with (go_at_call 10; refine (X10 _).mono ?_; rintro en w6 ⟨rfl, h6⟩; have hbel6 := hbel.trans (h6.mono hbel.size); obtain ⟨e0, e1, e2, e3⟩ := blk_k (hm.below hbel6 hgm) hlt; rw [← HRR.out] at e0 e1 e2 e3; simp only at e0 e1 e2 e3)
                          go_quiet (fail)
                          go_wp2_with fail
                          go_roundw
                          case rel => exact ⟨0 + 1, by omega, by go_num, by rw [HA.out]; simp [hasR, hh], below_drewN hbel6 _⟩
                          case measure => simp [intOf]; omega
                    · obtain rfl : k = m.length := by omega
                      have eM : m.take m.length = m := List.take_length
                      rw [eM, HANY.out]
                      clear eM
                      go_wp2_with fail
                      go_ret
                      exact ⟨by simp, B7.trans (hbel.mono B7.size)⟩
end Go.Proofs.Qxb6003818a
