import Derived.Test.Qxb6003818aBtM1
import Derived.BigRegion
namespace Go.Proofs.Qxb6003818a
open Go.ChangeShapes Go.WideShapes Go.ChangeAt Go.RowKit
set_option linter.unusedVariables false
set_option linter.unusedSimpArgs false

set_option maxHeartbeats 8000000 in
set_option maxRecDepth 100000 in
theorem set65 (h lo : Nat) (t : Kid) (key : Str) (vv : KR) (w : World) (HT : Tree w h lo t) (ha : Asc t.fl) (hs : Sep t) (hn : t.fl.length ≤ 50000) :
    Calls Try.prog 65 #[ptr t.g, strV key, aggV vv] w fun e w' => ∃ b, e = .returned (.bool b) ∧ ∃ t', SetOK w w' h lo t t' key vv b := by
  obtain ⟨vs, ve, vt, vo⟩ := vv
  obtain ⟨W, hW⟩ : ∃ W, W = w.alloc (.cells #[strV vs, strV ve, .bool vt, .bool vo] 38) := ⟨_, rfl⟩
  have hu : Upd w W [] := by rw [hW]; exact Upd.alloc w _ _
  have hbv : Blk W w.heap.size 38 (encK (vs, ve, vt, vo)) := by rw [hW]; exact blk_new w _ _
  have HT' := tree_upd hu HT (fun k _ => by simp)
  have ST : SetAt key (vs, ve, vt, vo) w.heap.size (fun b w' => ∃ t', SetOK w w' h lo t t' key (vs, ve, vt, vo) b) h (ptr t.g) W := by
    refine ⟨t, lo, rfl, HT', ha, hs, hn, tree_lt HT _ (Nat.le_refl _), hbv, fun b t' w' H => ⟨t', H.tree, H.fl, H.new, ?_⟩⟩
    refine ⟨hu.mono (fun _ _ _ => by simp) |>.trans H.turns.upd (fun _ _ h => h), H.turns.g, fun k => ⟨fun hk => (H.turns.fresh k).1 (Nat.lt_of_lt_of_le hk hu.size), fun hk => ?_⟩⟩
    rcases Nat.lt_or_ge k W.heap.size with h1 | h1
    · have := (H.turns.fresh k).1 h1
      have := tree_lt HT k hk
      omega
    · exact (H.turns.fresh k).2 h1
  obtain ⟨Fin, hFin⟩ : ∃ Fin : Bool → World → Prop, Fin = fun b w' => ∃ t', SetOK w w' h lo t t' key (vs, ve, vt, vo) b := ⟨_, rfl⟩
  rw [← hFin] at ST
  suffices G : Calls Try.prog 65 #[ptr t.g, strV key, aggV (vs, ve, vt, vo)] w fun e w' => ∃ b, e = .returned (.bool b) ∧ Fin b w' by
    refine G.mono ?_
    rintro e w' ⟨b, he, hf⟩
    rw [hFin] at hf
    exact ⟨b, he, hf⟩
  clear hFin HT HT' hn ha hs hu hbv
  subst hW
  go_enter Try.func65, Try.ntmps65
  go_wp2
  generalize w.heap.size = bvl at *
  go_loopg [0] h (fun k s0 wr => SetAt key (vs, ve, vt, vo) bvl Fin k s0 wr)
  case atStart => exact ST
  case round =>
    clear ST
    obtain ⟨t, lo, rfl, HT, ha, hs, hn, hbt, hbv, HW⟩ := hrel
    have HWW : Hid (∀ b t' w', SetOK wr w' gk lo t t' key (vs, ve, vt, vo) b → Fin b w') := HW
    clear HW
    obtain ⟨v, c, its, ks, N⟩ := tree_iff.1 HT
    have haf : Asc (flat its ks) := by rw [← N.fl]; exact ha
    have hil : its.length ≤ 50000 := by have := its_le_flat its ks; rw [← N.fl] at this; omega
    have X := search75 t.g key v c its _ N.blk N.row (asc_its haf) (by omega)
    obtain ⟨I, J, hIJ, hI, hIlt, hcase⟩ := pos_cases key (asc_its haf)
    have hple := pos_le key its
    have HN : Hid (NT wr (Below1 wr gk) gk lo t v c its ks) := N
    have HA : Hid (Asc (flat its ks)) := haf
    clear N haf HT
    rcases hcase with ⟨hhit, hgt⟩ | ⟨u, J', rfl, hhit⟩
    · rw [hhit] at X
      cases gk with
      | zero =>
        obtain ⟨rfl, rfl⟩ := HN.out.leaf rfl
        have hnil := eql63 none 0 0 0 0
        simp only [Option.isNone_none] at hnil
        generalize hpp : posL key its = p at *
        have HI : Hid (its = I ++ J ∧ I.length = p ∧ AllLt key I ∧ AllGt key J) := ⟨hIJ, hI, hIlt, hgt⟩
        clear hIJ hI hIlt hhit ha hn hpp hgt
        go_wp2_with (go_at_call 75; refine X.mono ?_; rintro e w1 ⟨rfl, hu1⟩; revert hu1)
        intro hu1
        have N1 := nt_upd0 HN.out hu1
        obtain ⟨c0, c1, cf0, cf1⟩ := N1.blk.two
        obtain ⟨b0, b1, b2, b3, -⟩ := (hbv.upd hu1 (by simp)).four'
        obtain ⟨a, cap, rfl⟩ := row_slice N1.row
        obtain ⟨W2, hW2⟩ : ∃ W2, W2 = w1.drew.alloc (.cells #[strV key, strV vs, strV ve, .bool vt, .bool vo] 105) := ⟨_, rfl⟩
        have hu2 : Upd w1 W2 [] := by rw [hW2]; exact (Upd.drew w1 _).trans (Upd.alloc _ _ _) (fun _ _ h => h)
        have hvb : Blk W2 w1.heap.size 105 (encI (key, vs, ve, vt, vo)) := by rw [hW2]; exact blk_new w1.drew _ _
        have Y := ins76 (.slice a its.length cap) its.length p w1.heap.size (its.flatMap encI) (encI (key, vs, ve, vt, vo)) W2 (owns_upd N1.row hu2 (fun _ _ => by simp)) hple (by omega) hvb rfl (owns_lt N1.row _ (Nat.le_refl _)) (flatI_one _) (encI_one _)
        have hgl := N1.blk.lt
        have hgv : (ownB (.slice a its.length cap)).count t.g = 0 := by
          have h1 := hs t.g
          rw [nt_count N1, if_pos rfl] at h1
          omega
        subst hW2
        go_wp2
        go_region_with (go_at_call 76; refine Y.mono ?_; rintro e w2 ⟨v2, rfl, ho2, hu3, hf3⟩; obtain ⟨a2, cap2, rfl⟩ := owns_slice ho2; have hg2 := (N1.blk.upd hu2 (by simp)).upd hu3 hgv; obtain ⟨k0, k1, kf0, kf1⟩ := hg2.two)
        all_goals go_wp2
        all_goals go_ret
        all_goals (
          have hlt0 : ∀ k, wr.heap.size ≤ k → t.ft.count k = 0 := tree_lt (tree_iff.2 ⟨_, _, _, _, HN.out⟩)
          obtain ⟨hIJ, hI, hIlt, hgt⟩ := HI.out
          subst hIJ
          subst hI
          have hlen : (I ++ J).length + 1 = (I ++ (key, vs, ve, vt, vo) :: J).length := by simp; omega
          rw [flatI_ins] at ho2
          rw [hlen] at ho2 hf3 ⊢
          obtain ⟨t', ht'⟩ := set_leaf N1 hs hIlt hgt hu2 ho2 hu3 hf3
          exact ⟨true, rfl, HWW.out true t' _ (ht'.pre hu1 hlt0)⟩)
      | succ gk =>
        have hkl := HN.out.inner (by omega)
        have hkl2 := hkl
        rw [hIJ] at hkl2
        obtain ⟨A, k, B, hks, hA, hB⟩ := split_ks hkl2
        have hpk : posL key its < ks.length := by omega
        have hkp : ks[posL key its] = k := by
          have h1 : ks[posL key its]? = some k := by rw [hks, List.getElem?_append_right (by omega), hA, hI, Nat.sub_self]; rfl
          rw [List.getElem?_eq_getElem hpk] at h1
          exact Option.some.inj h1
        generalize hpp : posL key its = p at *
        have HI : Hid (its = I ++ J ∧ I.length = p ∧ AllLt key I ∧ AllGt key J ∧ ks = A ++ k :: B ∧ A.length = I.length ∧ B.length = J.length) := ⟨hIJ, hI, hIlt, hgt, hks, hA, hB⟩
        have hmem : k ∈ ks := by rw [hks]; simp
        have HKP : Hid (ks[p] = k) := hkp
        have HFA : Hid (Asc t.fl ∧ t.fl.length ≤ 50000 ∧ ∀ q, wr.heap.size ≤ q → t.ft.count q = 0) := ⟨ha, hn, tree_lt (tree_iff.2 ⟨_, _, _, _, HN.out⟩)⟩
        clear hIJ hI hIlt hhit ha hn hpp hgt hks hA hB hkl2 hkp
        have hpz : (p : Int) < (ks.length : Int) := by omega
        have HKL : Hid (ks.length = its.length + 1) := hkl
        clear hkl
        go_wp2_with (go_at_call 75; refine X.mono ?_; rintro e w1 ⟨rfl, hu1⟩; revert hu1)
        intro hu1
        have N1 := nt_upd0 HN.out hu1
        obtain ⟨c0, c1, cf0, cf1⟩ := N1.blk.two
        obtain ⟨a, cap, rfl⟩ := row_slice N1.row
        obtain ⟨rc, capc, rfl, hcapc, hcapc2, hownc, hrc, k0, -⟩ := row_kid N1.krow hpk
        rw [HKP.out] at k0
        have HTk : Tree w1 gk 15 k := N1.kids k hmem
        obtain ⟨vk, ck, itk, ksk, Nk⟩ := tree_iff.1 HTk
        obtain ⟨ak, capk, rfl⟩ := row_slice Nk.row
        obtain ⟨kk0, -, -, -⟩ := Nk.blk.two
        have hnil := eql63 (some ⟨rc, 0, none⟩) ks.length capc 0 0
        simp only [Option.isNone_some] at hnil
        have hbv1 := hbv.upd hu1 (by simp)
        by_cases h31 : itk.length = 31
        · have hsepk : Sep k := fun q => by
            have h1 := hs q
            have h2 := count_mem hmem q
            rw [nt_count N1] at h1
            omega
          have X2 := split64 gk 15 k _ ck itk ksk w1 Nk h31 hsepk
          rw [h31] at kk0
          clear h31 Nk
          go_wp2_with (go_at_call 64; refine X2.mono ?_; rintro e w2 ⟨m, l, r, rfl, H2⟩; revert H2)
          intro H2
          have S1 : Star w1 t.ft w2 [aBlk t.g 65 [.slice a its.length cap, .slice (some ⟨rc, 0, none⟩) ks.length capc], aRow 105 5 (.slice a its.length cap) its.length (its.flatMap encI), aRow 59 1 (.slice (some ⟨rc, 0, none⟩) ks.length capc) ks.length (ks.map (fun k => ptr k.g)), aKids (gk + 1) A, aTwo gk l r, aKids (gk + 1) B] := by
            obtain ⟨-, -, -, -, hks, -, -⟩ := HI.out
            have N1' := N1
            rw [hks] at N1'
            have := split_star N1' hs H2
            rw [← hks] at this
            exact this
          obtain ⟨mk, ms, me, mt, mo⟩ := m
          have hgl2 : t.g < w2.heap.size := Blk.lt (S1.get (X := []))
          have HM2 : Hid (Halves w1 w2 gk k (mk, ms, me, mt, mo) l r) := H2
          have HS1 : Hid (Star w1 t.ft w2 [aBlk t.g 65 [.slice a its.length cap, .slice (some ⟨rc, 0, none⟩) ks.length capc], aRow 105 5 (.slice a its.length cap) its.length (its.flatMap encI), aRow 59 1 (.slice (some ⟨rc, 0, none⟩) ks.length capc) ks.length (ks.map (fun k => ptr k.g)), aKids (gk + 1) A, aTwo gk l r, aKids (gk + 1) B]) := S1
          clear X2 H2 S1 c0 c1 cf0 cf1 k0 kk0
          go_wp2
          have S2 := HS1.out.alloc (encI (mk, ms, me, mt, mo)) 105
          have hW3s : w2.alloc (.cells (encI (mk, ms, me, mt, mo)).toArray 105) = w2.alloc (.cells #[.string ⟨mk.toArray⟩, .string ⟨ms.toArray⟩, .string ⟨me.toArray⟩, .bool mt, .bool mo] 105) := rfl
          rw [hW3s] at S2
          clear hW3s
          have hs3 : w2.heap.size < (w2.alloc (.cells #[.string ⟨mk.toArray⟩, .string ⟨ms.toArray⟩, .string ⟨me.toArray⟩, .bool mt, .bool mo] 105)).heap.size := by rw [size_alloc']; omega
          generalize (w2.alloc (.cells #[.string ⟨mk.toArray⟩, .string ⟨ms.toArray⟩, .string ⟨me.toArray⟩, .bool mt, .bool mo] 105)) = W3 at *
          generalize hmb : w2.heap.size = mb at *
          have hq1 : Blk W3 t.g 65 [.slice a its.length cap, .slice (some ⟨rc, 0, none⟩) ks.length capc] := S2.get (X := [_])
          have hq2 : Blk W3 mb 105 [strV mk, strV ms, strV me, .bool mt, .bool mo] := S2.get (X := [])
          obtain ⟨c0, c1, cf0, cf1⟩ := hq1.two
          obtain ⟨e0, e1, e2, e3, e4, -⟩ := hq2.five
          have hgW : t.g < W3.heap.size := hq1.lt
          clear hq1 hq2
          obtain ⟨W4, hW4⟩ : ∃ W4, W4 = W3.drew.alloc (.cells #[strV mk, strV ms, strV me, .bool mt, .bool mo] 105) := ⟨_, rfl⟩
          have hu34 : Upd W3 W4 [] := by rw [hW4]; exact (Upd.drew W3 _).trans (Upd.alloc _ _ _) (fun _ _ h => h)
          have hvb : Blk W4 W3.heap.size 105 (encI (mk, ms, me, mt, mo)) := by rw [hW4]; exact blk_new W3.drew _ _
          have hor : W3.ownsRow 0 105 5 (.slice a its.length cap) its.length (its.flatMap encI) := S2.get (X := [_, _])
          have Y := ins76 (.slice a its.length cap) its.length p W3.heap.size (its.flatMap encI) (encI (mk, ms, me, mt, mo)) W4 (owns_upd hor hu34 (fun _ _ => by simp)) hple (by omega) hvb rfl (owns_lt hor _ (Nat.le_refl _)) (flatI_one _) (encI_one _)
          have S3 := S2.grow hu34
          have hg4 : Blk W4 t.g 65 [.slice a its.length cap, .slice (some ⟨rc, 0, none⟩) ks.length capc] := S3.get (X := [_])
          have hgv : (ownB (.slice a its.length cap)).count t.g = 0 := by
            have h1 := hs t.g
            rw [nt_count N1, if_pos rfl] at h1
            omega
          have HSS : Hid (Star w1 t.ft W4 [aBlk mb 105 (encI (mk, ms, me, mt, mo)), aBlk t.g 65 [.slice a its.length cap, .slice (some ⟨rc, 0, none⟩) ks.length capc], aRow 105 5 (.slice a its.length cap) its.length (its.flatMap encI), aRow 59 1 (.slice (some ⟨rc, 0, none⟩) ks.length capc) ks.length (ks.map (fun k => ptr k.g)), aKids (gk + 1) A, aTwo gk l r, aKids (gk + 1) B]) := S3
          have HG4 : Hid (Blk W4 t.g 65 [.slice a its.length cap, .slice (some ⟨rc, 0, none⟩) ks.length capc]) := hg4
          have HMB : Hid (w2.heap.size = mb) := hmb
          have HN1 : Hid (NT w1 (Below1 w1 (gk + 1)) (gk + 1) lo t (.slice a its.length cap) (.slice (some ⟨rc, 0, none⟩) ks.length capc) its ks) := N1
          clear S2 S3 hor hvb hu34 hg4 hmb N1 HTk HN
          subst hW4
          go_region_with (go_at_call 76; refine Y.mono ?_; rintro e w5 ⟨v5, rfl, ho5, hu5, hf5⟩; obtain ⟨a5, cap5, rfl⟩ := owns_slice ho5; have hg5 := HG4.out.upd hu5 hgv; obtain ⟨g50, g51, g52, g53⟩ := hg5.two)
          all_goals (
            have ho5' : w5.ownsRow 0 105 5 (.slice a5 (its.length + 1) cap5) (I ++ (mk, ms, me, mt, mo) :: J).length ((I ++ (mk, ms, me, mt, mo) :: J).flatMap encI) := by
              obtain ⟨hIJ, hI, -⟩ := HI.out
              exact owns_cast ho5 (by rw [hIJ]; simp; omega) (by rw [hIJ, ← hI]; exact flatI_ins I J _)
            have S5 : Star w1 t.ft w5 [aBlk mb 105 (encI (mk, ms, me, mt, mo)), aBlk t.g 65 [.slice a its.length cap, .slice (some ⟨rc, 0, none⟩) ks.length capc], aRow 105 5 (.slice a5 (its.length + 1) cap5) (I ++ (mk, ms, me, mt, mo) :: J).length ((I ++ (mk, ms, me, mt, mo) :: J).flatMap encI), aRow 59 1 (.slice (some ⟨rc, 0, none⟩) ks.length capc) ks.length (ks.map (fun k => ptr k.g)), aKids (gk + 1) A, aTwo gk l r, aKids (gk + 1) B] := HSS.out.ins (X := [_, _]) ho5' hu5 hf5
            have S6 := S5.set (X := [_]) (i := 0) (.slice a5 (its.length + 1) cap5)
            obtain ⟨W6, hW6⟩ : ∃ W6, W6 = w5.setCell ⟨t.g, 0, none⟩ (.slice a5 (its.length + 1) cap5) := ⟨_, rfl⟩
            rw [← hW6] at S6
            obtain ⟨W7, hW7⟩ : ∃ W7, W7 = W6.alloc (.cells #[ptr r.g] 59) := ⟨_, rfl⟩
            have hu67 : Upd W6 W7 [] := by rw [hW7]; exact Upd.alloc _ _ _
            have S7 := S6.grow hu67
            have hok : W7.ownsRow 0 59 1 (.slice (some ⟨rc, 0, none⟩) ks.length capc) ks.length (ks.map (fun k => ptr k.g)) := S7.get (X := [_, _, _])
            have hok6 : W6.ownsRow 0 59 1 (.slice (some ⟨rc, 0, none⟩) ks.length capc) ks.length (ks.map (fun k => ptr k.g)) := S6.get (X := [_, _, _])
            have Z := ins77 (.slice (some ⟨rc, 0, none⟩) ks.length capc) ks.length (p + 1) W6.heap.size (ks.map (fun k => ptr k.g)) [ptr r.g] W7 hok (by omega) (by have := HKL.out; omega) (by rw [hW7]; exact blk_new _ _ _) rfl (owns_lt hok6 _ (Nat.le_refl _)) (ptrs_one _) (by intro u hu; simp at hu; subst hu; rfl)
            rw [show ((p + 1 : Nat) : Int) = (p : Int) + 1 by omega, show W6.heap.size = w5.heap.size by rw [hW6]; simp] at Z
            have HS7 : Hid (Star w1 t.ft W7 [aBlk mb 105 (encI (mk, ms, me, mt, mo)), aBlk t.g 65 [.slice a5 (its.length + 1) cap5, .slice (some ⟨rc, 0, none⟩) ks.length capc], aRow 105 5 (.slice a5 (its.length + 1) cap5) (I ++ (mk, ms, me, mt, mo) :: J).length ((I ++ (mk, ms, me, mt, mo) :: J).flatMap encI), aRow 59 1 (.slice (some ⟨rc, 0, none⟩) ks.length capc) ks.length (ks.map (fun k => ptr k.g)), aKids (gk + 1) A, aTwo gk l r, aKids (gk + 1) B]) := S7
            clear S5 S6 S7 hok hok6 hu67 HSS HG4 hg5 ho5 ho5' hu5 hf5 e0 e1 e2 e3 e4 c0 c1 cf0 cf1
            subst hW7
            subst hW6
            go_wp2_with (first | (go_at_call 77; refine Z.mono ?_; rintro e w8 ⟨v8, rfl, ho8, hu8, hf8⟩; revert hf8) | fail)
            intro hf8
            have ho8' : w8.ownsRow 0 59 1 v8 (A ++ l :: r :: B).length ((A ++ l :: r :: B).map (fun k => ptr k.g)) := by
              obtain ⟨-, hI, -, -, hks, hA, -⟩ := HI.out
              exact owns_cast ho8 (by rw [hks]; simp; omega) (by rw [hks, ← hI, ← hA]; exact ptrs_ins HM2.out.g)
            obtain ⟨a8, cap8, rfl⟩ := owns_slice ho8
            have S8 : Star w1 t.ft w8 [aBlk mb 105 (encI (mk, ms, me, mt, mo)), aBlk t.g 65 [.slice a5 (its.length + 1) cap5, .slice (some ⟨rc, 0, none⟩) ks.length capc], aRow 105 5 (.slice a5 (its.length + 1) cap5) (I ++ (mk, ms, me, mt, mo) :: J).length ((I ++ (mk, ms, me, mt, mo) :: J).flatMap encI), aRow 59 1 (.slice a8 (ks.length + 1) cap8) (A ++ l :: r :: B).length ((A ++ l :: r :: B).map (fun k => ptr k.g)), aKids (gk + 1) A, aTwo gk l r, aKids (gk + 1) B] := HS7.out.ins (X := [_, _, _]) ho8' hu8 hf8
            have hq1 : Blk w8 t.g 65 [.slice a5 (its.length + 1) cap5, .slice (some ⟨rc, 0, none⟩) ks.length capc] := S8.get (X := [_])
            have hq2 : Blk w8 mb 105 [strV mk, strV ms, strV me, .bool mt, .bool mo] := S8.get (X := [])
            obtain ⟨c0, c1, cf0, cf1⟩ := hq1.two
            obtain ⟨e0, -⟩ := hq2.five
            have HS8 : Hid (Star w1 t.ft w8 [aBlk mb 105 (encI (mk, ms, me, mt, mo)), aBlk t.g 65 [.slice a5 (its.length + 1) cap5, .slice (some ⟨rc, 0, none⟩) ks.length capc], aRow 105 5 (.slice a5 (its.length + 1) cap5) (I ++ (mk, ms, me, mt, mo) :: J).length ((I ++ (mk, ms, me, mt, mo) :: J).flatMap encI), aRow 59 1 (.slice a8 (ks.length + 1) cap8) (A ++ l :: r :: B).length ((A ++ l :: r :: B).map (fun k => ptr k.g)), aKids (gk + 1) A, aTwo gk l r, aKids (gk + 1) B]) := S8
            have hgmb : ¬ t.g = mb := by omega
            have hmbg : ¬ mb = t.g := by omega
            clear hq1 hq2 S8 HS7 ho8 ho8' hu8 hf8 Z Y
            go_wp2_with (go_at_call 27; refine (cmp27 key mk _).mono ?_; rintro e w9 ⟨rfl, hw9⟩; revert hw9)
            intro hw9
            subst hw9
            have S9 := HS8.out.set (X := [_]) (i := 1) (.slice a8 (ks.length + 1) cap8)
            clear c0 c1 cf0 cf1 e0
            generalize w8.setCell ⟨t.g, 1, none⟩ (.slice a8 (ks.length + 1) cap8) = W9 at *
            obtain ⟨hIJ, hI, hIlt, hgt, hks, hA, hB⟩ := HI.out
            have S9' := S9.retell [aBlk t.g 65 [.slice a5 (its.length + 1) cap5, .slice a8 (ks.length + 1) cap8], aRow 105 5 (.slice a5 (its.length + 1) cap5) (I ++ (mk, ms, me, mt, mo) :: J).length ((I ++ (mk, ms, me, mt, mo) :: J).flatMap encI), aRow 59 1 (.slice a8 (ks.length + 1) cap8) (A ++ l :: r :: B).length ((A ++ l :: r :: B).map (fun k => ptr k.g)), aKids (gk + 1) A, aTwo gk l r, aKids (gk + 1) B] (fun q => by show cnt _ q ≤ cnt (aBlk mb 105 (encI (mk, ms, me, mt, mo)) :: _) q; rw [cnt_cons (aBlk mb 105 (encI (mk, ms, me, mt, mo)))]; exact Nat.le_add_left _ _) (fun x hx => S9.all x (List.mem_cons_of_mem _ hx))
            have N1' := HN1.out
            rw [hks] at N1'
            rw [hIJ] at N1'
            obtain ⟨t9, N9, T9, e9⟩ := split_done N1' hs hA HM2.out.fl S9'
            obtain ⟨ha, hn, hlt0⟩ := HFA.out
            have ha9 : Asc t9.fl := by rw [e9]; exact ha
            have hs9 : Sep t9 := T9.sep hs
            have hbw : bvl < w1.heap.size := hbv1.lt
            have hb9 : t9.ft.count bvl = 0 := by have := (T9.fresh bvl).1 hbw; omega
            have hbv9 := hbv1.upd S9.upd hbt
            have hn9 : t9.fl.length ≤ 50000 := by rw [e9]; exact hn
            have hg9 : t9.g = t.g := T9.g
            have HEND : Hid (∀ b t' w', SetOK W9 w' (gk + 1) lo t9 t' key (vs, ve, vt, vo) b → Fin b w') := fun b t' w' H => HWW.out b t' w' ((H.after T9 e9).pre hu1 hlt0)
            have hqb : Blk W9 t.g 65 [.slice a5 (its.length + 1) cap5, .slice a8 (ks.length + 1) cap8] := S9'.get (X := [])
            obtain ⟨c0, c1, cf0, cf1⟩ := hqb.two
            have hN9 : Hid (NT W9 (Below1 W9 (gk + 1)) (gk + 1) lo t9 (.slice a5 (its.length + 1) cap5) (.slice a8 (ks.length + 1) cap8) (I ++ (mk, ms, me, mt, mo) :: J) (A ++ l :: r :: B)) := N9
            have hlen9 : (I ++ (mk, ms, me, mt, mo) :: J).length = its.length + 1 := by rw [hIJ]; simp; omega
            have hklen9 : (A ++ l :: r :: B).length = ks.length + 1 := by rw [hks]; simp; omega
            clear S9 S9' N1' T9 HS8 HN1 hqb HKP HS1
            have hpl : p < (A ++ l :: r :: B).length := by omega
            have hpl1 : p + 1 < (A ++ l :: r :: B).length := by have := HKL.out; omega
            have hpi : p < (I ++ (mk, ms, me, mt, mo) :: J).length := by omega
            have hkl0 : (A ++ l :: r :: B)[p] = l := by
              have h1 : (A ++ l :: r :: B)[p]? = some l := by rw [List.getElem?_append_right (by omega), hA, hI, Nat.sub_self]; rfl
              rw [List.getElem?_eq_getElem hpl] at h1
              exact Option.some.inj h1
            have hkl1 : (A ++ l :: r :: B)[p + 1] = r := by
              have h1 : (A ++ l :: r :: B)[p + 1]? = some r := by rw [List.getElem?_append_right (by omega), hA, hI, Nat.add_sub_cancel_left]; rfl
              rw [List.getElem?_eq_getElem hpl1] at h1
              exact Option.some.inj h1
            obtain ⟨r8, cp8, hv8, -, -, -, -, k0, -⟩ := row_kid hN9.out.krow hpl
            obtain ⟨r8', cp8', hv8', -, -, -, -, k1, -⟩ := row_kid hN9.out.krow hpl1
            rw [hkl0] at k0
            rw [hkl1] at k1
            have ha8 : a8 = some ⟨r8, 0, none⟩ := (Value.slice.inj hv8).1
            have ha8' : a8 = some ⟨r8', 0, none⟩ := (Value.slice.inj hv8').1
            subst ha8
            cases ha8'
            obtain ⟨r5, cp5, hv5, -, -, hown5, -, d0, d1, d2, d3, d4, df⟩ := row_item hN9.out.row hpi
            have ha5 : a5 = some ⟨r5, 0, none⟩ := (Value.slice.inj hv5).1
            subst ha5
            have df1 := df (p * 5 + 1); have df2 := df (p * 5 + 2); have df3 := df (p * 5 + 3); have df4 := df (p * 5 + 4)
            obtain ⟨b0, b1, b2, b3, -⟩ := hbv9.four'
            have hpz1 : (p : Int) < (ks.length : Int) + 1 := by omega
            have hpz2 : (p : Int) + 1 < (ks.length : Int) + 1 := by omega
            have hpz3 : (p : Int) < (its.length : Int) + 1 := by omega
            have hpw : IntKind.i64.wrap ((p : Int) + 1) = (p : Int) + 1 := by rw [IntKind.wrap_i64]; omega
            have hpt : ((p : Int) + 1).toNat = p + 1 := by omega
            have hp0 : (0 : Int) ≤ (p : Int) + 1 := by omega
            have hcmp := cmp3 key mk
            have HC : Hid (Asc t9.fl ∧ t9.fl.length ≤ 50000 ∧ Blk W9 bvl 38 (encK (vs, ve, vt, vo))) := ⟨ha9, hn9, hbv9⟩
            clear hIJ hI hIlt hgt hks hA hB ha hn hlt0 e9 hlen9 hklen9 N9 ha9 hn9 hkl0 hkl1 hv8 hv8' hv5 df d0 hbv9 hg9 X
            rcases hcmp with ⟨hc1, hc2⟩ | ⟨hc1, hc2⟩ | ⟨hc1, hc2⟩
            · rw [hc2]
              have HC1 : Hid (key < mk) := hc1
              clear hc1 hc2
              go_wp2
              go_roundg gk
              case measure => omega
              case rel =>
                obtain ⟨hIJ, hI, hIlt, hgt, hks, hA, hB⟩ := HI.out
                obtain ⟨ha9, hn9, hbv9⟩ := HC.out
                obtain ⟨f1, f2, f3, f4, f5⟩ := child_facts hN9.out hs9 ha9 hA hn9 hb9
                refine ⟨l, 15, rfl, f1, f2, f3, f4, f5, hbv9, fun b t' w' H => ?_⟩
                obtain ⟨t2, H2⟩ := set_child hN9.out hs9 ha9 hA (by simp [hB]) hIlt (fun x hx => by
                  rcases List.mem_cons.1 hx with rfl | hx
                  · exact HC1.out
                  · exact hgt x hx) H
                exact HEND.out b t2 w' H2
            · rw [hc2]
              subst hc1
              clear hc2
              go_wp2
              go_region
              go_wp2
              go_ret
              obtain ⟨hIJ, hI, hIlt, hgt, hks, hA, hB⟩ := HI.out
              obtain ⟨ha9, hn9, hbv9⟩ := HC.out
              obtain ⟨t', ht'⟩ := set_hit (vs, ve, vt, vo) hN9.out hs9 ha9 hown5
              rw [hI] at ht'
              exact ⟨false, rfl, HEND.out false t' _ (ht'.post (Upd.drew _ _))⟩
            · rw [hc2]
              have HC1 : Hid (mk < key) := hc1
              clear hc1 hc2
              go_wp2
              go_roundg gk
              case measure => omega
              case rel =>
                obtain ⟨hIJ, hI, hIlt, hgt, hks, hA, hB⟩ := HI.out
                obtain ⟨ha9, hn9, hbv9⟩ := HC.out
                have N9 := hN9.out
                rw [show I ++ (mk, ms, me, mt, mo) :: J = (I ++ [(mk, ms, me, mt, mo)]) ++ J by simp, show A ++ l :: r :: B = (A ++ [l]) ++ r :: B by simp] at N9
                obtain ⟨f1, f2, f3, f4, f5⟩ := child_facts N9 hs9 ha9 (by simp [hA]) hn9 hb9
                refine ⟨r, 15, rfl, f1, f2, f3, f4, f5, hbv9, fun b t' w' H => ?_⟩
                obtain ⟨t2, H2⟩ := set_child N9 hs9 ha9 (by simp [hA]) hB (fun x hx => by
                  rcases List.mem_append.1 hx with hx | hx
                  · exact hIlt x hx
                  · simp at hx; subst hx; exact HC1.out) hgt H
                exact HEND.out b t2 w' H2)
        · have hz31 : ((itk.length : Int) == 31) = false := by rw [beq_eq_false_iff_ne]; omega
          have Nk' : Hid (NT w1 (Below1 w1 gk) gk 15 k (.slice ak itk.length capk) ck itk ksk) := Nk
          clear h31 Nk
          go_wp2
          go_roundg gk
          case measure => omega
          case rel =>
            obtain ⟨hIJ, hI, hIlt, hgt, hks, hA, hB⟩ := HI.out
            obtain ⟨ha, hn, hlt0⟩ := HFA.out
            subst hIJ
            subst hks
            obtain ⟨f1, f2, f3, f4, f5⟩ := child_facts N1 hs ha hA hn hbt
            refine ⟨k, 15, rfl, f1, f2, f3, f4, f5, hbv1, fun b t' w' H => ?_⟩
            obtain ⟨t2, H2⟩ := set_child N1 hs ha hA hB hIlt hgt H
            exact HWW.out b t2 w' (H2.pre hu1 hlt0)
    · rw [hhit] at X
      have hlt : posL key its < its.length := by rw [hIJ, List.length_append, ← hIJ, hI, List.length_cons]; omega
      generalize hpp : posL key its = p at *
      have HI : Hid (its = I ++ (key, u) :: J' ∧ I.length = p ∧ AllLt key I) := ⟨hIJ, hI, hIlt⟩
      clear hIJ hI hIlt hhit ha hn hpp
      have hpz : (p : Int) < (its.length : Int) := by omega
      go_wp2_with (go_at_call 75; refine X.mono ?_; rintro e w1 ⟨rfl, hu1⟩; revert hu1)
      intro hu1
      have N1 := nt_upd0 HN.out hu1
      obtain ⟨c0, c1, -, -⟩ := N1.blk.two
      obtain ⟨r, cap, rfl, hcap, hcap2, hown, hr, d0, d1, d2, d3, d4, df⟩ := row_item N1.row hlt
      have df1 := df (p * 5 + 1); have df2 := df (p * 5 + 2); have df3 := df (p * 5 + 3); have df4 := df (p * 5 + 4)
      obtain ⟨b0, b1, b2, b3, -⟩ := (hbv.upd hu1 (by simp)).four'
      clear df d0
      go_wp2
      go_region
      go_wp2
      go_ret
      have hlt0 : ∀ k, wr.heap.size ≤ k → t.ft.count k = 0 := tree_lt (tree_iff.2 ⟨_, _, _, _, HN.out⟩)
      obtain ⟨hIJ, hI, -⟩ := HI.out
      have ha' : Asc t.fl := by rw [HN.out.fl]; exact HA.out
      subst hIJ
      subst hI
      obtain ⟨t', ht'⟩ := set_hit (vs, ve, vt, vo) N1 hs ha' hown
      exact ⟨false, rfl, HWW.out false t' _ ((ht'.pre hu1 hlt0).post (Upd.drew _ _))⟩
end Go.Proofs.Qxb6003818a
