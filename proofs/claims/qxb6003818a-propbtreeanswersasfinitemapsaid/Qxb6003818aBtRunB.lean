import Derived.Test.Qxb6003818aBtRunA
namespace Go.Proofs.Qxb6003818a
open Go.ChangeShapes Go.WideShapes Go.ChangeAt Go.RowKit
set_option linter.unusedVariables false
set_option linter.unusedSimpArgs false

set_option maxHeartbeats 8000000 in
set_option maxRecDepth 100000 in
theorem run23_room (a : Option Addr) (c B : Nat) (ops : List Op3) (vals : List KR) (vb n : Nat) (rs : Nat) (hrs : rs ≤ 64) (w : World) (hO : Ops w B a ops) (hB : B ≤ w.heap.size) (hn : n = ops.length) (hn4 : n ≤ 4096) (hv : Blk w vb 38 (vals.flatMap encK)) (hvl : vals.length = n) :
    Calls Try.prog 23 #[.slice a n c, .bool true, .int .i64 (rs : Int), .slice (some ⟨vb, 0, none⟩) n n, .bool false] w fun e w' => e = .returned (.bool true) ∧ Upd w w' [] := by
  obtain ⟨i9, hi9, hz9, hs9, hb9⟩ := info_parts info9
  obtain ⟨i3, hi3, hz3, hs3, hb3⟩ := info_parts info3
  obtain ⟨i5, hi5, hz5', hs5, hb5⟩ := info_parts info105
  obtain ⟨W, hW⟩ : ∃ W, W = (w.alloc (.cells #[.pointer none, .int .i64 0] 61)).alloc (.cells #[.slice none 0 0, .slice none 0 0] 65) := ⟨_, rfl⟩
  have hu : Upd w W [] := by rw [hW]; exact (Upd.alloc w _ _).trans (Upd.alloc _ _ _) (fun _ _ h => h)
  have htb : Blk W w.heap.size 61 [.pointer none, .int .i64 0] := by rw [hW]; exact (blk_new w _ _).upd (Upd.alloc _ _ []) (by simp)
  have hnb : Blk W (w.heap.size + 1) 65 [.slice none 0 0, .slice none 0 0] := by
    have := blk_new (w.alloc (.cells #[.pointer none, .int .i64 0] 61)) [.slice none 0 0, .slice none 0 0] 65
    rw [size_alloc'] at this
    rw [hW]; exact this
  have hsz : W.heap.size = w.heap.size + 2 := by rw [hW, size_alloc', size_alloc']
  have HH : Hid (Ops w B a ops ∧ B ≤ w.heap.size ∧ n = ops.length ∧ Blk w vb 38 (vals.flatMap encK) ∧ vals.length = n ∧ Upd w W [] ∧ Blk W w.heap.size 61 [.pointer none, .int .i64 0] ∧ Blk W (w.heap.size + 1) 65 [.slice none 0 0, .slice none 0 0] ∧ W.heap.size = w.heap.size + 2) := ⟨hO, hB, hn, hv, hvl, hu, htb, hnb, hsz⟩
  clear hO hB hn hv hvl hu htb hnb hsz
  subst hW
  go_enter Try.func23, Try.ntmps23
  go_wp2_with (at_make; refine wpList_make_full _ rfl _ _ 62 rfl 0 105 i5 _ 5 Try.underlying62 hi5 hz5' hs5 _ _ _ _ rs rfl rfl rfl rfl (by rw [hb5]; omega) (by unfold maxLen; omega) (Nat.zero_le _) ?_; intro w0 hown0 hg0; revert hg0)
  intro hg0
  generalize hW : ((w.alloc (.cells #[.pointer none, .int .i64 0] 61)).alloc (.cells #[.slice none 0 0, .slice none 0 0] 65)) = W at *
  have HG0 : Hid (W.grownBy w0 none ∧ w0.ownsRow 0 105 5 (.slice (some ⟨W.heap.size, 0, none⟩) rs rs) rs _) := ⟨hg0, hown0⟩
  have hszW := HH.out.2.2.2.2.2.2.2.2
  have X : Calls Try.prog 30 #[ptr w.heap.size, ptr (w.heap.size + 1), .slice (some ⟨w.heap.size + 1 + 1, 0, none⟩) rs rs] w0 fun e w' => e = .returned (.tuple #[]) ∧ MapAt w' w.heap.size [] [w.heap.size + 1, w.heap.size + 1 + 1] ∧ Upd w0 w' [w.heap.size, w.heap.size + 1] := by
    obtain ⟨hO, hB, hn, hv, hvl, hu, htb, hnb, hsz⟩ := HH.out
    have u0 : Upd W w0 [] := Upd.of_grown hg0
    rcases owns_cases hown0 with ⟨h1, _⟩ | ⟨g, cap, S, h1, h2, _, _, h5, _⟩
    · cases h1
    · cases h1
      rw [hsz] at h2
      exact room30 w.heap.size (w.heap.size + 1) (w.heap.size + 1 + 1) rs _ w0 (htb.upd u0 (by simp)) (hnb.upd u0 (by simp)) h2 h5 hrs (by omega) (by omega) (by omega)
  clear hg0 hown0 hW hszW
  go_wp2_with (go_at_call 30; refine X.mono ?_; rintro e w0' ⟨rfl, hmap, hu0⟩; revert hu0)
  intro hu0
  have HM0 : Hid (MapAt w0' w.heap.size [] [w.heap.size + 1, w.heap.size + 1 + 1] ∧ Upd w0 w0' [w.heap.size, w.heap.size + 1]) := ⟨hmap, hu0⟩
  clear hmap hu0 X
  go_wp2_with (at_make; refine wpList_make_own _ rfl _ _ 68 rfl 0 9 i9 _ 1 Try.underlying68 hi9 hz9 hs9 _ _ _ n rfl rfl rfl (by rw [hb9]; omega) (by unfold maxLen; omega) (Nat.zero_le _) ?_; intro w1 hown1 hg1; revert hg1)
  intro hg1
  have HG1 : Hid (w0'.grownBy w1 none ∧ w1.ownsRow 0 9 1 (.slice (some ⟨w0'.heap.size, 0, none⟩) 0 n) 0 []) := ⟨hg1, hown1⟩
  clear hg1 hown1
  go_wp2_with (at_make; refine wpList_make_own _ rfl _ _ 69 rfl 0 3 i3 _ 1 Try.underlying69 hi3 hz3 hs3 _ _ _ n rfl rfl rfl (by rw [hb3]; omega) (by unfold maxLen; omega) (Nat.zero_le _) ?_; intro w2 hown2 hg2; revert hg2)
  intro hg2
  obtain ⟨hO, hB, hn, hv, hvl, hu, htb, hnb, hsz⟩ := HH.out
  obtain ⟨hmap, hu0⟩ := HM0.out
  obtain ⟨hg0, hown0⟩ := HG0.out
  obtain ⟨hg1, hown1⟩ := HG1.out
  have u0 : Upd W w0 [] := Upd.of_grown hg0
  have u1 : Upd w0' w1 [] := Upd.of_grown hg1
  have u2 : Upd w1 w2 [] := Upd.of_grown hg2
  obtain ⟨S1, hk1, hk2⟩ := made_blk hown1
  obtain ⟨S2, ha1, ha2⟩ := made_blk hown2
  have hkl := hk1.lt
  have hvlt := hv.lt
  have hz0 : w.heap.size < w0'.heap.size := by obtain ⟨_, hb, _⟩ := hmap.root; exact hb.lt
  have hua : Upd w w0' [] := (hu.trans u0 (fun _ _ h => h)).trans hu0 (fun k hk _ => List.count_eq_zero.2 (by simp; omega))
  have hu2 : Upd w w2 [] := hua.trans (u1.trans u2 (fun _ _ h => h)) (fun _ _ h => h)
  have hm2 := (hmap.upd0 u1).upd0 u2
  have ST : RunAt w B a ops vals w.heap.size w0'.heap.size w1.heap.size vb n 0 0 w2 := by
    refine ⟨[], [], [w.heap.size + 1, w.heap.size + 1 + 1], rfl, Nat.le_refl _, ⟨⟨S1, by simpa using hk1.upd u2 (by simp), by simpa using hk2⟩, ⟨S2, by simpa using ha1, by simpa using ha2⟩, hv.upd hu2 (by simp), hO.upd hu2 (fun _ _ => by simp), hu2⟩, hm2, Model.start vals, ⟨hmap.lt _ (Nat.le_refl _), (hmap.upd0 u1).lt _ (Nat.le_refl _), fun q hq => List.count_eq_zero.2 (by simp; omega)⟩⟩
  have PL : Places w B w.heap.size w0'.heap.size w1.heap.size vb := ⟨hB, Nat.le_refl _, by omega, by omega, hvlt, by omega, by omega, by omega⟩
  have HPL : Hid (Places w B w.heap.size w0'.heap.size w1.heap.size vb ∧ n = ops.length ∧ vals.length = n) := ⟨PL, hn, hvl⟩
  have HST : Hid (RunAt w B a ops vals w.heap.size w0'.heap.size w1.heap.size vb n 0 0 w2) := ST
  clear hO hB hn hv hvl hu htb hnb hsz hg0 hown0 hg1 hown1 u0 u1 u2 hk1 hk2 ha1 ha2 hkl hvlt hz0 hua hu2 hm2 ST PL hg2 hown2 hmap hu0 HG0 HG1 HH HM0
  generalize w1.heap.size = ab at *
  go_wp2
  generalize w0'.heap.size = kb at *
  generalize w.heap.size = tb at *
  go_loopg [14, 15, 16] n (fun kx s14 s15 s16 wr => ∃ i m : Nat, s14 = .slice (some ⟨kb, 0, none⟩) m n ∧ s15 = .slice (some ⟨ab, 0, none⟩) m n ∧ s16 = .int .i64 i ∧ i ≤ n ∧ n - i ≤ kx ∧ RunAt w B a ops vals tb kb ab vb n i m wr)
  case atStart => exact ⟨0, 0, rfl, rfl, rfl, Nat.zero_le _, by omega, HST.out⟩
  case round =>
    clear HST
    obtain ⟨i, m, rfl, rfl, rfl, hin, hkx, L, fl, ft, hm, hmi, ME, MA, MO, AW⟩ := hrel
    obtain ⟨PL, hnn, hvl⟩ := HPL.out
    by_cases hlt : i < n
    · have hio : i < ops.length := by rw [← hnn]; exact hlt
      obtain ⟨b0, off, ha, -, o0, o1, o2⟩ := ME.ops i hio
      subst ha
      obtain ⟨o, ho⟩ : ∃ o, o = ops[i] := ⟨_, rfl⟩
      rw [← ho] at o0 o1 o2
      obtain ⟨ok, okey, oval⟩ := o
      simp only at o0 o1 o2
      have hiz : (i : Int) < (n : Int) := by omega
      have hu1 := Upd.alloc wr (.cells #[.int .i64 ok, strV okey, .int .i64 oval] 47) []
      obtain ⟨S1, hk1, hk2⟩ := (ME.grow hu1).keys
      have hk1' : Blk (wr.alloc (.cells #[.int .i64 ok, strV okey, .int .i64 oval] 47)) kb 9 ((L.map Prod.fst).map strV ++ S1) := by rw [List.map_map]; exact hk1
      have X := find32 kb m n (L.map Prod.fst) S1 okey _ hk1' (by rw [hm, List.length_map]) (by omega)
      have hob := blk_new wr [.int .i64 ok, strV okey, .int .i64 oval] 47
      have hne : tb ≠ wr.heap.size := by obtain ⟨_, hb, _⟩ := MA.root; have := hb.lt; omega
      have HALL : Hid (m = L.length ∧ m ≤ i ∧ Mem w (wr.alloc (.cells #[.int .i64 ok, strV okey, .int .i64 oval] 47)) B (some ⟨b0, off, none⟩) ops vals kb ab vb n L ∧ MapAt (wr.alloc (.cells #[.int .i64 ok, strV okey, .int .i64 oval] 47)) tb fl ft ∧ Model fl L vals ∧ Away w ft kb ab ∧ Places w B tb kb ab vb ∧ n = ops.length ∧ vals.length = n ∧ i < n ∧ Blk (wr.alloc (.cells #[.int .i64 ok, strV okey, .int .i64 oval] 47)) wr.heap.size 47 [.int .i64 ok, strV okey, .int .i64 oval] ∧ ft.count wr.heap.size = 0 ∧ tb ≠ wr.heap.size) := ⟨hm, hmi, ME.grow hu1, MA.upd0 hu1, MO, AW, PL, hnn, hvl, hlt, hob, MA.lt _ (Nat.le_refl _), hne⟩
      clear ME MA MO AW PL hnn hvl hio ho hu1 hk1 hk1' hk2 hob hm hne
      go_wp2_with (go_at_call 32; refine X.mono ?_; rintro e w1 ⟨j, ⟨rfl, hw1⟩, hat⟩; revert hat)
      intro hat
      subst hw1
      generalize wr.alloc (.cells #[.int .i64 ok, strV okey, .int .i64 oval] 47) = W1 at *
      generalize wr.heap.size = ob at *
      obtain ⟨hm, hmi, ME, MA, MO, AW, PL, hnn, hvl, hlt, hob⟩ := HALL.out
      have hc0 := hob.1.cell (i := 0) (by simp)
      have hc1 := hob.1.cell (i := 1) (by simp)
      simp only [List.getElem_cons_zero, List.getElem_cons_succ] at hc0 hc1
      have HAT : Hid (At (L.map Prod.fst) okey j) := hat
      have hml : fl.length = m := by rw [MO.len, hm]
      clear X hat o0 o1 o2 hm hmi ME MA MO AW PL hnn hvl hob
      by_cases hk0 : ok = 0
      · subst hk0
        have hin0 : i < vals.length := by rw [HALL.out.2.2.2.2.2.2.2.2.1]; exact HALL.out.2.2.2.2.2.2.2.2.2.1
        obtain ⟨vv, hvv⟩ : ∃ vv, vv = vals[i] := ⟨_, rfl⟩
        obtain ⟨v0, v1, v2, v3⟩ := blk_kr HALL.out.2.2.1.vals hin0
        rw [← hvv] at v0 v1 v2 v3
        have hvd : vals.getD i ([], [], false, false) = vv := by rw [List.getD_eq_getElem?_getD, List.getElem?_eq_getElem hin0, hvv]; rfl
        obtain ⟨vs, ve, vt, vo⟩ := vv
        simp only at v0 v1 v2 v3
        have Y := zzset tb okey (vs, ve, vt, vo) W1.drew fl ft (HALL.out.2.2.2.1.upd0 (Upd.drew W1 [])) (by omega)
        have HV : Hid (i < vals.length ∧ vals.getD i ([], [], false, false) = (vs, ve, vt, vo)) := ⟨hin0, hvd⟩
        clear hvv hvd hin0 hml
        go_wp2
        apply wp_mid0 (R := fun w' => ∃ ft', MapAt w' tb (putL okey (vs, ve, vt, vo) fl) ft' ∧ MapTurns W1.drew w' tb ft ft')
        · go_region_with (first | (go_at_call 33; refine Y.mono ?_; rintro e w2 ⟨rfl, ft', m1, m2⟩))
          all_goals exact ⟨⟨ft', m1, m2⟩, rfl⟩
        · intro w2 hw2
          obtain ⟨ft', m1, m2⟩ := hw2
          obtain ⟨hm, hmi, ME, MA, MO, AW, PL, hnn, hvl, hlt, hob⟩ := HALL.out
          obtain ⟨hin0, hvd⟩ := HV.out
          obtain ⟨ME2, AW2⟩ := (ME.grow (Upd.drew W1 [])).turn PL AW m2
          obtain ⟨S1, k1, k2⟩ := ME2.keys
          obtain ⟨S2, a1, a2⟩ := ME2.ats
          rcases at_nodup HAT.out with ⟨hj, hno⟩ | ⟨j0, tt, X, Y', hj, hL, hX⟩
          · subst hj
            have hob2 : Blk w2 ob 47 [.int .i64 0, strV okey, .int .i64 oval] := hob.1.upd ((Upd.drew W1 (tb :: ft)).trans m2.upd (fun _ _ h => h)) (by
              have e : (tb == ob) = false := by rw [beq_eq_false_iff_ne]; exact hob.2.2
              rw [List.count_cons, hob.2.1, e]; simp)
            have hcc := hob2.cell (i := 1) (by simp)
            simp only [List.getElem_cons_zero, List.getElem_cons_succ] at hcc
            have hobl := hob2.lt
            have hmn : m < n := by omega
            obtain ⟨W3, hW3⟩ : ∃ W3, W3 = w2.alloc (.cells #[strV okey] 9) := ⟨_, rfl⟩
            have hu3 : Upd w2 W3 [] := by rw [hW3]; exact Upd.alloc _ _ _
            have hvb : Blk W3 w2.heap.size 9 [strV okey] := by rw [hW3]; exact blk_new _ _ _
            have M3 := ME2.grow hu3
            obtain ⟨T1, kk1, kk2⟩ := M3.keys
            obtain ⟨W4, hW4⟩ : ∃ W4, W4 = W3.setCells kb m [strV okey] := ⟨_, rfl⟩
            have hrun1 : (Builtin.append_ #[68, 68] 68 #[.slice (some ⟨kb, 0, none⟩) m n, .slice (some ⟨w2.heap.size, 0, none⟩) 1 1]).run Try.prog W3 = .ok (.slice (some ⟨kb, 0, none⟩) (m + 1) n) W4 := by
              have := run_append_room_cells (P := Try.prog) W3 68 68 9 i9 Try.underlying68 hi9 kb 0 m n ⟨w2.heap.size, 0, none⟩ 1 1 [strV okey] (by rw [hs9]; rfl) (fun j u hj => by
                rw [Addr.add_lit, Nat.zero_add]
                obtain ⟨q1, q2⟩ := List.getElem?_eq_some_iff.1 hj
                have := hvb.cell q1
                rw [q2] at this
                exact this) (by intro u hu; simp at hu; subst hu; rfl) (by omega) (fun j hj => by simp at hj; exact blk_some kk1 (by rw [hs9]; omega)) (fun j hj => kk1.free _)
              rw [hs9, Nat.mul_one, Nat.zero_add] at this
              rw [hW4]; exact this
            obtain ⟨W5, hW5⟩ : ∃ W5, W5 = W4.alloc (.cells #[.int .i64 (i : Int)] 3) := ⟨_, rfl⟩
            have hu5 : Upd W4 W5 [] := by rw [hW5]; exact Upd.alloc _ _ _
            have hvb5 : Blk W5 W4.heap.size 3 [.int .i64 (i : Int)] := by rw [hW5]; exact blk_new _ _ _
            obtain ⟨M6, u4, u6⟩ := M3.push (i := i) PL hm hmn hW4 hu5
            obtain ⟨T2, aa1, aa2⟩ := M3.ats
            have aa5 := (aa1.upd u4 (by rw [count_one, if_neg PL.ka])).upd hu5 (by simp)
            obtain ⟨W6, hW6⟩ : ∃ W6, W6 = W5.setCells ab m [.int .i64 (i : Int)] := ⟨_, rfl⟩
            have hrun2 : (Builtin.append_ #[69, 69] 69 #[.slice (some ⟨ab, 0, none⟩) m n, .slice (some ⟨W4.heap.size, 0, none⟩) 1 1]).run Try.prog W5 = .ok (.slice (some ⟨ab, 0, none⟩) (m + 1) n) W6 := by
              have := run_append_room_cells (P := Try.prog) W5 69 69 3 i3 Try.underlying69 hi3 ab 0 m n ⟨W4.heap.size, 0, none⟩ 1 1 [.int .i64 (i : Int)] (by rw [hs3]; rfl) (fun j u hj => by
                rw [Addr.add_lit, Nat.zero_add]
                obtain ⟨q1, q2⟩ := List.getElem?_eq_some_iff.1 hj
                have := hvb5.cell q1
                rw [q2] at this
                exact this) (by intro u hu; simp at hu; subst hu; rfl) (by omega) (fun j hj => by simp at hj; exact blk_some aa5 (by rw [hs3]; omega)) (fun j hj => aa5.free _)
              rw [hs3, Nat.mul_one, Nat.zero_add] at this
              rw [hW6]; exact this
            rw [← hW6] at M6 u6
            have mp := other_map ((other_map (m1.upd0 hu3) u4 AW2.k PL.tk).upd0 hu5) u6 AW2.a PL.ta
            have MO2 : Model (putL okey (vs, ve, vt, vo) fl) (L ++ [(okey, i)]) vals := by rw [← hvd]; exact MO.setNew hno hin0
            have HNEXT : Hid (RunAt w B (some ⟨b0, off, none⟩) ops vals tb kb ab vb n (i + 1) (m + 1) W6) := ⟨_, _, ft', by rw [hm]; simp, by omega, M6, mp, MO2, AW2⟩
            clear hm hmi ME MA MO AW PL hnn hvl hob ME2 AW2 m1 m2 Y HAT HALL k1 k2 a1 a2 hvd hin0 HV v0 v1 v2 v3 hc0 hc1 hob2 hu3 hvb M3 kk1 kk2 hW4 hu5 hvb5 M6 u4 u6 aa1 aa2 aa5 hW6 mp MO2 hno
            subst hW5
            subst hW3
            go_wp2_with (first | (at_builtin; refine Lib.wpList_append_run _ rfl _ _ _ _ rfl _ _ rfl rfl _ _ hrun1 ?_) | (at_builtin; refine Lib.wpList_append_run _ rfl _ _ _ _ rfl _ _ rfl rfl _ _ hrun2 ?_))
            go_roundg (n - (i + 1))
            case measure => omega
            case rel => exact ⟨i + 1, m + 1, rfl, rfl, by simp, by omega, Nat.le_refl _, HNEXT.out⟩
          · subst hj
            have hjm : j0 < L.length := by rw [hL]; simp; omega
            have e0 : L[j0].1 = okey := by
              have h2 : L[j0]? = some (okey, tt) := by
                have : (X ++ (okey, tt) :: Y')[j0]? = some (okey, tt) := by rw [← hX]; simp
                rw [← hL] at this
                exact this
              rw [List.getElem?_eq_getElem hjm] at h2
              rw [Option.some.inj h2]
            have ms := ME2.setA PL (j := j0) (t := i) hjm
            rw [e0] at ms
            have e1 : L.set j0 (okey, i) = X ++ (okey, i) :: Y' := by rw [hL, List.set_append_right _ _ (by omega), hX, Nat.sub_self, List.set_cons_zero]
            rw [e1] at ms
            have mp2 := other_map m1 (Upd.setCell w2 ab j0 (.int .i64 (i : Int)) a1 [ab] (by simp)) AW2.a PL.ta
            have MO2 : Model (putL okey (vs, ve, vt, vo) fl) (X ++ (okey, i) :: Y') vals := by
              have MO' := MO
              rw [hL] at MO'
              rw [← hvd]
              exact MO'.setOld MA.asc hin0
            have HNEXT : Hid (RunAt w B (some ⟨b0, off, none⟩) ops vals tb kb ab vb n (i + 1) m (w2.setCell ⟨ab, j0, none⟩ (.int .i64 (i : Int)))) := ⟨_, _, ft', by rw [hm, hL]; simp, by omega, ms, mp2, MO2, AW2⟩
            obtain ⟨aj, haj⟩ := Option.isSome_iff_exists.1 (blk_some a1 (i := j0) (by rw [List.length_append, List.length_map]; omega))
            have af := a1.free j0
            have hz1 : (j0 : Int) < (m : Int) := by omega
            have hz7 : (0 : Int) ≤ (j0 : Int) := by omega
            clear hm hmi ME MA MO AW PL hnn hvl hob ME2 AW2 m1 m2 Y HAT HALL k1 k2 a1 a2 ms e0 e1 mp2 MO2 hL hX hvd hin0 HV v0 v1 v2 v3 hc0 hc1
            go_wp2
            go_roundg (n - (i + 1))
            case measure => omega
            case rel => exact ⟨i + 1, m, rfl, rfl, by simp, by omega, Nat.le_refl _, HNEXT.out⟩
      · by_cases hk1 : ok = 1
        · subst hk1
          have Y := zzdelete tb okey W1 fl ft HALL.out.2.2.2.1 (by omega)
          rcases at_nodup HAT.out with ⟨hj, hno⟩ | ⟨j0, tt, X, Y', hj, hL, hX⟩
          · subst hj
            have hdn := HALL.out.2.2.2.2.1.delNone hno
            rw [hdn.2, hdn.1] at Y
            clear hdn hno hml
            go_wp2_with (go_at_call 34; refine Y.mono ?_; rintro e w2 ⟨rfl, ft', m1, m2⟩; revert m2)
            intro m2
            obtain ⟨hm, hmi, ME, MA, MO, AW, PL, hnn, hvl, hlt, hob⟩ := HALL.out
            obtain ⟨ME2, AW2⟩ := ME.turn PL AW m2
            have HNEXT : Hid (RunAt w B (some ⟨b0, off, none⟩) ops vals tb kb ab vb n (i + 1) m w2) := ⟨L, fl, ft', hm, by omega, ME2, m1, MO, AW2⟩
            clear hm hmi ME MA MO AW PL hnn hvl hob ME2 AW2 m1 m2 Y HAT HALL
            go_wp2
            go_roundg (n - (i + 1))
            case measure => omega
            case rel => exact ⟨i + 1, m, rfl, rfl, by simp, by omega, Nat.le_refl _, HNEXT.out⟩
          · subst hj
            have hmem : (okey, tt) ∈ L := by rw [hL]; simp
            have hhas : hasL okey fl = true := HALL.out.2.2.2.2.1.has.2 (List.mem_map.2 ⟨_, hmem, rfl⟩)
            rw [hhas] at Y
            have hjm : j0 < L.length := by rw [hL]; simp; omega
            obtain ⟨q, hq⟩ : ∃ q, m = q + 1 := ⟨m - 1, by have := HALL.out.1; omega⟩
            subst hq
            have hz7 : (0 : Int) ≤ (j0 : Int) := by omega
            clear hml
            go_wp2_with (go_at_call 34; refine Y.mono ?_; rintro e w2 ⟨rfl, ft', m1, m2⟩; revert m2)
            intro m2
            obtain ⟨hm, hmi, ME, MA, MO, AW, PL, hnn, hvl, hlt, hob⟩ := HALL.out
            obtain ⟨ME2, AW2⟩ := ME.turn PL AW m2
            obtain ⟨g, hg⟩ : ∃ g, g = L.getLast (List.ne_nil_of_length_pos (by omega)) := ⟨_, rfl⟩
            have hgq : L[q]'(by omega) = g := by rw [hg, List.getLast_eq_getElem]; congr 1; omega
            obtain ⟨S1, k1, k2⟩ := ME2.keys
            obtain ⟨S2, a1, a2⟩ := ME2.ats
            have kc : w2.cell? ⟨kb, q, none⟩ = some (strV g.1) := by
              have h1 := k1.cell (i := q) (by rw [List.length_append, List.length_map]; omega)
              rw [List.getElem_append_left (by rw [List.length_map]; omega), List.getElem_map, hgq] at h1
              exact h1
            have acx : w2.cell? ⟨ab, q, none⟩ = some (.int .i64 (g.2 : Int)) := by
              have h1 := a1.cell (i := q) (by rw [List.length_append, List.length_map]; omega)
              rw [List.getElem_append_left (by rw [List.length_map]; omega), List.getElem_map, hgq] at h1
              exact h1
            obtain ⟨kj, hkj⟩ := Option.isSome_iff_exists.1 (blk_some k1 (i := j0) (by rw [List.length_append, List.length_map]; omega))
            obtain ⟨aj, haj⟩ := Option.isSome_iff_exists.1 (blk_some a1 (i := j0) (by rw [List.length_append, List.length_map]; omega))
            have kf := k1.free j0
            have af := a1.free j0
            have hkab : ¬ kb = ab := PL.ka
            have hkab' : ¬ ab = kb := fun e => PL.ka e.symm
            have ms := ME2.swap PL hjm (g := g)
            have mp1 := other_map m1 (Upd.setCell w2 kb j0 (strV g.1) k1 [kb] (by simp)) AW2.k PL.tk
            have a1' := a1.upd (Upd.setCell w2 kb j0 (strV g.1) k1 [kb] (by simp)) (by rw [count_one, if_neg hkab])
            have mp2 := other_map mp1 (Upd.setCell _ ab j0 (.int .i64 (g.2 : Int)) a1' [ab] (by simp)) AW2.a PL.ta
            obtain ⟨X2, Y2, p2, e1, e2, e3⟩ := swap_perm L j0 hjm
            have hp2 : p2 = (okey, tt) := by
              have h1 : L[j0]? = some p2 := by
                have : (X2 ++ p2 :: Y2)[j0]? = some p2 := by rw [← e2]; simp
                rw [← e1] at this
                exact this
              have h2 : L[j0]? = some (okey, tt) := by
                have : (X ++ (okey, tt) :: Y')[j0]? = some (okey, tt) := by rw [← hX]; simp
                rw [← hL] at this
                exact this
              rw [h1] at h2
              exact Option.some.inj h2
            rw [← hg] at e3
            have MO2 : Model (delL okey fl) (L.set j0 g).dropLast vals := by
              have MO' := MO
              rw [e1, hp2] at MO'
              exact MO'.del MA.asc e3
            have HNEXT : Hid (RunAt w B (some ⟨b0, off, none⟩) ops vals tb kb ab vb n (i + 1) q ((w2.setCell ⟨kb, j0, none⟩ (strV g.1)).setCell ⟨ab, j0, none⟩ (.int .i64 (g.2 : Int)))) := ⟨(L.set j0 g).dropLast, delL okey fl, ft', by rw [List.length_dropLast, List.length_set]; omega, by omega, ms, mp2, MO2, AW2⟩
            have hz1 : (j0 : Int) < (q : Int) + 1 := by rw [← hm] at hjm; omega
            have hz2 : (q : Int) + 1 - 1 = (q : Int) := by omega
            have hz3 : IntKind.i64.wrap (q : Int) = q := by rw [IntKind.wrap_i64]; omega
            have hz4 : (q : Int) < (q : Int) + 1 := by omega
            have hz5 : q ≤ n := by omega
            have hz6 : (q : Int) ≤ (n : Int) := by omega
            clear hm hmi ME MA MO AW PL hnn hvl hob ME2 AW2 m1 m2 Y HAT HALL hg hgq k1 k2 a1 a2 ms mp1 a1' mp2 e1 e2 e3 hp2 MO2 hmem hhas hL hX
            go_wp2
            go_roundg (n - (i + 1))
            case measure => omega
            case rel => exact ⟨i + 1, q, rfl, rfl, by simp, by omega, Nat.le_refl _, HNEXT.out⟩
        · by_cases hk2 : ok = 2
          · subst hk2
            have Y := zzget tb okey W1 fl ft HALL.out.2.2.2.1 (by omega)
            go_wp2_with (go_at_call 35; refine Y.mono ?_; rintro e w2 ⟨v, b, rfl, hu2, hg⟩; revert hg)
            intro hg
            obtain ⟨vs, ve, vt, vo⟩ := v
            obtain ⟨hm, hmi, ME, MA, MO, AW, PL, hnn, hvl, hlt, hob⟩ := HALL.out
            have hu3 := Upd.alloc w2 (.cells #[strV vs, strV ve, .bool vt, .bool vo] 38) []
            have hu4 := hu2.trans hu3 (fun _ _ h => h)
            have HNEXT : Hid (∀ nq, RunAt w B (some ⟨b0, off, none⟩) ops vals tb kb ab vb n (i + 1) m ((w2.alloc (.cells #[strV vs, strV ve, .bool vt, .bool vo] 38)).drewN nq)) := fun nq =>
              ⟨L, fl, ft, hm, by omega, ME.grow (hu4.trans (Upd.drewN _ nq []) (fun _ _ h => h)), MA.upd0 (hu4.trans (Upd.drewN _ nq []) (fun _ _ h => h)), MO, AW⟩
            have hbx := blk_new w2 [strV vs, strV ve, .bool vt, .bool vo] 38
            obtain ⟨x0, x1, x2, x3, -⟩ := hbx.four'
            rcases at_nodup HAT.out with ⟨hj, hno⟩ | ⟨j0, tt, X, Y', hj, hL, hX⟩
            · subst hj
              have hbf : b = false := hg.no (fun u hu => hno (MO.has.1 (hasL_iff.2 ⟨u, hu⟩)))
              subst hbf
              clear hm hmi ME MA MO AW PL hnn hvl hob hg hu2 hu3 hu4 hno hbx Y HAT HALL hml
              go_wp2
              go_quiet (fail)
              go_wp2
              go_roundg (n - (i + 1))
              case measure => omega
              case rel => exact ⟨i + 1, m, rfl, rfl, by simp, by omega, Nat.le_refl _, HNEXT.out _⟩
            · subst hj
              have hmem : (okey, tt) ∈ L := by rw [hL]; simp
              have htt := MO.lt _ hmem
              have hv := hg.yes _ (MO.mem hmem)
              obtain ⟨hbt, hve⟩ := hv
              subst hbt
              have hjm : j0 < m := by rw [hm, hL]; simp; omega
              obtain ⟨S2, ha1, ha2⟩ := (ME.grow hu4).ats
              have hac : (w2.alloc (.cells #[strV vs, strV ve, .bool vt, .bool vo] 38)).cell? ⟨ab, j0, none⟩ = some (.int .i64 (tt : Int)) := by
                have h1 := ha1.cell (i := j0) (by rw [List.length_append, List.length_map, ← hm]; omega)
                rw [List.getElem_append_left (by rw [List.length_map, ← hm]; exact hjm), List.getElem_map] at h1
                rw [h1]
                have : L[j0]'(by omega) = (okey, tt) := by
                  have h2 : L[j0]? = some (okey, tt) := by rw [hL, ← hX]; simp
                  rw [List.getElem?_eq_getElem (by omega)] at h2
                  exact Option.some.inj h2
                rw [this]
              have hvg : vals[tt]'htt = (vs, ve, vt, vo) := by
                rw [hve]
                show _ = vals.getD tt _
                rw [List.getD_eq_getElem?_getD, List.getElem?_eq_getElem htt]; rfl
              obtain ⟨v0, v1, v2, v3⟩ := blk_kr (ME.grow hu4).vals htt
              rw [hvg] at v0 v1 v2 v3
              simp only at v0 v1 v2 v3
              have hz5 : (j0 : Int) < (m : Int) := by omega
              have hz6 : (tt : Int) < (n : Int) := by omega
              have hz7 : (0 : Int) ≤ (j0 : Int) := by omega
              clear hm hmi ME MA MO AW PL hnn hvl hob hg hu2 hu3 hu4 hbx Y HAT HALL hml hL hX hmem htt hve ha1 ha2 hvg
              go_wp2
              go_quiet (fail)
              go_wp2
              go_roundg (n - (i + 1))
              case measure => omega
              case rel => exact ⟨i + 1, m, rfl, rfl, by simp, by omega, Nat.le_refl _, HNEXT.out _⟩
          · have hz0 : ((ok : Int) == 0) = false := by rw [beq_eq_false_iff_ne]; exact hk0
            have hz1 : ((ok : Int) == 1) = false := by rw [beq_eq_false_iff_ne]; exact hk1
            have hz2 : ((ok : Int) == 2) = false := by rw [beq_eq_false_iff_ne]; exact hk2
            have Y := zzlen tb W1 fl ft HALL.out.2.2.2.1
            rw [hml] at Y
            clear hml hk0 hk1 hk2
            go_wp2_with (go_at_call 36; refine Y.mono ?_; rintro e w2 ⟨rfl, hw2⟩; rw [hw2])
            go_roundg (n - (i + 1))
            case measure => omega
            case rel =>
              obtain ⟨hm, hmi, ME, MA, MO, AW, PL, hnn, hvl, hlt, hob⟩ := HALL.out
              exact ⟨i + 1, m, rfl, rfl, by simp, by omega, Nat.le_refl _, L, fl, ft, hm, by omega, ME, MA, MO, AW⟩
    · have hie : i = n := by omega
      subst hie
      have Y := zzlen tb wr fl ft MA
      rw [MO.len, ← hm] at Y
      have HST2 : Hid (RunAt w B a ops vals tb kb ab vb i i m wr) := ⟨L, fl, ft, hm, hmi, ME, MA, MO, AW⟩
      have hni : ¬ (i : Int) < (i : Int) := by omega
      clear hm hmi ME MA MO AW PL hnn hvl hlt hin hkx
      go_wp2_with (go_at_call 36; refine Y.mono ?_; rintro e w2 ⟨rfl, hw2⟩; rw [hw2])
      clear Y
      go_loopg [23] i (fun kx s23 wr2 => ∃ i2 : Nat, s23 = .int .i64 i2 ∧ i2 ≤ i ∧ i - i2 ≤ kx ∧ RunAt w B a ops vals tb kb ab vb i i m wr2)
      case atStart => exact ⟨0, rfl, Nat.zero_le _, by omega, HST2.out⟩
      case round =>
        clear HST2
        obtain ⟨i2, rfl, hin, hkx, L, fl, ft, hm, hmi, ME, MA, MO, AW⟩ := hrel
        obtain ⟨PL, hnn, hvl⟩ := HPL.out
        by_cases hlt : i2 < i
        · have hio : i2 < ops.length := by rw [← hnn]; exact hlt
          obtain ⟨b0, off, ha, -, o0, o1, o2⟩ := ME.ops i2 hio
          subst ha
          obtain ⟨o, ho⟩ : ∃ o, o = ops[i2] := ⟨_, rfl⟩
          rw [← ho] at o0 o1 o2
          obtain ⟨ok, okey, oval⟩ := o
          simp only at o0 o1 o2
          have hiz : (i2 : Int) < (i : Int) := by omega
          obtain ⟨S1, hk1, hk2⟩ := ME.keys
          have hk1' : Blk wr kb 9 ((L.map Prod.fst).map strV ++ S1) := by rw [List.map_map]; exact hk1
          have X := find32 kb m i (L.map Prod.fst) S1 okey _ hk1' (by rw [hm, List.length_map]) (by omega)
          have Y := zzget tb okey wr fl ft MA (by rw [MO.len, ← hm]; omega)
          have HALL : Hid (m = L.length ∧ m ≤ i ∧ Mem w wr B (some ⟨b0, off, none⟩) ops vals kb ab vb i L ∧ MapAt wr tb fl ft ∧ Model fl L vals ∧ Away w ft kb ab ∧ Places w B tb kb ab vb ∧ i = ops.length ∧ vals.length = i ∧ i2 < i) := ⟨hm, hmi, ME, MA, MO, AW, PL, hnn, hvl, hlt⟩
          clear ME MA MO AW PL hnn hvl hio ho hk1 hk1' hk2 hm o0 o2
          go_wp2_with (first | (go_at_call 32; refine X.mono ?_; rintro e w1 ⟨j, ⟨rfl, hw1⟩, hat⟩; rw [hw1]; revert hat) | fail)
          intro hat
          have HAT : Hid (At (L.map Prod.fst) okey j) := hat
          clear hat X
          go_wp2_with (go_at_call 35; refine Y.mono ?_; rintro e w2 ⟨v, b, rfl, hu2, hg⟩; revert hg)
          intro hg
          obtain ⟨vs, ve, vt, vo⟩ := v
          obtain ⟨hm, hmi, ME, MA, MO, AW, PL, hnn, hvl, hlt⟩ := HALL.out
          have hu3 := Upd.alloc w2 (.cells #[strV vs, strV ve, .bool vt, .bool vo] 38) []
          have hu4 := hu2.trans hu3 (fun _ _ h => h)
          have HNEXT : Hid (∀ nq, RunAt w B (some ⟨b0, off, none⟩) ops vals tb kb ab vb i i m ((w2.alloc (.cells #[strV vs, strV ve, .bool vt, .bool vo] 38)).drewN nq)) := fun nq =>
            ⟨L, fl, ft, hm, hmi, ME.grow (hu4.trans (Upd.drewN _ nq []) (fun _ _ h => h)), MA.upd0 (hu4.trans (Upd.drewN _ nq []) (fun _ _ h => h)), MO, AW⟩
          have hbx := blk_new w2 [strV vs, strV ve, .bool vt, .bool vo] 38
          obtain ⟨x0, x1, x2, x3, -⟩ := hbx.four'
          rcases at_nodup HAT.out with ⟨hj, hno⟩ | ⟨j0, tt, X, Y', hj, hL, hX⟩
          · subst hj
            have hbf : b = false := hg.no (fun u hu => hno (MO.has.1 (hasL_iff.2 ⟨u, hu⟩)))
            subst hbf
            clear hm hmi ME MA MO AW PL hnn hvl hg hu2 hu3 hu4 hno hbx Y HAT HALL
            go_wp2
            go_quiet (fail)
            go_wp2
            go_roundg (i - (i2 + 1))
            case measure => omega
            case rel => exact ⟨i2 + 1, by simp, by omega, Nat.le_refl _, HNEXT.out _⟩
          · subst hj
            have hmem : (okey, tt) ∈ L := by rw [hL]; simp
            have htt := MO.lt _ hmem
            have hv := hg.yes _ (MO.mem hmem)
            obtain ⟨hbt, hve⟩ := hv
            subst hbt
            have hjm : j0 < m := by rw [hm, hL]; simp; omega
            obtain ⟨S2, ha1, ha2⟩ := (ME.grow hu4).ats
            have hac : (w2.alloc (.cells #[strV vs, strV ve, .bool vt, .bool vo] 38)).cell? ⟨ab, j0, none⟩ = some (.int .i64 (tt : Int)) := by
              have h1 := ha1.cell (i := j0) (by rw [List.length_append, List.length_map, ← hm]; omega)
              rw [List.getElem_append_left (by rw [List.length_map, ← hm]; exact hjm), List.getElem_map] at h1
              rw [h1]
              have : L[j0]'(by omega) = (okey, tt) := by
                have h2 : L[j0]? = some (okey, tt) := by rw [hL, ← hX]; simp
                rw [List.getElem?_eq_getElem (by omega)] at h2
                exact Option.some.inj h2
              rw [this]
            have hvg : vals[tt]'htt = (vs, ve, vt, vo) := by
              rw [hve]
              show _ = vals.getD tt _
              rw [List.getD_eq_getElem?_getD, List.getElem?_eq_getElem htt]; rfl
            obtain ⟨v0, v1, v2, v3⟩ := blk_kr (ME.grow hu4).vals htt
            rw [hvg] at v0 v1 v2 v3
            simp only at v0 v1 v2 v3
            have hz5 : (j0 : Int) < (m : Int) := by omega
            have hz6 : (tt : Int) < (i : Int) := by omega
            have hz7 : (0 : Int) ≤ (j0 : Int) := by omega
            clear hm hmi ME MA MO AW PL hnn hvl hg hu2 hu3 hu4 hbx Y HAT HALL hL hX hmem htt hve ha1 ha2 hvg
            go_wp2
            go_quiet (fail)
            go_wp2
            go_roundg (i - (i2 + 1))
            case measure => omega
            case rel => exact ⟨i2 + 1, by simp, by omega, Nat.le_refl _, HNEXT.out _⟩
        · have hlz : ¬ (i2 : Int) < (i : Int) := by omega
          have hU := ME.upd
          have HU : Hid _ := hU
          clear hm hmi ME MA MO AW PL hnn hvl hU
          go_wp2
          go_ret
          exact ⟨rfl, HU.out⟩
end Go.Proofs.Qxb6003818a
