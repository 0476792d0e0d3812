import Derived.Test.Qxb6003818aBtU
import Derived.Deep.LoopGhost
namespace Go.Proofs.Qxb6003818a
open Go.ChangeShapes Go.WideShapes Go.ChangeAt Go.RowKit
set_option linter.unusedVariables false
set_option linter.unusedSimpArgs false

/-- The contract of remove at the height h. -/
def RemAny (h : Nat) : Prop := ∀ (lo : Nat) (t : Kid) (key : Str) (gr : Bool) (w : World), Tree w h lo t → Asc t.fl → Sep t → t.fl.length ≤ 50000 → (0 < h → 1 ≤ lo) → (gr = true → 1 ≤ lo) →
    Calls Try.prog 66 #[ptr t.g, strV key, .bool gr] w fun e w' => ∃ it b, e = .returned (.tuple #[aggI it, .bool b]) ∧ ∃ t', RemOK w w' h (lo - 1) t t' key gr it b
theorem RemOK.weak {w w' : World} {h lo lo' : Nat} {t t' : Kid} {key : Str} {gr b : Bool} {it : Item} (H : RemOK w w' h lo t t' key gr it b) (hl : lo' ≤ lo) : RemOK w w' h lo' t t' key gr it b :=
  ⟨tree_lo H.tree hl, H.turns, H.del, H.last⟩
/-- Where remove stands at an inner node: as it began, or behind grow. -/
def RemAt (W : World) (h lo : Nat) (t : Kid) (key : Str) (gr : Bool) (bx kx : Nat) (wr : World) : Prop :=
  ∃ t1, Turns W wr t t1 ∧ t1.fl = t.fl ∧ (∃ x0 x1 x2 x3 x4, Blk wr bx 105 [x0, x1, x2, x3, x4]) ∧
    ∃ lo1 v c I J A k B, NT wr (Below1 wr (h + 1)) (h + 1) lo1 t1 v c (I ++ J) (A ++ k :: B) ∧ A.length = I.length ∧ B.length = J.length ∧ Pl key gr I J ∧ ((kx = 1 ∧ lo1 = lo) ∨ (kx = 0 ∧ lo1 = lo - 1 ∧ Tree wr h 16 k))
theorem RemAt.start {W : World} {h lo : Nat} {t : Kid} {key : Str} {gr : Bool} {bx : Nat} {x0 x1 x2 x3 x4 : Value} (HT : Tree W (h + 1) lo t) (ha : Asc t.fl) (hb : Blk W bx 105 [x0, x1, x2, x3, x4]) : RemAt W h lo t key gr bx 1 W := by
  obtain ⟨v, c, its, ks, N⟩ := tree_iff.1 HT
  refine ⟨t, Turns.refl W t (tree_lt HT), rfl, ⟨_, _, _, _, _, hb⟩, ?_⟩
  have hin := N.inner (by omega)
  have hai : Asc its := by rw [N.fl] at ha; exact asc_its ha
  have fin : ∀ I J, its = I ++ J → Pl key gr I J → ∃ lo1 v c I J A k B, NT W (Below1 W (h + 1)) (h + 1) lo1 t v c (I ++ J) (A ++ k :: B) ∧ A.length = I.length ∧ B.length = J.length ∧ Pl key gr I J ∧ ((1 = 1 ∧ lo1 = lo) ∨ (1 = 0 ∧ lo1 = lo - 1 ∧ Tree W h 16 k)) := by
    intro I J hIJ hP
    rw [hIJ] at hin
    obtain ⟨A, k, B, hks, hA, hB⟩ := split_ks hin
    rw [hIJ, hks] at N
    exact ⟨lo, v, c, I, J, A, k, B, N, hA, hB, hP, .inl ⟨rfl, rfl⟩⟩
  cases gr with
  | true => exact fin its [] (by simp) (.inl ⟨rfl, rfl⟩)
  | false =>
    obtain ⟨h1, h2⟩ := pos_split key hai
    exact fin (its.take (posL key its)) (its.drop (posL key its)) (List.take_append_drop _ _).symm (.inr ⟨rfl, h1, h2⟩)

set_option maxHeartbeats 8000000 in
set_option maxRecDepth 100000 in
/-- remove at an inner node: its greatest item. -/
theorem remove_inner_gr (GA : GrowAny) (h : Nat) (IH : RemAny h) (lo : Nat) (t : Kid) (key : Str) (w : World) (HT : Tree w (h + 1) lo t) (ha : Asc t.fl) (hs : Sep t) (hn : t.fl.length ≤ 50000) (hlo : 1 ≤ lo) :
    Calls Try.prog 66 #[ptr t.g, strV key, .bool true] w fun e w' => ∃ it b, e = .returned (.tuple #[aggI it, .bool b]) ∧ ∃ t', RemOK w w' (h + 1) (lo - 1) t t' key true it b := by
  obtain ⟨W, hW⟩ : ∃ W, W = w.alloc (.cells #[.string ⟨#[]⟩, .string ⟨#[]⟩, .string ⟨#[]⟩, .bool false, .bool false] 105) := ⟨_, rfl⟩
  have hu : Upd w W [] := by rw [hW]; exact Upd.alloc w _ _
  have hbx : Blk W w.heap.size 105 [.string ⟨#[]⟩, .string ⟨#[]⟩, .string ⟨#[]⟩, .bool false, .bool false] := by rw [hW]; exact blk_new w _ _
  have hbl : ∀ k, w.heap.size ≤ k → t.ft.count k = 0 := tree_lt HT
  have HT' := tree_upd hu HT (fun _ _ => by simp)
  have ST : RemAt W h lo t key true w.heap.size 1 W := RemAt.start HT' ha hbx
  have HF : Hid (Upd w W [] ∧ Blk W w.heap.size 105 [.string ⟨#[]⟩, .string ⟨#[]⟩, .string ⟨#[]⟩, .bool false, .bool false] ∧ (∀ k, w.heap.size ≤ k → t.ft.count k = 0) ∧ Asc t.fl ∧ Sep t ∧ t.fl.length ≤ 50000) := ⟨hu, hbx, hbl, ha, hs, hn⟩
  have HGA : Hid GrowAny := GA
  have HIH : Hid (RemAny h) := IH
  clear hu hbx hbl HT HT' ha hs hn GA IH
  subst hW
  go_enter Try.func66, Try.ntmps66
  go_wp2
  generalize (w.alloc (.cells #[.string ⟨#[]⟩, .string ⟨#[]⟩, .string ⟨#[]⟩, .bool false, .bool false] 105)) = W at *
  generalize hbe : w.heap.size = bx at *
  have HB : Hid (w.heap.size = bx) := hbe
  clear hbe
  go_loopg [8] 1 (fun kx s8 wr => RemAt W h lo t key true bx kx wr)
  case atStart => exact ST
  case round =>
    clear ST
    obtain ⟨t1, T1, e1, ⟨x0, x1, x2, x3, x4, hbx⟩, lo1, v, c, I, J, A, k, B, N, hA, hB, hP, hph⟩ := hrel
    obtain ⟨hJ, hB0⟩ : J = [] ∧ B = [] := by
      rcases hP with ⟨_, h2⟩ | ⟨h2, _⟩
      · exact ⟨h2, List.eq_nil_of_length_eq_zero (by rw [hB, h2]; rfl)⟩
      · cases h2
    subst hJ hB0
    obtain ⟨-, hbxW, hbl, ha, hs, hn⟩ := HF.out
    have hg1 : t1.g = t.g := T1.g
    have ha1 : Asc t1.fl := by rw [e1]; exact ha
    have hs1 : Sep t1 := T1.sep hs
    have hn1 : t1.fl.length ≤ 50000 := by rw [e1]; exact hn
    have hb1 : t1.ft.count bx = 0 := by
      have h1 := (T1.fresh bx).1 hbxW.lt
      have h2 := hbl bx (Nat.le_refl _)
      omega
    have hmem : k ∈ A ++ k :: [] := by simp
    have HTk : Tree wr h 15 k := N.kids k hmem
    obtain ⟨vk, ck, itk, ksk, Nk⟩ := tree_iff.1 HTk
    have hbk : k.ft.count bx = 0 := by
      have h1 := count_mem hmem bx
      rw [nt_count N] at hb1
      omega
    obtain ⟨n, hn'⟩ : ∃ n, n = (I ++ ([] : List Item)).length := ⟨_, rfl⟩
    obtain ⟨nk, hnk⟩ : ∃ nk, nk = (A ++ k :: []).length := ⟨_, rfl⟩
    have hnkn : nk = n + 1 := by rw [hnk, hn', N.inner (by omega)]
    have hnI : n = I.length := by rw [hn']; simp
    obtain ⟨a, cap, hv⟩ := owns_slice (owns_cast N.row hn'.symm rfl)
    obtain ⟨rc, capc, hc, -, -, -, -, k0, -⟩ := row_kidN (owns_cast N.krow hnk.symm rfl) hnk (i := n) (by omega)
    rw [show (A ++ k :: [])[n]'(by omega) = k by simp [hnI, ← hA]] at k0
    subst hv hc
    obtain ⟨c0, c1, cf0, cf1⟩ := N.blk.two
    rw [hg1] at c0 c1
    obtain ⟨m, hm⟩ : ∃ m, m = itk.length := ⟨_, rfl⟩
    obtain ⟨ak, capk, hvk⟩ := owns_slice (owns_cast Nk.row hm.symm rfl)
    subst hvk
    obtain ⟨kk0, -⟩ := Nk.blk.two
    have hnil := eql63 (some ⟨rc, 0, none⟩) nk capc 0 0
    simp only [Option.isNone_some] at hnil
    have hnz : (n : Int) < (nk : Int) := by omega
    have HN : Hid (Turns W wr t t1 ∧ t1.fl = t.fl ∧ Blk wr bx 105 [x0, x1, x2, x3, x4] ∧ NT wr (Below1 wr (h + 1)) (h + 1) lo1 t1 (.slice a n cap) (.slice (some ⟨rc, 0, none⟩) nk capc) (I ++ []) (A ++ k :: []) ∧ Sep t1 ∧ Asc t1.fl ∧ t1.ft.count bx = 0 ∧ k.ft.count bx = 0 ∧ A.length = I.length) := ⟨T1, e1, hbx, N, hs1, ha1, hb1, hbk, hA⟩
    by_cases hsm : itk.length ≤ 15
    · have hkx : gk = 1 ∧ lo1 = lo := by
        rcases hph with h1 | ⟨_, _, h3⟩
        · exact h1
        · obtain ⟨v2, c2, it2, ks2, N2⟩ := tree_iff.1 h3
          exfalso
          have h1 := N2.lo
          have h2 := N2.blk
          have h3 := Nk.blk
          unfold Blk at h2 h3
          rw [h2] at h3
          have h4 : v2 = .slice ak m capk := by simp at h3; exact h3.1
          obtain ⟨a2, cap2, h5⟩ := owns_slice N2.row
          rw [h4] at h5
          have h6 := (Value.slice.inj h5).2.1
          omega
      obtain ⟨hk1, hl1⟩ := hkx
      subst hk1 hl1
      have Y := HGA.out h lo1 t1 k _ _ _ _ I [] itk A [] ksk key true wr N hs1 ha1 hA rfl hlo hP Nk hsm hn1
      rw [← hnI, hg1] at Y
      have hm15 : (m : Int) ≤ 15 := by omega
      clear N Nk HTk T1 e1 hbx hP hph hA hB hs1 ha1 hn1 hb1 hbk hn' hnk hnkn hnI hm hsm hmem hg1 ha hs hn hbl hbxW
      go_wp2_with (go_at_call 79; refine Y.mono ?_; rintro e w2 ⟨rfl, t2, hG⟩; revert hG)
      intro hG
      have HG : Hid (GrowOK wr w2 h lo1 t1 t2 key true) := hG
      clear hG Y
      go_wp2
      go_roundg 0
      case measure => omega
      case rel =>
        obtain ⟨T1, e1, hbx, -, -, -, hb1, -⟩ := HN.out
        obtain ⟨v', c', I', J', A', k', B', n1, n2, n3, n4, n5⟩ := HG.out.ex
        exact ⟨t2, T1.trans HG.out.turns, HG.out.fl.trans e1, ⟨_, _, _, _, _, hbx.upd HG.out.turns.upd hb1⟩, lo1 - 1, v', c', I', J', A', k', B', n1, n2, n3, n4, .inr ⟨rfl, rfl, n5⟩⟩
    · have Hk16 : Tree wr h 16 k := tree_iff.2 ⟨_, _, _, _, Nk.blk, Nk.row, Nk.krow, by omega, Nk.leaf, Nk.inner, Nk.kids, Nk.fl, Nk.ft⟩
      obtain ⟨f1, f2, f3, f4, f5⟩ := child_facts (n := 50000) (bvl := bx) N hs1 ha1 hA hn1 hb1
      have Y := HIH.out 16 k key true wr Hk16 f2 f3 f4 (fun _ => by omega) (fun _ => by omega)
      have hlo1 : lo - 1 ≤ lo1 := by rcases hph with ⟨_, h1⟩ | ⟨_, h1, _⟩ <;> omega
      have hm15 : ¬ ((m : Int) ≤ 15) := by omega
      clear N Nk HTk T1 e1 hbx hP hph hA hB hs1 ha1 hn1 hb1 hn' hnk hnkn hnI hm hsm hmem hg1 f1 f2 f3 f4 f5 Hk16 ha hs hn hbl hbxW hbk
      go_wp2_with (go_at_call 66; refine Y.mono ?_; rintro e w2 ⟨it, b, rfl, k', hR⟩; revert hR)
      intro hR
      obtain ⟨T1, e1, hbx, N, hs1, ha1, hb1, hbk, hA⟩ := HN.out
      obtain ⟨hu, hbxW, hbl, -⟩ := HF.out
      obtain ⟨t', ht'⟩ := rem_child N hs1 ha1 hA rfl (fun h => by cases h) (fun _ => rfl) hR
      obtain ⟨ik, is, ie, it1, io⟩ := it
      have FIN := rem_fin hu (by rw [HB.out]; exact hbl) hbxW (Nat.le_of_eq HB.out) ((ht'.after T1 e1).weak hlo1) (strV ik) (strV is) (strV ie) (.bool it1) (.bool io)
      have HFIN : Hid _ := FIN
      obtain ⟨q0, q1, q2, q3, q4, qf0, qf1, qf2, qf3, qf4⟩ := (hbx.upd hR.turns.upd hbk).five
      clear FIN ht' hR T1 e1 hbx N hs1 ha1 hb1 hbk hA hu hbxW hbl Y c0 c1 cf0 cf1 k0 kk0
      go_wp2
      exact bodyPost_ret (v := .tuple #[aggI (ik, is, ie, it1, io), .bool b]) (by simp [results, Try.results66, go_sem, *]) rfl ⟨(ik, is, ie, it1, io), b, rfl, t', HFIN.out⟩
end Go.Proofs.Qxb6003818a
