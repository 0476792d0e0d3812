import Derived.Test.Qxb6003818aBtW1
import Derived.Test.Qxb6003818aBtW20
import Derived.Test.Qxb6003818aBtW21
import Derived.Test.Qxb6003818aBtW30
import Derived.Test.Qxb6003818aBtW31
import Derived.Test.Qxb6003818aBtW3L
namespace Go.Proofs.Qxb6003818a
open Go.RowKit
set_option linter.unusedVariables false
set_option linter.unusedSimpArgs false

theorem nt_lo {w : World} {T : Kid → Prop} {h lo lo' : Nat} {t : Kid} {v c : Value} {its : List Item} {ks : List Kid} (N : NT w T h lo t v c its ks) (hl : lo' ≤ its.length) : NT w T h lo' t v c its ks :=
  ⟨N.blk, N.row, N.krow, hl, N.leaf, N.inner, N.kids, N.fl, N.ft⟩
theorem two_facts {w : World} {h lo : Nat} {t l r : Kid} {v c : Value} {I J : List Item} {x : Item} {A B : List Kid} (N : NT w (Below1 w (h + 1)) (h + 1) lo t v c (I ++ x :: J) (A ++ l :: r :: B)) (hA : A.length = I.length) (ha : Asc t.fl) (hn : t.fl.length ≤ 50000) :
    (∀ y ∈ l.fl, y.1 < x.1) ∧ (∀ y ∈ r.fl, x.1 < y.1) ∧ l.fl.length ≤ 50000 ∧ r.fl.length ≤ 50000 ∧ (I ++ x :: J).length ≤ 50000 := by
  have e : t.fl = lefts A I ++ (l.fl ++ x :: r.fl) ++ rights B J := by rw [N.fl]; exact flat_two hA
  have hi := its_le_flat (I ++ x :: J) (A ++ l :: r :: B)
  rw [← N.fl] at hi
  rw [e] at ha
  obtain ⟨-, a2, -⟩ := asc_mid ha
  have a3 := asc_app.1 a2
  refine ⟨fun y hy => a3.2.2 y hy x (by simp), fun y hy => (asc_cons.1 a3.2.1).1 y hy, ?_, ?_, by omega⟩
  · rw [e] at hn; simp only [List.length_append, List.length_cons] at hn; omega
  · rw [e] at hn; simp only [List.length_append, List.length_cons] at hn; omega

set_option maxHeartbeats 2000000 in
/-- grow gives the child that is gone down to more than fifteen items. -/
theorem grow_any (h lo : Nat) (t k : Kid) (v c vk ck : Value) (I J itk : List Item) (A B ksk : List Kid) (key : Str) (gr : Bool) (w : World)
    (N : NT w (Below1 w (h + 1)) (h + 1) lo t v c (I ++ J) (A ++ k :: B)) (hs : Sep t) (ha : Asc t.fl) (hA : A.length = I.length) (hB : B.length = J.length) (hlo : 1 ≤ lo) (hP : Pl key gr I J)
    (Nk : NT w (Below1 w h) h 15 k vk ck itk ksk) (hk : itk.length ≤ 15) (hn : t.fl.length ≤ 50000) :
    Calls Try.prog 79 #[ptr t.g, .int .i64 (I.length : Int)] w fun e w' => e = .returned (.tuple #[]) ∧ ∃ t', GrowOK w w' h lo t t' key gr := by
  have hk15 : itk.length = 15 := by have := Nk.lo; omega
  have right : ∀ (x : Item) (J0 : List Item) (rt : Kid) (B0 : List Kid) (vr cr : Value) (itr : List Item) (ksr : List Kid), J = x :: J0 → B = rt :: B0 → NT w (Below1 w h) h 15 rt vr cr itr ksr →
      (I.length = 0 ∨ ∃ q0 s vs cs its2 ks2, I.length = q0 + 1 ∧ (A ++ k :: rt :: B0)[q0]? = some s ∧ NT w (Below1 w h) h 15 s vs cs its2 ks2 ∧ its2.length = 15) →
      Calls Try.prog 79 #[ptr t.g, .int .i64 (I.length : Int)] w fun e w' => e = .returned (.tuple #[]) ∧ ∃ t', GrowOK w w' h lo t t' key gr := by
    intro x J0 rt B0 vr cr itr ksr hJ hBB Nr hside
    subst hJ hBB
    have hB0 : B0.length = J0.length := by simpa using hB
    obtain ⟨f1, f2, f3, f4, f5⟩ := two_facts N hA ha hn
    have hlo2 := N.lo
    have hPJ : gr = false ∧ AllLt key I ∧ AllGe key (x :: J0) := by
      rcases hP with ⟨_, h2⟩ | h2
      · cases h2
      · exact h2
    by_cases hbig : 15 < itr.length
    · cases itr with
      | nil => simp at hbig
      | cons y itr0 =>
        have hyx : x.1 < y.1 := f2 y (by rw [Nr.fl]; exact mem_mix_right _ _ _ (by simp))
        have hPl : Pl key gr I (y :: J0) := .inr ⟨hPJ.1, hPJ.2.1, fun z hz => by
          rcases List.mem_cons.1 hz with rfl | hz
          · exact fun hlt => hPJ.2.2 x (by simp) (List.lt_trans hyx hlt)
          · exact hPJ.2.2 z (by simp [hz])⟩
        have hll : itr0.length ≤ 50000 := by have := its_le_flat (y :: itr0) ksr; rw [← Nr.fl] at this; simp at this; omega
        have fin : ∀ (e : Ending) (w' : World), (e = .returned (.tuple #[]) ∧ ∃ t' l' r' v' c', NT w' (Below1 w' (h + 1)) (h + 1) lo t' v' c' (I ++ y :: J0) (A ++ l' :: r' :: B0) ∧ Turns w w' t t' ∧ t'.fl = t.fl ∧ Tree w' h (itk.length + 1) l') → (e = .returned (.tuple #[]) ∧ ∃ t', GrowOK w w' h lo t t' key gr) := by
          rintro e w' ⟨he, t', l', r', v', c', n1, n2, n3, n4⟩
          exact ⟨he, t', ⟨⟨v', c', I, y :: J0, A, l', r' :: B0, nt_lo n1 (by have := n1.lo; omega), hA, by simp [hB0], hPl, tree_lo n4 (by omega)⟩, n3, n2⟩⟩
        rcases hside with h0 | ⟨q0, s, vs, cs, its2, ks2, h1, h2, h3, h4⟩
        · exact (grow_right0 h lo I.length itr0.length t k rt v c vk ck vr cr I J0 itk itr0 x y A B0 ksk ksr w N hs Nk Nr hA hB0 rfl rfl (by simp at hbig; omega) f5 (by omega) hll h0).mono fin
        · exact (grow_right1 h lo I.length itr0.length t k rt v c vk ck vr cr I J0 itk itr0 x y A B0 ksk ksr w q0 s vs cs its2 ks2 N hs Nk Nr hA hB0 rfl rfl (by simp at hbig; omega) f5 (by omega) hll h1 h2 h3 h4).mono fin
    · have hr15 : itr.length = 15 := by have := Nr.lo; omega
      have hPl : Pl key gr I J0 := .inr ⟨hPJ.1, hPJ.2.1, fun z hz => hPJ.2.2 z (by simp [hz])⟩
      have fin : ∀ (e : Ending) (w' : World), (e = .returned (.tuple #[]) ∧ ∃ t' l' v' c', NT w' (Below1 w' (h + 1)) (h + 1) (lo - 1) t' v' c' (I ++ J0) (A ++ l' :: B0) ∧ Turns w w' t t' ∧ t'.fl = t.fl ∧ Tree w' h 16 l') → (e = .returned (.tuple #[]) ∧ ∃ t', GrowOK w w' h lo t t' key gr) := by
        rintro e w' ⟨he, t', l', v', c', n1, n2, n3, n4⟩
        exact ⟨he, t', ⟨⟨v', c', I, J0, A, l', B0, n1, hA, hB0, hPl, n4⟩, n3, n2⟩⟩
      rcases hside with h0 | ⟨q0, s, vs, cs, its2, ks2, h1, h2, h3, h4⟩
      · exact (grow_merge0 h lo I.length t k rt v c vk ck vr cr I J0 itk itr x A B0 ksk ksr w N hs Nk Nr hA hB0 rfl hk15 hr15 f5 h0).mono fin
      · exact (grow_merge1 h lo I.length t k rt v c vk ck vr cr I J0 itk itr x A B0 ksk ksr w q0 s vs cs its2 ks2 N hs Nk Nr hA hB0 rfl hk15 hr15 f5 h1 h2 h3 h4).mono fin
  rcases List.eq_nil_or_concat A with hA0 | ⟨A0, lf, hA0⟩
  · have hI0 : I.length = 0 := by rw [← hA, hA0]; rfl
    cases J with
    | nil =>
      have := N.lo
      rw [List.append_nil] at this
      omega
    | cons x J0 =>
      cases B with
      | nil => simp at hB
      | cons rt B0 =>
        have hrt : Tree w h 15 rt := N.kids rt (by simp)
        obtain ⟨vr, cr, itr, ksr, Nr⟩ := tree_iff.1 hrt
        exact right x J0 rt B0 vr cr itr ksr rfl rfl Nr (.inl hI0)
  · rcases List.eq_nil_or_concat I with hI0 | ⟨I0, x, hI0⟩
    · rw [hA0, hI0] at hA; simp at hA
    · simp only [List.concat_eq_append] at hA0 hI0
      subst hA0 hI0
      have hlf : Tree w h 15 lf := N.kids lf (by simp)
      obtain ⟨vl, cl, itl, ksl, Nl⟩ := tree_iff.1 hlf
      have hA1 : A0.length = I0.length := by simpa using hA
      have N' := N
      rw [show (I0 ++ [x]) ++ J = I0 ++ x :: J by simp, show (A0 ++ [lf]) ++ k :: B = A0 ++ lf :: k :: B by simp] at N'
      obtain ⟨f1, f2, f3, f4, f5⟩ := two_facts N' hA1 ha hn
      have harg : (((I0 ++ [x]).length : Nat) : Int) = (I0.length : Int) + 1 := by simp
      by_cases hbig : 15 < itl.length
      · rcases List.eq_nil_or_concat itl with h0 | ⟨itl0, y, h0⟩
        · rw [h0] at hbig; simp at hbig
        · simp only [List.concat_eq_append] at h0
          subst h0
          rw [harg]
          have hyx : y.1 < x.1 := f1 y (by rw [Nl.fl]; exact mem_mix_right _ _ _ (by simp))
          have hll : itl0.length ≤ 50000 := by have := its_le_flat (itl0 ++ [y]) ksl; rw [← Nl.fl] at this; simp at this; omega
          refine (grow_left h lo I0.length itl0.length t lf k v c vl cl vk ck I0 J itl0 itk x y A0 B ksl ksk w N' hs Nl Nk hA1 hB rfl rfl (by simp at hbig; omega) f5 hll (by omega)).mono ?_
          rintro e w' ⟨he, t', l', r', v', c', n1, n2, n3, n4⟩
          have hPl : Pl key gr (I0 ++ [y]) J := by
            rcases hP with h2 | ⟨h1, h2, h3⟩
            · exact .inl h2
            · refine .inr ⟨h1, fun z hz => ?_, h3⟩
              rcases List.mem_append.1 hz with hz | hz
              · exact h2 z (by simp [hz])
              · simp at hz; subst hz; exact List.lt_trans hyx (h2 x (by simp))
          have n1' := nt_lo (lo' := lo - 1) n1 (by have := n1.lo; omega)
          rw [show I0 ++ y :: J = (I0 ++ [y]) ++ J by simp, show A0 ++ l' :: r' :: B = (A0 ++ [l']) ++ r' :: B by simp] at n1'
          exact ⟨he, t', ⟨⟨v', c', I0 ++ [y], J, A0 ++ [l'], r', B, n1', by simp [hA1], hB, hPl, tree_lo n4 (by omega)⟩, n3, n2⟩⟩
      · have hl15 : itl.length = 15 := by have := Nl.lo; omega
        cases J with
        | nil =>
          rw [harg]
          refine (grow_mergeL h lo I0.length t lf k v c vl cl vk ck I0 [] itl itk x A0 B ksl ksk w N' hs Nl Nk hA1 hB rfl hl15 hk15 f5 rfl).mono ?_
          rintro e w' ⟨he, t', l', v', c', n1, n2, n3, n4⟩
          have hPl : Pl key gr I0 [] := by
            rcases hP with ⟨h1, h2⟩ | ⟨h1, h2, h3⟩
            · exact .inl ⟨h1, rfl⟩
            · exact .inr ⟨h1, fun z hz => h2 z (by simp [hz]), fun z hz => by simp at hz⟩
          exact ⟨he, t', ⟨⟨v', c', I0, [], A0, l', B, n1, hA1, hB, hPl, n4⟩, n3, n2⟩⟩
        | cons x2 J0 =>
          cases B with
          | nil => simp at hB
          | cons rt B0 =>
            have hrt : Tree w h 15 rt := N.kids rt (by simp)
            obtain ⟨vr, cr, itr, ksr, Nr⟩ := tree_iff.1 hrt
            refine right x2 J0 rt B0 vr cr itr ksr rfl rfl Nr (.inr ⟨I0.length, lf, vl, cl, itl, ksl, by simp, ?_, Nl, hl15⟩)
            rw [show (A0 ++ [lf]) ++ k :: rt :: B0 = A0 ++ lf :: k :: rt :: B0 by simp, ← hA1]
            simp
end Go.Proofs.Qxb6003818a
