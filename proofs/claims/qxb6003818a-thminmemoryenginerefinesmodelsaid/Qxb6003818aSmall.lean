import Derived.Test.Qxb6003818aBase
namespace Go.Proofs.Qxb6003818a
open Go.ChangeShapes Go.WideShapes Go.ChangeAt Go.RowKit
set_option linter.unusedVariables false
set_option linter.unusedSimpArgs false

theorem b1 (w : World) (o : Obj) : Below w.heap.size w (w.alloc o) := (Below.refl _ w).alloc (Nat.le_refl _) o
theorem b2 (w : World) (o o' : Obj) : Below w.heap.size w ((w.alloc o).alloc o') := (b1 w o).alloc (by simp) o'

theorem inSpan_any (s e : Str) (o : Bool) (k : Str) (w : World) : Calls Try.prog 6 #[.string ⟨s.toArray⟩, .string ⟨e.toArray⟩, .bool o, .string ⟨k.toArray⟩] w fun en w' => en = .returned (.bool (inSpan s e o k)) ∧ w' = w := by
  cases h1 : Op.bytesLess k s <;> cases o
  all_goals
    go_enter Try.func6, Try.ntmps6
    go_wp2
    go_ret
    exact ⟨by simp [inSpan, bl, h1, le_bl, gt_bl], rfl⟩

def coversK (s e : Str) (o d st : Bool) (l k : Str) : Bool := if st then (if d then inSpan l e o k else (!bl k s && !bl l k)) else inSpan s e o k
theorem covers_any (s e : Str) (o d st : Bool) (l k : Str) (w : World) : Calls Try.prog 9 #[.string ⟨s.toArray⟩, .string ⟨e.toArray⟩, .bool o, .bool d, .bool st, .string ⟨l.toArray⟩, .string ⟨k.toArray⟩] w fun en w' =>
    en = .returned (.bool (coversK s e o d st l k)) ∧ w' = w := by
  cases st
  · go_enter Try.func9, Try.ntmps9
    go_wp2_with (go_at_call 6; refine (inSpan_any s e o k w).mono ?_; rintro en w' ⟨rfl, rfl⟩)
    go_ret
    exact ⟨rfl, rfl⟩
  · cases d
    · cases h1 : Op.bytesLess k s
      all_goals
        go_enter Try.func9, Try.ntmps9
        go_wp2
        go_ret
        exact ⟨by simp [coversK, bl, h1, le_bl, gt_bl], rfl⟩
    · go_enter Try.func9, Try.ntmps9
      go_wp2_with (go_at_call 6; refine (inSpan_any l e o k w).mono ?_; rintro en w' ⟨rfl, rfl⟩)
      go_ret
      exact ⟨rfl, rfl⟩

theorem has_any (s e : Str) (t o : Bool) (k : Str) (w : World) : Calls Try.prog 10 #[aggK s e t o, .string ⟨k.toArray⟩] w (Gives w (.bool (hasK s e t o k))) := by
  cases h1 : Op.bytesLess k s
  · cases o
    · cases t
      all_goals
        go_enter Try.func10, Try.ntmps10
        go_wp2
        go_ret
        exact ⟨by simp [hasK, bl, h1, le_bl, gt_bl], b1 _ _⟩
    · go_enter Try.func10, Try.ntmps10
      go_wp2
      go_ret
      exact ⟨by simp [hasK, bl, h1, le_bl, gt_bl], b1 _ _⟩
  · go_enter Try.func10, Try.ntmps10
    go_wp2
    go_ret
    exact ⟨by simp [hasK, bl, h1, le_bl, gt_bl], b1 _ _⟩

theorem from_any (s e : Str) (t o : Bool) (w : World) : Calls Try.prog 14 #[aggK s e t o] w (Gives w (aggK s e t o)) := by
  go_enter Try.func14, Try.ntmps14
  go_wp2
  exact bodyPost_ret (v := aggK s e t o) (by simp [results, Try.results14, go_sem]) rfl ⟨rfl, b2 _ _ _⟩
theorem to_any (s e : Str) (t o : Bool) (w : World) : Calls Try.prog 15 #[aggK s e t o] w (Gives w (aggK s e t o)) := by
  go_enter Try.func15, Try.ntmps15
  go_wp2
  exact bodyPost_ret (v := aggK s e t o) (by simp [results, Try.results15, go_sem]) rfl ⟨rfl, b2 _ _ _⟩
theorem holds_any (s e : Str) (t o : Bool) (k : Str) (w : World) : Calls Try.prog 24 #[aggK s e t o, .string ⟨k.toArray⟩] w (Gives w (.bool (holdsK e t o k))) := by
  cases o
  · cases t
    all_goals
      go_enter Try.func24, Try.ntmps24
      go_wp2
      go_ret
      exact ⟨by simp [holdsK, bl, le_bl, gt_bl], b1 _ _⟩
  · go_enter Try.func24, Try.ntmps24
    go_wp2
    go_ret
    exact ⟨by simp [holdsK, bl, le_bl, gt_bl], b1 _ _⟩
theorem contains_any (s e : Str) (t o : Bool) (k : Str) (w : World) : Calls Try.prog 17 #[aggK s e t o, .string ⟨k.toArray⟩] w (Gives w (.bool (!bl k s && holdsK e t o k))) := by
  cases h1 : Op.bytesLess k s
  · go_enter Try.func17, Try.ntmps17
    go_wp2_with (go_at_call 24; refine (holds_any s e t o k _).mono ?_; rintro en w' ⟨rfl, hb⟩)
    go_ret
    exact ⟨by simp [bl, h1, le_bl, gt_bl], (b1 _ _).trans (hb.mono (by simp))⟩
  · go_enter Try.func17, Try.ntmps17
    go_wp2
    go_ret
    exact ⟨by simp [bl, h1, le_bl, gt_bl], b1 _ _⟩
theorem zzcontains_any (s e : Str) (t o : Bool) (k : Str) (w : World) : Calls Try.prog 8 #[aggK s e t o, .string ⟨k.toArray⟩] w (Gives w (.bool (!bl k s && holdsK e t o k))) := by
  go_enter Try.func8, Try.ntmps8
  go_wp2_with (first | (go_at_call 15; refine (to_any s e t o _).mono ?_; rintro en w1 ⟨rfl, hb1⟩) | (go_at_call 17; refine (contains_any s e t o k _).mono ?_; rintro en w2 ⟨rfl, hb2⟩))
  go_ret
  have hb1' := (b1 _ _).trans (hb1.mono (by simp))
  exact ⟨rfl, hb1'.trans (hb2.mono hb1'.size)⟩
theorem startsPast_any (s e : Str) (t o : Bool) (s2 e2 : Str) (t2 o2 : Bool) (w : World) : Calls Try.prog 28 #[aggK s e t o, aggK s2 e2 t2 o2] w (Gives w (.bool (startsPastK s e2 o2))) := by
  cases o2
  all_goals
    go_enter Try.func28, Try.ntmps28
    go_wp2
    go_ret
    exact ⟨by simp [startsPastK, bl, le_bl, gt_bl], b2 _ _ _⟩
theorem endsAfter_any (s e : Str) (t o : Bool) (s2 e2 : Str) (t2 o2 : Bool) (w : World) : Calls Try.prog 40 #[aggK s e t o, aggK s2 e2 t2 o2] w (Gives w (.bool (endsAfterK e t o e2 t2 o2))) := by
  cases o2
  · cases o
    · cases h1 : (e == e2)
      · have hne : ¬ e = e2 := by simpa using h1
        have HN : Hid (endsAfterK e t false e2 t2 false = !Op.bytesLess e e2) := by
          have := gt_bl e e2
          rw [h1] at this
          simp [Hid, endsAfterK, bl, hne, ← this]
        clear hne
        go_enter Try.func40, Try.ntmps40
        go_wp2
        go_ret
        exact ⟨by rw [HN.out]; simp, b2 _ _ _⟩
      · have heq : e = e2 := by simpa using h1
        have HN := show Hid _ from heq
        clear heq
        cases t
        all_goals
          go_enter Try.func40, Try.ntmps40
          go_wp2
          go_ret
          exact ⟨by simp [endsAfterK, bl, HN.out, gt_bl], b2 _ _ _⟩
    · go_enter Try.func40, Try.ntmps40
      go_wp2
      go_ret
      exact ⟨by simp [endsAfterK], b2 _ _ _⟩
  · go_enter Try.func40, Try.ntmps40
    go_wp2
    go_ret
    exact ⟨by simp [endsAfterK], b2 _ _ _⟩
theorem readTo_any (s e : Str) (t o : Bool) (k : Str) (d : Bool) (w : World) : Calls Try.prog 16 #[aggK s e t o, .string ⟨k.toArray⟩, .int .i64 (if d then 1 else 0)] w (Gives w (if d then aggK k e t o else aggK s k true false)) := by
  cases d
  · go_enter Try.func16, Try.ntmps16
    go_wp2
    exact bodyPost_ret (v := aggK s k true false) (by simp [results, Try.results16, go_sem]) rfl ⟨rfl, b2 _ _ _⟩
  · go_enter Try.func16, Try.ntmps16
    go_wp2
    exact bodyPost_ret (v := aggK k e t o) (by simp [results, Try.results16, go_sem]) rfl ⟨rfl, b2 _ _ _⟩
end Go.Proofs.Qxb6003818a
