import Derived.Test.Qxb6003818aBtR3
import Derived.Deep.LoopGhost
namespace Go.Proofs.Qxb6003818a
open Go.ChangeShapes Go.WideShapes Go.ChangeAt Go.RowKit
set_option linter.unusedVariables false
set_option linter.unusedSimpArgs false

set_option maxHeartbeats 4000000 in
/-- ZZBtSet. -/
theorem zzset (tb : Nat) (key : Str) (vv : KR) (w : World) (fl : List Item) (ft : List Nat) (H : MapAt w tb fl ft) (hn : fl.length ≤ 40000) :
    Calls Try.prog 33 #[ptr tb, strV key, aggV vv] w fun e w' => e = .returned (.tuple #[]) ∧ ∃ ft', MapAt w' tb (putL key vv fl) ft' ∧ MapTurns w w' tb ft ft' := by
  obtain ⟨vs, ve, vt, vo⟩ := vv
  obtain ⟨W, hW⟩ : ∃ W, W = w.alloc (.cells #[strV vs, strV ve, .bool vt, .bool vo] 38) := ⟨_, rfl⟩
  have hu : Upd w W [] := by rw [hW]; exact Upd.alloc w _ _
  have X := set44 tb key (vs, ve, vt, vo) W fl ft (H.upd0 hu) hn
  have HH : Hid (Upd w W [] ∧ ∀ k, w.heap.size ≤ k → ft.count k = 0) := ⟨hu, H.lt⟩
  clear hu H
  subst hW
  go_enter Try.func33, Try.ntmps33
  go_wp2_with (go_at_call 44; refine X.mono ?_; rintro e w2 ⟨rfl, ft', m1, m2⟩; revert m2)
  intro m2
  have HM : Hid (MapAt w2 tb (putL key (vs, ve, vt, vo) fl) ft' ∧ MapTurns (w.alloc (.cells #[strV vs, strV ve, .bool vt, .bool vo] 38)) w2 tb ft ft') := ⟨m1, m2⟩
  clear m1 m2 X
  go_wp2
  first | (refine bodyPost_ret (results_none rfl _ _ _) rfl ?_) | (refine bodyPost_end (results_none rfl _ _ _) rfl ?_)
  exact ⟨rfl, ft', HM.out.1, HM.out.2.pre HH.out.1 HH.out.2⟩

set_option maxHeartbeats 4000000 in
/-- ZZNewKeyRange. -/
theorem newKR (s : ByteArray) (w : World) : Calls Try.prog 21 #[.string s] w fun e w' => e = .returned (.agg #[.string ⟨#[]⟩, .string s, .bool false, .bool false]) ∧ Upd w w' [] := by
  go_enter Try.func21, Try.ntmps21
  go_wp2
  exact bodyPost_ret (v := .agg #[.string ⟨#[]⟩, .string s, .bool false, .bool false]) (by simp [results, Try.results21, go_sem, *]) rfl ⟨rfl, Upd.alloc _ _ _⟩

/-- Where a key stands among the keys. -/
def At (keys : List Str) (key : Str) (j : Int) : Prop := (j = -1 ∧ key ∉ keys) ∨ ∃ i : Nat, j = i ∧ keys[i]? = some key

set_option maxHeartbeats 4000000 in
/-- btFind. -/
theorem find32 (kb m c : Nat) (keys : List Str) (S : List Value) (key : Str) (w : World) (hb : Blk w kb 9 (keys.map strV ++ S)) (hm : m = keys.length) (h5 : m ≤ 5000) :
    Calls Try.prog 32 #[.slice (some ⟨kb, 0, none⟩) m c, strV key] w fun e w' => ∃ j, (e = .returned (.int .i64 j) ∧ w' = w) ∧ At keys key j := by
  have HC : Hid (∀ i (h : i < keys.length), w.cell? ⟨kb, i, none⟩ = some (strV keys[i])) := fun i h => by
    have := hb.cell (i := i) (by simp; omega)
    rw [List.getElem_append_left (by simpa using h), List.getElem_map] at this
    exact this
  clear hb
  go_enter Try.func32, Try.ntmps32
  go_wp2
  go_loopg [5] m (fun kx s5 wr => ∃ i : Nat, s5 = .int .i64 i ∧ i ≤ m ∧ m - i ≤ kx ∧ wr = w ∧ Aside (∀ t, t < i → keys[t]? ≠ some key))
  case atStart => exact ⟨0, rfl, Nat.zero_le _, by omega, rfl, (fun t ht => absurd ht (Nat.not_lt_zero _) : ∀ t, t < 0 → keys[t]? ≠ some key)⟩
  case round =>
    obtain ⟨i, rfl, him, hk, rfl, I⟩ := hrel
    by_cases hlt : i < m
    · have hc := HC.out i (by omega)
      obtain ⟨x, hx⟩ : ∃ x, x = keys[i]'(by omega) := ⟨_, rfl⟩
      rw [← hx] at hc
      have HX : Hid (keys[i]? = some x) := by rw [hx]; exact List.getElem?_eq_getElem (by omega)
      clear hx
      have hlz : (i : Int) < (m : Int) := by omega
      by_cases he : x = key
      · subst he
        go_wp2
        go_ret
        exact ⟨i, ⟨rfl, rfl⟩, .inr ⟨i, rfl, HX.out⟩⟩
      · have he2 : (x == key) = false := by simpa using he
        go_wp2
        go_roundg (m - (i + 1))
        case measure => omega
        case rel => exact ⟨i + 1, by simp, by omega, Nat.le_refl _, rfl, (fun t ht => by
          by_cases e : t = i
          · subst e; rw [HX.out]; exact fun h => he (Option.some.inj h)
          · exact I.out t (by omega) : ∀ t, t < i + 1 → keys[t]? ≠ some key)⟩
    · have hlz : ¬ (i : Int) < (m : Int) := by omega
      go_wp2
      go_ret
      refine ⟨-1, ⟨rfl, rfl⟩, .inl ⟨rfl, fun hmem => ?_⟩⟩
      obtain ⟨t, ht, hte⟩ := List.mem_iff_getElem.1 hmem
      exact I.out t (by omega) (by rw [List.getElem?_eq_getElem ht, hte])
end Go.Proofs.Qxb6003818a
