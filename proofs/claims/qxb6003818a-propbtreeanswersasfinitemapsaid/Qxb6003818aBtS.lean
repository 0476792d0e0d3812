import Derived.Test.Qxb6003818aBtH
import Derived.Lib.AppendZerosOnto
import Derived.Lib.Overlaps
import Derived.Lib.AppendZeros
import Derived.Lib.SliceRun
import Derived.Laws.IdiomCopy
namespace Go.Proofs.Qxb6003818a
open Go.RowKit
set_option linter.unusedVariables false
set_option linter.unusedSimpArgs false

theorem blk_put {g : Nat} {T : TypeId} : ∀ (vs : List Value) {w : World} {X Y Z : List Value}, Blk w g T (X ++ (Y ++ Z)) → Y.length = vs.length → Blk (w.setCells g X.length vs) g T (X ++ (vs ++ Z))
  | [], w, X, Y, Z, h, hl => by
    have : Y = [] := List.eq_nil_of_length_eq_zero (by simpa using hl)
    subst this
    exact h
  | v :: vs, w, X, Y, Z, h, hl => by
    cases Y with
    | nil => simp at hl
    | cons y Y =>
      have h2 := h.set X.length v
      rw [List.set_append_right _ _ (Nat.le_refl _), Nat.sub_self, List.cons_append, List.set_cons_zero] at h2
      have h3 : Blk (w.setCell ⟨g, X.length, none⟩ v) g T ((X ++ [v]) ++ (Y ++ Z)) := by simpa using h2
      have := blk_put vs h3 (by simpa using hl)
      rw [List.length_append, List.length_singleton] at this
      rw [World.setCells]
      simpa using this
theorem upd_setCells {g : Nat} {T : TypeId} (F : List Nat) (hF : 0 < F.count g) : ∀ (vs : List Value) {w : World} {l : List Value} (o : Nat), Blk w g T l → Upd w (w.setCells g o vs) F
  | [], w, l, o, h => Upd.refl _ _
  | v :: vs, w, l, o, h => (Upd.setCell w g o v h F hF).trans (upd_setCells F hF vs (o + 1) (h.set o v)) (fun k hk hc => hc)
theorem blk_some {w : World} {g : Nat} {T : TypeId} {l : List Value} (h : Blk w g T l) {i : Nat} (hi : i < l.length) : (w.cell? ⟨g, i, none⟩).isSome = true := by rw [h.cell hi]; rfl
theorem blk_get {w : World} {g : Nat} {T : TypeId} {X Y Z : List Value} (h : Blk w g T (X ++ (Y ++ Z))) : ∀ j u, Y[j]? = some u → w.cell? ⟨g, X.length + j, none⟩ = some u := by
  intro j u hj
  obtain ⟨h1, h2⟩ := List.getElem?_eq_some_iff.1 hj
  have := h.cell (i := X.length + j) (by simp; omega)
  rw [this, List.getElem_append_right (by omega)]
  simp [h1, h2]

theorem owns_cases {w : World} {E : TypeId} {s n : Nat} {v : Value} {xs : List Value} (h : w.ownsRow 0 E s v n xs) :
    (v = .slice none 0 0 ∧ n = 0 ∧ xs = []) ∨ ∃ g cap S, v = .slice (some ⟨g, 0, none⟩) n cap ∧ Blk w g E (xs ++ S) ∧ n ≤ cap ∧ cap ≤ 9223372036854775807 ∧ (xs ++ S).length = cap * s ∧ ownB v = [g] ∧ xs.length = n * s := by
  rcases h.2 with ⟨h1, h2⟩ | ⟨g, cap, cur, h1, _, h3, h4, h5, h6, h7⟩
  · refine .inl ⟨h1, h2, List.eq_nil_of_length_eq_zero ?_⟩
    rw [h.1, h2]; simp
  · refine .inr ⟨g, cap, cur.toList.drop (n * s), h1, ?_, h4, by simp only [maxLen] at h5; omega, ?_, by rw [h1]; rfl, h.1⟩
    · unfold Blk
      rw [h3, ← h7, List.take_append_drop]
    · rw [← h7, List.take_append_drop]; simpa using h6
theorem owns_mk {w : World} {E : TypeId} {g s n cap : Nat} {xs S : List Value} (h : Blk w g E (xs ++ S)) (h1 : xs.length = n * s) (h2 : n ≤ cap) (h3 : cap ≤ 9223372036854775807) (h4 : (xs ++ S).length = cap * s) :
    w.ownsRow 0 E s (.slice (some ⟨g, 0, none⟩) n cap) n xs :=
  ⟨h1, .inr ⟨g, cap, (xs ++ S).toArray, rfl, Nat.zero_le _, h, h2, by simp only [maxLen]; omega, by simpa using h4, by rw [← h1]; simp⟩⟩

/-- Copy at elements of k cells. -/
theorem run_copyK {P : Program} (w : World) (dT sT ty elem : TypeId) (k b o dLen dCap : Nat) (a : Addr) (sLen sCap : Nat) (cs : List Value) (i : TypeInfo)
    (hu : P.underlying dT = some (.slice elem)) (hq : P.info? elem = some i) (hi : i.size = k) (hn : cs.length = Nat.min sLen dLen * k)
    (hsrc : ∀ j v, cs[j]? = some v → w.cell? (a.add j) = some v) (hc : ∀ j, j < cs.length → (w.cell? ⟨b, o + j, none⟩).isSome = true) (hf : ∀ j, j < cs.length → w.frozen? ⟨b, o + j, none⟩ = false) (h1 : ∀ v ∈ cs, v.oneCell' = true) :
    (Builtin.copy_ #[dT, sT] ty #[.slice (some ⟨b, o, none⟩) dLen dCap, .slice (some a) sLen sCap]).run P w = .ok (goInt (Nat.min sLen dLen)) (w.setCells b o cs) := by
  have hl := run_loadCells_list (P := P) w a cs hsrc
  have hst := run_storeCells_cells (P := P) b o cs 0 w (by simpa using hc) (by simpa using hf) h1
  simp [Builtin.copy_, run_underlying hu, Builtin.lenOf, Builtin.firstCells, sizeOf, typeInfo, hq, hi, ← hn, hl, hst]
/-- Clear at elements of k cells. -/
theorem run_clearK {P : Program} (w : World) (t e ty : TypeId) (z : Value) (ht : P.underlying t = some (.slice e)) (hv : ∀ w, (zeroValue e).run P w = .ok z w) (b o n c : Nat) (hn : 0 < n) (h1 : ∀ u ∈ (Builtin.zeroCells z.cells n).toList, u.oneCell' = true)
    (hc : ∀ j, j < (Builtin.zeroCells z.cells n).size → (w.cell? ⟨b, o + j, none⟩).isSome = true) (hf : ∀ j, j < (Builtin.zeroCells z.cells n).size → w.frozen? ⟨b, o + j, none⟩ = false) :
    (Builtin.clear_ #[t] ty #[.slice (some ⟨b, o, none⟩) n c]).run P w = .ok (.tuple #[]) (w.setCells b o (Builtin.zeroCells z.cells n).toList) := by
  have hst := run_storeCells_cells (P := P) b o (Builtin.zeroCells z.cells n).toList 0 w (by simpa using hc) (by simpa using hf) h1
  simp only [Nat.add_zero] at hst
  obtain ⟨m, rfl⟩ : ∃ m, n = m + 1 := ⟨n - 1, by omega⟩
  simp [Builtin.clear_, run_underlying ht, hv, hst]

/-- Room is made in place. -/
theorem blk_shift {w : World} {g k : Nat} {T : TypeId} {A D S vs : List Value} (h : Blk w g T ((A ++ D) ++ S)) (hv : vs.length = k) (hS : k ≤ S.length) :
    Blk ((w.setCells g (A.length + k) D).setCells g A.length vs) g T ((A ++ vs ++ D) ++ S.drop k) := by
  have e : (A ++ D) ++ S = (A ++ (D ++ S).take k) ++ (((D ++ S).drop k).take D.length ++ ((D ++ S).drop k).drop D.length) := by
    rw [List.take_append_drop, List.append_assoc A ((D ++ S).take k), List.take_append_drop, List.append_assoc]
  rw [e] at h
  have h1 := blk_put D h (by simp; omega)
  have hl : (A ++ (D ++ S).take k).length = A.length + k := by simp; omega
  rw [hl, List.append_assoc] at h1
  have h2 := blk_put vs h1 (by rw [hv]; simp; omega)
  have e2 : ((D ++ S).drop k).drop D.length = S.drop k := by
    rw [List.drop_drop, Nat.add_comm, ← List.drop_drop, List.drop_left]
  rw [e2] at h2
  simpa using h2
/-- An element is cut out in place. -/
theorem blk_cut {w : World} {g k : Nat} {T : TypeId} {A m D S z : List Value} (h : Blk w g T ((A ++ m ++ D) ++ S)) (hm : m.length = k) (hz : z.length = k) :
    Blk (w.setCells g A.length D) g T ((A ++ D) ++ ((m ++ D).drop D.length ++ S)) ∧ Blk ((w.setCells g A.length D).setCells g (A.length + D.length) z) g T ((A ++ D) ++ (z ++ S)) := by
  have e : (A ++ m ++ D) ++ S = A ++ ((m ++ D).take D.length ++ ((m ++ D).drop D.length ++ S)) := by
    rw [← List.append_assoc ((m ++ D).take D.length), List.take_append_drop]; simp
  rw [e] at h
  have h1 := blk_put D h (by simp)
  have h1' : Blk (w.setCells g A.length D) g T ((A ++ D) ++ ((m ++ D).drop D.length ++ S)) := by simpa using h1
  refine ⟨h1', ?_⟩
  have h2 := blk_put z h1' (by rw [hz]; simp; omega)
  rw [List.length_append] at h2
  exact h2
theorem fresh_same (w : World) (F : List Nat) (h1 : ∀ k, F.count k ≤ 1) : Fresh w F F := fun k => ⟨fun _ => Nat.le_refl _, fun _ => h1 k⟩
theorem fresh_new (w : World) (F : List Nat) (b : Nat) (h : w.heap.size ≤ b) : Fresh w F [b] := fun k => ⟨fun hk => by
    rw [List.count_eq_zero.2 (by simp; omega)]; omega, fun hk => by rw [List.count_singleton]; split <;> omega⟩

/-- What an inserting call leaves. -/
def Ins (w : World) (E : TypeId) (s n : Nat) (v : Value) (xs : List Value) (e : Ending) (w' : World) : Prop :=
  ∃ v', e = .returned v' ∧ w'.ownsRow 0 E s v' n xs ∧ Upd w w' (ownB v) ∧ Fresh w (ownB v) (ownB v')
/-- The kit's law of an append onto an own row, with where the new row lies. -/
theorem run_append_own' {P : Program} (w : World) (t ty e : TypeId) (i : TypeInfo) (z : Value) (size bytes : Nat) (ht : P.underlying t = some (.slice e)) (hi : P.info? e = some i) (hz : i.zero = some z)
    (hsize : i.size = size) (hby : i.bytes = bytes) (hzs : z.cells.size = size) (hsz : 0 < size)
    (v : Value) (n : Nat) (xs : List Value) (hown : w.ownsRow 0 e size v n xs)
    (a : Addr) (m c : Nat) (news : List Value) (hl : news.length = m * size) (hnews : ∀ j u, news[j]? = some u → w.cell? (a.add j) = some u) (h1 : ∀ u ∈ news, u.oneCell' = true)
    (h63 : n + m ≤ maxLen) (hbytes : (n + m) * bytes ≤ 140737488355328) :
    ∃ v' w', (Builtin.append_ #[t, t] ty #[v, .slice (some a) m c]).run P w = .ok v' w' ∧ w'.ownsRow 0 e size v' (n + m) (xs ++ news) ∧ Upd w w' (ownB v) ∧ Fresh w (ownB v) (ownB v') := by
  obtain ⟨v', w', h1', h2, h3, h4⟩ := run_append_own (P := P) w 0 t ty e i z size bytes ht hi hz hsize hby hzs hsz v n xs hown a m c news hl hnews h1 h63 hbytes (Nat.zero_le _)
  refine ⟨v', w', h1', h2, Upd.of_grown h3, ?_⟩
  subst hsize
  subst hby
  simp only [maxLen] at h63
  rcases owns_cases hown with ⟨rfl, rfl, rfl⟩ | ⟨g, cap, S, rfl, hb, hc, hcm, hcs, ho, hx⟩
  · by_cases hm : m = 0
    · have := h4.2 ⟨rfl, hm⟩
      subst this
      exact fresh_same w _ (ownB_le _)
    · have hr := run_append_nil (P := P) w t ty e i z ht hi hz a m c news hl hnews (by omega) (by omega) (by have hb := hbytes; simp only [Nat.zero_add] at hb; omega)
      rw [hr] at h1'
      cases h1'
      exact fresh_new w _ w.heap.size (Nat.le_refl _)
  · by_cases hroom : n + m ≤ cap
    · have hfit : n * i.size + news.length ≤ (xs ++ S).toArray.size := by rw [List.size_toArray, hcs, hl, ← Nat.add_mul]; exact Nat.mul_le_mul_right _ hroom
      have hr := run_append_room (P := P) w t ty e i ht hi g n cap (xs ++ S).toArray hb a m c news hl hnews h1 hroom hfit
      rw [hr] at h1'
      cases h1'
      exact fresh_same w _ (ownB_le _)
    · have holds : ∀ j u, xs[j]? = some u → w.cell? ((⟨g, 0, none⟩ : Addr).add j) = some u := hown.cells (g := g) rfl
      have hr := run_append_grow (P := P) w t ty e i z ht hi hz ⟨g, 0, none⟩ n cap xs hown.1 holds a m c news hl hnews (by omega) (by omega) (growslice_fits (by omega) hbytes)
      rw [hr] at h1'
      cases h1'
      exact fresh_new w _ w.heap.size (Nat.le_refl _)
theorem zero_cells_one {z : Array Value} {n : Nat} (h : ∀ u ∈ z.toList, u.oneCell' = true) (hz : 0 < z.size) : ∀ u ∈ (Builtin.zeroCells z n).toList, u.oneCell' = true := by
  intro u hu
  simp [Builtin.zeroCells] at hu
  obtain ⟨i, hi, rfl⟩ := hu
  have hm : i % z.size < z.size := Nat.mod_lt _ hz
  rw [getElem!_pos z _ hm]
  exact h _ (by simp)
end Go.Proofs.Qxb6003818a
