import Derived.Test.Qxb6003818aBtI
import Derived.Deep.LoopGhost
import Derived.Shelf.SlSorted.Search
namespace Go.Proofs.Qxb6003818a
open Go.ChangeShapes Go.WideShapes Go.ChangeAt Go.RowKit Go.Shelf Go.Lib
set_option linter.unusedVariables false
set_option linter.unusedSimpArgs false

abbrev strV (k : Str) : Value := .string ⟨k.toArray⟩
theorem flatI_len (l : List Item) : (l.flatMap encI).length = l.length * 5 := by
  induction l with
  | nil => rfl
  | cons x l ih => rw [List.flatMap_cons, List.length_append, ih, List.length_cons]; simp [encI, encK]; omega
theorem flatI_take : ∀ (l : List Item) (i : Nat), (l.flatMap encI).take (i * 5) = (l.take i).flatMap encI
  | [], i => by simp
  | x :: l, 0 => by simp
  | x :: l, i + 1 => by
    have := flatI_take l i
    rw [List.flatMap_cons, List.take_succ_cons, List.flatMap_cons, ← this, show (i + 1) * 5 = (encI x).length + i * 5 by simp [encI, encK]; omega, List.take_length_add_append]
theorem flatI_drop : ∀ (l : List Item) (i : Nat), (l.flatMap encI).drop (i * 5) = (l.drop i).flatMap encI
  | [], i => by simp
  | x :: l, 0 => by simp
  | x :: l, i + 1 => by
    have := flatI_drop l i
    rw [List.flatMap_cons, List.drop_succ_cons, ← this, show (i + 1) * 5 = (encI x).length + i * 5 by simp [encI, encK]; omega, List.drop_length_add_append]
theorem flatI_one (l : List Item) : ∀ u ∈ l.flatMap encI, u.oneCell' = true := by
  intro u hu
  obtain ⟨x, _, hx⟩ := List.mem_flatMap.1 hu
  simp [encI, encK] at hx
  rcases hx with rfl | rfl | rfl | rfl | rfl <;> rfl
/-- The five cells of an item in its row. -/
theorem row_item {w : World} {v : Value} {its : List Item} (h : w.ownsRow 0 105 5 v its.length (its.flatMap encI)) {i : Nat} (hi : i < its.length) :
    ∃ r cap, v = .slice (some ⟨r, 0, none⟩) its.length cap ∧ its.length ≤ cap ∧ cap ≤ 9223372036854775807 ∧ ownB v = [r] ∧ r < w.heap.size ∧
      w.cell? ⟨r, i * 5, none⟩ = some (strV its[i].1) ∧ w.cell? ⟨r, i * 5 + 1, none⟩ = some (strV its[i].2.1) ∧ w.cell? ⟨r, i * 5 + 2, none⟩ = some (strV its[i].2.2.1) ∧
      w.cell? ⟨r, i * 5 + 3, none⟩ = some (.bool its[i].2.2.2.1) ∧ w.cell? ⟨r, i * 5 + 4, none⟩ = some (.bool its[i].2.2.2.2) ∧ ∀ j, w.frozen? ⟨r, j, none⟩ = false := by
  rcases owns_cases h with ⟨_, h2, _⟩ | ⟨r, cap, S, h1, hb, h3, h4, h5, h6, h7⟩
  · omega
  refine ⟨r, cap, h1, h3, h4, h6, hb.lt, ?_⟩
  have e : its = its.take i ++ its[i] :: its.drop (i + 1) := by rw [List.getElem_cons_drop, List.take_append_drop]
  have hl : ((its.take i).flatMap encI).length = i * 5 := by rw [flatI_len, List.length_take]; congr 1; omega
  have hb' : Blk w r 105 ((its.take i).flatMap encI ++ (encI its[i] ++ ((its.drop (i + 1)).flatMap encI ++ S))) := by
    have : its.flatMap encI ++ S = (its.take i).flatMap encI ++ (encI its[i] ++ ((its.drop (i + 1)).flatMap encI ++ S)) := by
      have e2 : its.flatMap encI = (its.take i ++ its[i] :: its.drop (i + 1)).flatMap encI := by rw [← e]
      rw [e2, List.flatMap_append, List.flatMap_cons, List.append_assoc, List.append_assoc]
    rw [← this]; exact hb
  have hg := blk_get hb'
  rw [hl] at hg
  exact ⟨hg 0 _ rfl, hg 1 _ rfl, hg 2 _ rfl, hg 3 _ rfl, hg 4 _ rfl, fun j => hb.free j⟩

theorem blk_new (w : World) (l : List Value) (T : TypeId) : Blk (w.alloc (.cells l.toArray T)) w.heap.size T l := heap_alloc_new w _
theorem size_alloc' (w : World) (o : Obj) : (w.alloc o).heap.size = w.heap.size + 1 := by simp
set_option maxHeartbeats 2000000 in
theorem clo82 (b1 b2 g r n cap i : Nat) (x key : Str) (W : World) (hi : i < n) (h1 : W.cell? ⟨b1, 0, none⟩ = some (ptr g)) (h2 : W.cell? ⟨b2, 0, none⟩ = some (strV key))
    (h3 : W.cell? ⟨g, 0, none⟩ = some (.slice (some ⟨r, 0, none⟩) n cap)) (h4 : W.cell? ⟨r, i * 5, none⟩ = some (strV x)) :
    Calls Try.prog 82 (#[.int .i64 i] ++ #[ptr b1, ptr b2]) W fun e w' => e = .returned (.bool (!Op.bytesLess x key)) ∧ ∃ q, w' = W.drewN q := by
  have hiz : (i : Int) < (n : Int) := by omega
  go_enter Try.func82, Try.ntmps82
  go_wp2
  go_region
  all_goals go_wp2
  all_goals go_ret
  all_goals exact ⟨rfl, 1, rfl⟩

set_option maxHeartbeats 4000000 in
set_option maxRecDepth 1000000 in
/-- sort.Search with a closure that only draws. -/
theorem search81 (g : Nat) (cb : Array Value) (n : Nat) (p : Nat → Bool) (w : World) (eg : ∀ args w, (callFunc g args).run Try.prog w = .ok (.enter g args) w) (hsz : n ≤ 100000)
    (hf : ∀ (m : Nat) (i : Nat), i < n → Calls Try.prog g (#[.int .i64 i] ++ cb) (w.drewN m) fun e w' => e = .returned (.bool (p i)) ∧ ∃ q, w' = (w.drewN m).drewN q)
    (hmono : ∀ a b, a ≤ b → b < n → p a = true → p b = true) :
    Calls Try.prog 81 #[.int .i64 n, .func (.func g) #[] cb] w fun e w' => ∃ k : Nat, (e = .returned (.int .i64 k) ∧ ∃ q, w' = w.drewN q) ∧ k ≤ n ∧ (∀ t, t < k → p t = false) ∧ (∀ t, k ≤ t → t < n → p t = true) := by
  have HF : Aside _ := hf
  have M : Aside _ := hmono
  clear hf hmono
  go_enter Try.func81, Try.ntmps81
  go_wp2
  go_loopg [5, 6] n (fun kx s5 s6 wr => ∃ (lo hi q : Nat), s5 = .int .i64 lo ∧ s6 = .int .i64 hi ∧ lo ≤ hi ∧ hi ≤ n ∧ hi - lo ≤ kx ∧ wr = w.drewN q ∧
    Aside ((∀ t, t < lo → p t = false) ∧ (∀ t, hi ≤ t → t < n → p t = true)))
  case atStart => exact ⟨0, n, 0, rfl, rfl, Nat.zero_le _, Nat.le_refl _, by omega, rfl, (⟨fun t ht => absurd ht (Nat.not_lt_zero _), fun t h1 h2 => by omega⟩ : (∀ t, t < 0 → p t = false) ∧ (∀ t, n ≤ t → t < n → p t = true))⟩
  case round =>
    obtain ⟨lo, hi, q, rfl, rfl, hlh, hin, hg, rfl, I⟩ := hrel
    by_cases hlt : lo < hi
    · have hc := HF.out q ((lo + hi) / 2) (by omega)
      rw [show (((lo + hi) / 2 : Nat) : Int) = ((lo : Int) + (hi : Int)) / 2 by omega] at hc
      cases hp : p ((lo + hi) / 2) <;> rw [hp] at hc
      · have HP : Aside (p ((lo + hi) / 2) = false) := hp
        clear hp
        go_wp2_with (go_at_fn g; refine hc.mono ?_; rintro e w' ⟨rfl, nq, rfl⟩)
        go_roundg (hi - ((lo + hi) / 2 + 1))
        case measure => omega
        case rel =>
          have I2 : Aside ((∀ t, t < (lo + hi) / 2 + 1 → p t = false) ∧ (∀ t, hi ≤ t → t < n → p t = true)) := ⟨fun t ht => (by
            cases h : p t with
            | false => rfl
            | true => have := M.out t ((lo + hi) / 2) (by omega) (by omega) h; rw [HP.out] at this; cases this), I.out.2⟩
          exact ⟨(lo + hi) / 2 + 1, hi, q + nq, by rw [show ((lo : Int) + (hi : Int)) / 2 + 1 = (((lo + hi) / 2 + 1 : Nat) : Int) by omega], rfl, by omega, hin, Nat.le_refl _, by first | rfl | rw [World.drewN_drewN], I2⟩
      · have HP : Aside (p ((lo + hi) / 2) = true) := hp
        clear hp
        go_wp2_with (go_at_fn g; refine hc.mono ?_; rintro e w' ⟨rfl, nq, rfl⟩)
        go_roundg ((lo + hi) / 2 - lo)
        case measure => omega
        case rel =>
          have I2 : Aside ((∀ t, t < lo → p t = false) ∧ (∀ t, (lo + hi) / 2 ≤ t → t < n → p t = true)) := ⟨I.out.1, fun t ht htn => M.out ((lo + hi) / 2) t ht htn HP.out⟩
          exact ⟨lo, (lo + hi) / 2, q + nq, rfl, by rw [show ((lo : Int) + (hi : Int)) / 2 = (((lo + hi) / 2 : Nat) : Int) by omega], by omega, by omega, Nat.le_refl _, by first | rfl | rw [World.drewN_drewN], I2⟩
    · obtain rfl : hi = lo := by omega
      go_wp2
      go_ret
      exact ⟨hi, ⟨rfl, q, rfl⟩, hin, I.out.1, I.out.2⟩

theorem hit_at {key : Str} {its : List Item} (ha : Asc its) {k : Nat} (hk : k ≤ its.length) (h1 : ∀ t (h : t < its.length), t < k → its[t].1 < key) (h2 : ∀ t (h : t < its.length), k ≤ t → ¬ its[t].1 < key) : k = posL key its := by
  have := pos_of (key := key) (I := its.take k) (J := its.drop k) (fun x hx => by
    obtain ⟨t, ht, rfl⟩ := List.mem_iff_getElem.1 hx
    rw [List.length_take] at ht
    rw [List.getElem_take]
    exact h1 t (by omega) (by omega)) (fun x hx => by
    obtain ⟨t, ht, rfl⟩ := List.mem_iff_getElem.1 hx
    rw [List.length_drop] at ht
    rw [List.getElem_drop]
    exact h2 _ (by omega) (by omega))
  rw [List.take_append_drop, List.length_take] at this
  omega

set_option maxHeartbeats 4000000 in
set_option maxRecDepth 100000 in
/-- The place of a key among a node's items, and whether it is there. -/
theorem search75 (g : Nat) (key : Str) (v c : Value) (its : List Item) (w : World) (hblk : Blk w g 65 [v, c]) (hrow : w.ownsRow 0 105 5 v its.length (its.flatMap encI)) (hasc : Asc its) (hn : its.length ≤ 100000) :
    Calls Try.prog 75 #[ptr g, strV key] w fun e w' => e = .returned (.tuple #[.int .i64 (posL key its), .bool (hitL key its)]) ∧ Upd w w' [] := by
  obtain ⟨W, hW⟩ : ∃ W, W = (w.alloc (.cells #[ptr g] 59)).alloc (.cells #[strV key] 9) := ⟨_, rfl⟩
  have hu : Upd w W [] := by rw [hW]; exact (Upd.alloc w _ _).trans (Upd.alloc _ _ _) (fun _ _ h => h)
  have hb1 : Blk W w.heap.size 59 [ptr g] := by
    rw [hW]
    have h0 : Blk (w.alloc (.cells #[ptr g] 59)) w.heap.size 59 [ptr g] := heap_alloc_new w _
    exact h0.upd (Upd.alloc _ _ []) (by simp)
  have hb2 : Blk W (w.heap.size + 1) 9 [strV key] := by
    rw [hW]
    have := blk_new (w.alloc (.cells #[ptr g] 59)) [strV key] 9
    rw [size_alloc'] at this
    exact this
  have hrow' := owns_upd hrow hu (fun k hk => by simp)
  have hblk' := hblk.upd hu (by simp)
  obtain ⟨nx, hnx⟩ : ∃ nx : Nat, nx = its.length := ⟨_, rfl⟩
  have hsl : ∃ a cap, v = .slice a nx cap ∧ (0 < nx → ∃ r, a = some ⟨r, 0, none⟩) := by
    rcases owns_cases hrow with ⟨q1, q2, q3⟩ | ⟨r, cap, S, q1, _⟩
    · exact ⟨none, 0, by rw [q1, hnx, q2], fun h => by omega⟩
    · exact ⟨_, _, by rw [q1, hnx], fun _ => ⟨r, rfl⟩⟩
  obtain ⟨a, cap, hv, hr⟩ := hsl
  have hp : ∀ (m i : Nat), i < nx → Calls Try.prog 82 (#[.int .i64 i] ++ #[ptr w.heap.size, ptr (w.heap.size + 1)]) (W.drewN m) fun e w' => e = .returned (.bool (match its[i]? with | some x => !Op.bytesLess x.1 key | none => true)) ∧ ∃ q, w' = (W.drewN m).drewN q := by
    intro m i hi
    have hi' : i < its.length := by omega
    obtain ⟨r, cp, e1, _, _, _, _, e2, _⟩ := row_item hrow' hi'
    rw [List.getElem?_eq_getElem hi']
    exact clo82 w.heap.size (w.heap.size + 1) g r its.length cp i its[i].1 key (W.drewN m) hi' (hb1.cell (i := 0) (by simp)) (hb2.cell (i := 0) (by simp)) (by have := hblk'.cell (i := 0) (by simp); rw [← e1]; exact this) e2
  have hm : ∀ a b, a ≤ b → b < nx → (match its[a]? with | some x => !Op.bytesLess x.1 key | none => true) = true → (match its[b]? with | some x => !Op.bytesLess x.1 key | none => true) = true := by
    intro a b hab hb h
    rw [List.getElem?_eq_getElem (by omega)] at h ⊢
    simp only [less_eq] at h ⊢
    by_cases e : a = b
    · subst e; exact h
    · have := List.pairwise_iff_getElem.1 hasc a b (by omega) (by omega) (by omega)
      simp at h ⊢
      intro hlt
      exact h (List.lt_trans this hlt)
  have X := (search81 82 #[ptr w.heap.size, ptr (w.heap.size + 1)] nx _ W (fun args w => by kernel_rfl) (by omega) hp hm)
  have key2 : ∀ k : Nat, k ≤ nx → (∀ t, t < k → (match its[t]? with | some x => !Op.bytesLess x.1 key | none => true) = false) → (∀ t, k ≤ t → t < nx → (match its[t]? with | some x => !Op.bytesLess x.1 key | none => true) = true) → k = posL key its := by
    intro k hk h1 h2
    refine hit_at hasc (by omega) (fun t ht htk => ?_) (fun t ht htk => ?_)
    · have := h1 t htk
      rw [List.getElem?_eq_getElem ht] at this
      simpa [less_eq] using this
    · have := h2 t htk (by omega)
      rw [List.getElem?_eq_getElem ht] at this
      simpa [less_eq] using this
  have X2 : Calls Try.prog 81 #[.int .i64 nx, .func (.func 82) #[] #[ptr w.heap.size, ptr (w.heap.size + 1)]] W fun e w' => e = .returned (.int .i64 (posL key its)) ∧ ∃ q, w' = W.drewN q := by
    refine X.mono ?_
    rintro e w' ⟨k, ⟨h1, h2⟩, h3, h4, h5⟩
    rw [← key2 k h3 h4 h5]
    exact ⟨h1, h2⟩
  clear X key2 hp hm
  have hpl := pos_le key its
  obtain ⟨k, hk⟩ : ∃ k, k = posL key its := ⟨_, rfl⟩
  have HIT : Hid (hitL key its = (match its[k]? with | some x => decide (x.1 = key) | none => false)) := by rw [hk]; rfl
  rw [← hk] at X2 hpl ⊢
  have c1 : ∀ q, (W.drewN q).cell? ⟨w.heap.size, 0, none⟩ = some (ptr g) := fun q => hb1.cell (i := 0) (by simp)
  have c2 : ∀ q, (W.drewN q).cell? ⟨w.heap.size + 1, 0, none⟩ = some (strV key) := fun q => hb2.cell (i := 0) (by simp)
  have c3 : ∀ q, (W.drewN q).cell? ⟨g, 0, none⟩ = some v := fun q => hblk'.cell (i := 0) (by simp)
  have c30 : W.cell? ⟨g, 0, none⟩ = some v := hblk'.cell (i := 0) (by simp)
  have c10 : W.cell? ⟨w.heap.size, 0, none⟩ = some (ptr g) := hb1.cell (i := 0) (by simp)
  have FIN : ∀ q, Upd w (W.drewN q) [] := fun q => hu.trans (Upd.drewN W q _) (fun _ _ h => h)
  clear hrow hblk
  by_cases hlt : k < nx
  · obtain ⟨r, rfl⟩ := hr (by omega)
    have hlt' : k < its.length := by omega
    obtain ⟨r2, cp, e1, _, _, _, _, e2, _⟩ := row_item hrow' hlt'
    rw [hv] at e1
    cases e1
    rw [HIT.out, List.getElem?_eq_getElem hlt']
    have c4 : ∀ q, (W.drewN q).cell? ⟨r, k * 5, none⟩ = some (strV its[k].1) := fun q => e2
    generalize its[k] = x at *
    obtain ⟨xk, xv⟩ := x
    subst hv
    have hlz : (k : Int) < (its.length : Int) := by omega
    clear hb1 hb2 hrow' hblk' hasc hk HIT hpl e2
    subst hW
    go_enter Try.func75, Try.ntmps75
    go_wp2_with (go_at_call 81; refine X2.mono ?_; rintro e w' ⟨rfl, q, rfl⟩)
    have d1 := c1 q; have d2 := c2 q; have d3 := c3 q; have d4 := c4 q; have d5 := FIN q
    clear c1 c2 c3 c4 c30 c10 FIN X2 hu
    generalize ((w.alloc (Obj.cells #[ptr g] 59)).alloc (Obj.cells #[strV key] 9)).drewN q = W2 at *
    go_quiet (fail)
    go_wp2
    go_ret2
    refine ⟨?_, d5.trans (Upd.drewN _ _ _) (fun _ _ h => h)⟩
    simp
    by_cases h : xk = key <;> simp [h]
  · subst hnx
    have hlz : ¬ (k : Int) < (its.length : Int) := by omega
    have hnone : its[k]? = none := List.getElem?_eq_none (by omega)
    rw [HIT.out, hnone]
    clear hb1 hb2 hrow' hblk' hasc hk HIT hpl hr
    subst hW
    subst hv
    go_enter Try.func75, Try.ntmps75
    go_wp2_with (go_at_call 81; refine X2.mono ?_; rintro e w' ⟨rfl, q, rfl⟩)
    have d1 := c1 q; have d2 := c2 q; have d3 := c3 q; have d5 := FIN q
    clear c1 c2 c3 c30 c10 FIN X2 hu
    generalize ((w.alloc (Obj.cells #[ptr g] 59)).alloc (Obj.cells #[strV key] 9)).drewN q = W2 at *
    go_quiet (fail)
    go_wp2
    go_ret2
    exact ⟨rfl, d5.trans (Upd.drewN _ _ _) (fun _ _ h => h)⟩
end Go.Proofs.Qxb6003818a
