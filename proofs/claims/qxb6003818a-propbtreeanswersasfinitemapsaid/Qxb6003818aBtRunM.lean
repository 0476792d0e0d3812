import Derived.Test.Qxb6003818aBtRun0
namespace Go.Proofs.Qxb6003818a
open Go.RowKit
set_option linter.unusedVariables false
set_option linter.unusedSimpArgs false
section
variable {w wr w' : World} {B tb kb ab vb n : Nat} {a : Option Addr} {ops : List Op3} {vals : List KR} {L L' : List (Str × Nat)}
/-- A store into the keys' block. -/
theorem Mem.storeK (M : Mem w wr B a ops vals kb ab vb n L) (P : Places w B tb kb ab vb) {j : Nat} {v : Value} (hk : ∃ S, Blk (wr.setCell ⟨kb, j, none⟩ v) kb 9 (sK L' ++ S) ∧ (sK L' ++ S).length = n) (ha : sA L' = sA L) : Mem w (wr.setCell ⟨kb, j, none⟩ v) B a ops vals kb ab vb n L' := by
  obtain ⟨S, h1, h2⟩ := M.keys
  obtain ⟨T, h3, h4⟩ := M.ats
  have hu := Upd.setCell wr kb j v h1 [kb] (by simp)
  have c : ∀ q, q ≠ kb → [kb].count q = 0 := fun q hq => by rw [count_one, if_neg (fun e => hq e.symm)]
  have hB := P.hB; have hK := P.k; have hV := P.v
  exact ⟨hk, ⟨T, by rw [ha]; exact h3.upd hu (c ab (fun e => P.ka e.symm)), by rw [ha]; exact h4⟩, M.vals.upd hu (c vb (by omega)), M.ops.upd hu (fun q hq => c q (by omega)), M.upd.trans hu (fun q hq _ => c q (by omega))⟩
/-- A store into the places' block. -/
theorem Mem.storeA (M : Mem w wr B a ops vals kb ab vb n L) (P : Places w B tb kb ab vb) {j : Nat} {v : Value} (ha : ∃ S, Blk (wr.setCell ⟨ab, j, none⟩ v) ab 3 (sA L' ++ S) ∧ (sA L' ++ S).length = n) (hk : sK L' = sK L) : Mem w (wr.setCell ⟨ab, j, none⟩ v) B a ops vals kb ab vb n L' := by
  obtain ⟨S, h1, h2⟩ := M.keys
  obtain ⟨T, h3, h4⟩ := M.ats
  have hu := Upd.setCell wr ab j v h3 [ab] (by simp)
  have c : ∀ q, q ≠ ab → [ab].count q = 0 := fun q hq => by rw [count_one, if_neg (fun e => hq e.symm)]
  have hB := P.hB; have hK := P.a; have hV := P.v
  exact ⟨⟨S, by rw [hk]; exact h1.upd hu (c kb P.ka), by rw [hk]; exact h2⟩, ha, M.vals.upd hu (c vb (by omega)), M.ops.upd hu (fun q hq => c q (by omega)), M.upd.trans hu (fun q hq _ => c q (by omega))⟩
theorem Mem.setA (M : Mem w wr B a ops vals kb ab vb n L) (P : Places w B tb kb ab vb) {j t : Nat} (hj : j < L.length) : Mem w (wr.setCell ⟨ab, j, none⟩ (.int .i64 (t : Int))) B a ops vals kb ab vb n (L.set j (L[j].1, t)) := by
  obtain ⟨T, h3, h4⟩ := M.ats
  have e1 : sA (L.set j (L[j].1, t)) = (sA L).set j (.int .i64 (t : Int)) := by simp [sA, List.map_set]
  refine M.storeA P ⟨T, ?_, ?_⟩ ?_
  · have := h3.set j (.int .i64 (t : Int))
    rw [List.set_append_left _ _ (by simpa using hj)] at this
    rw [e1]; exact this
  · rw [List.length_append] at h4 ⊢; simpa [sA] using h4
  · show (L.set j (L[j].1, t)).map _ = L.map _
    rw [List.map_set]
    have : (L.map (fun p => strV p.1))[j]'(by simpa using hj) = strV L[j].1 := by simp
    rw [← this, List.set_getElem_self]
theorem Mem.setK (M : Mem w wr B a ops vals kb ab vb n L) (P : Places w B tb kb ab vb) {j : Nat} {k : Str} (hj : j < L.length) : Mem w (wr.setCell ⟨kb, j, none⟩ (strV k)) B a ops vals kb ab vb n (L.set j (k, L[j].2)) := by
  obtain ⟨T, h3, h4⟩ := M.keys
  have e1 : sK (L.set j (k, L[j].2)) = (sK L).set j (strV k) := by simp [sK, List.map_set]
  refine M.storeK P ⟨T, ?_, ?_⟩ ?_
  · have := h3.set j (strV k)
    rw [List.set_append_left _ _ (by simpa using hj)] at this
    rw [e1]; exact this
  · rw [List.length_append] at h4 ⊢; simpa [sK] using h4
  · show (L.set j (k, L[j].2)).map _ = L.map _
    rw [List.map_set]
    have : (L.map (fun p => Value.int .i64 (p.2 : Int)))[j]'(by simpa using hj) = Value.int .i64 (L[j].2 : Int) := by simp
    rw [← this, List.set_getElem_self]
/-- The last entry takes the place of the j-th; the end is cut off. -/
theorem Mem.swap (M : Mem w wr B a ops vals kb ab vb n L) (P : Places w B tb kb ab vb) {j : Nat} (hj : j < L.length) {g : Str × Nat} :
    Mem w ((wr.setCell ⟨kb, j, none⟩ (strV g.1)).setCell ⟨ab, j, none⟩ (.int .i64 (g.2 : Int))) B a ops vals kb ab vb n (L.set j g).dropLast := by
  have M1 := M.setK P (k := g.1) hj
  have M2 := M1.setA P (j := j) (t := g.2) (by simpa using hj)
  have e2 : (L.set j (g.1, L[j].2)).set j (((L.set j (g.1, L[j].2))[j]'(by simpa using hj)).1, g.2) = L.set j g := by simp
  rw [e2] at M2
  obtain ⟨S, h1, h2⟩ := M2.keys
  obtain ⟨T, h3, h4⟩ := M2.ats
  have hne : L.set j g ≠ [] := List.ne_nil_of_length_pos (by simp; omega)
  have hd : L.set j g = (L.set j g).dropLast ++ [(L.set j g).getLast hne] := (List.dropLast_concat_getLast hne).symm
  have eK : sK (L.set j g) ++ S = sK (L.set j g).dropLast ++ (strV ((L.set j g).getLast hne).1 :: S) := by
    have := congrArg sK hd
    rw [this]; simp [sK]
  have eA : sA (L.set j g) ++ T = sA (L.set j g).dropLast ++ (.int .i64 (((L.set j g).getLast hne).2 : Int) :: T) := by
    have := congrArg sA hd
    rw [this]; simp [sA]
  exact ⟨⟨_, by rw [← eK]; exact h1, by rw [← eK]; exact h2⟩, ⟨_, by rw [← eA]; exact h3, by rw [← eA]; exact h4⟩, M2.vals, M2.ops, M2.upd⟩
/-- Both rows take one more. -/
theorem Mem.push {W4 W5 : World} {key : Str} {i m : Nat} (M : Mem w wr B a ops vals kb ab vb n L) (P : Places w B tb kb ab vb) (hm : m = L.length) (hmn : m < n) (h4 : W4 = wr.setCells kb m [strV key]) (h5 : Upd W4 W5 []) :
    Mem w (W5.setCells ab m [.int .i64 (i : Int)]) B a ops vals kb ab vb n (L ++ [(key, i)]) ∧ Upd wr W4 [kb] ∧ Upd W5 (W5.setCells ab m [.int .i64 (i : Int)]) [ab] := by
  obtain ⟨S, k1, k2⟩ := M.keys
  obtain ⟨T, a1, a2⟩ := M.ats
  subst hm
  rw [List.length_append, List.length_map] at k2 a2
  cases S with
  | nil => simp at k2; omega
  | cons s S =>
    cases T with
    | nil => simp at a2; omega
    | cons t T =>
      have u1 : Upd wr W4 [kb] := by rw [h4]; exact upd_setCells [kb] (by simp) _ _ k1
      have k3 : Blk W4 kb 9 (sK (L ++ [(key, i)]) ++ S) := by
        have := blk_put [strV key] (X := sK L) (Y := [s]) (Z := S) (by simpa using k1) rfl
        rw [List.length_map] at this
        rw [h4]; simpa [sK] using this
      have c : ∀ b q, q ≠ b → [b].count q = 0 := fun b q hq => by rw [count_one, if_neg (fun e => hq e.symm)]
      have a5 := (a1.upd u1 (c kb ab (fun e => P.ka e.symm))).upd h5 (by simp)
      have u2 : Upd W5 (W5.setCells ab L.length [.int .i64 (i : Int)]) [ab] := upd_setCells [ab] (by simp) _ _ a5
      have a6 : Blk (W5.setCells ab L.length [.int .i64 (i : Int)]) ab 3 (sA (L ++ [(key, i)]) ++ T) := by
        have := blk_put [.int .i64 (i : Int)] (X := sA L) (Y := [t]) (Z := T) (by simpa using a5) rfl
        rw [List.length_map] at this
        simpa [sA] using this
      have hB := P.hB; have hK := P.k; have hA := P.a; have hV := P.v
      refine ⟨⟨⟨S, (k3.upd h5 (by simp)).upd u2 (c ab kb P.ka), ?_⟩, ⟨T, a6, ?_⟩, ((M.vals.upd u1 (c kb vb (by omega))).upd h5 (by simp)).upd u2 (c ab vb (by omega)), ((M.ops.upd u1 (fun q hq => c kb q (by omega))).upd h5 (fun _ _ => by simp)).upd u2 (fun q hq => c ab q (by omega)), ((M.upd.trans u1 (fun q hq _ => c kb q (by omega))).trans h5 (fun _ _ _ => by simp)).trans u2 (fun q hq _ => c ab q (by omega))⟩, u1, u2⟩
      · simp [sK] at k2 ⊢; omega
      · simp [sA] at a2 ⊢; omega
end
end Go.Proofs.Qxb6003818a
