import Derived.Test.Qxb6003818aBtE
import Derived.Test.Qxb6003818aBtJ
import Derived.Test.Qxb6003818aBtL
namespace Go.Proofs.Qxb6003818a
open Go.ChangeShapes Go.WideShapes Go.ChangeAt Go.RowKit
set_option linter.unusedVariables false
set_option linter.unusedSimpArgs false

abbrev sK (L : List (Str × Nat)) : List Value := L.map (fun p => strV p.1)
abbrev sA (L : List (Str × Nat)) : List Value := L.map (fun p => Value.int .i64 (p.2 : Int))
/-- The places of the run's own blocks. -/
structure Places (w : World) (B tb kb ab vb : Nat) : Prop where
  hB : B ≤ w.heap.size
  t : w.heap.size ≤ tb
  k : w.heap.size ≤ kb
  a : w.heap.size ≤ ab
  v : vb < w.heap.size
  tk : tb ≠ kb
  ta : tb ≠ ab
  ka : kb ≠ ab
/-- The map's tree touches none of the run's other blocks. -/
structure Away (w : World) (ft : List Nat) (kb ab : Nat) : Prop where
  k : ft.count kb = 0
  a : ft.count ab = 0
  low : ∀ q, q < w.heap.size → ft.count q = 0
/-- The run's memory, but for the map. -/
structure Mem (w wr : World) (B : Nat) (a : Option Addr) (ops : List Op3) (vals : List KR) (kb ab vb n : Nat) (L : List (Str × Nat)) : Prop where
  keys : ∃ S, Blk wr kb 9 (sK L ++ S) ∧ (sK L ++ S).length = n
  ats : ∃ S, Blk wr ab 3 (sA L ++ S) ∧ (sA L ++ S).length = n
  vals : Blk wr vb 38 (vals.flatMap encK)
  ops : Ops wr B a ops
  upd : Upd w wr []
section
variable {w wr w' : World} {B tb kb ab vb n : Nat} {a : Option Addr} {ops : List Op3} {vals : List KR} {L L' : List (Str × Nat)} {ft ft' : List Nat} {fl : List Item}
theorem Mem.grow (M : Mem w wr B a ops vals kb ab vb n L) (hu : Upd wr w' []) : Mem w w' B a ops vals kb ab vb n L := by
  obtain ⟨S, h1, h2⟩ := M.keys
  obtain ⟨T, h3, h4⟩ := M.ats
  exact ⟨⟨S, h1.upd hu (by simp), h2⟩, ⟨T, h3.upd hu (by simp), h4⟩, M.vals.upd hu (by simp), M.ops.upd hu (fun _ _ => by simp), M.upd.trans hu (fun _ _ _ => by simp)⟩
/-- The map has turned. -/
theorem Mem.turn (M : Mem w wr B a ops vals kb ab vb n L) (P : Places w B tb kb ab vb) (A : Away w ft kb ab) (T : MapTurns wr w' tb ft ft') : Mem w w' B a ops vals kb ab vb n L ∧ Away w ft' kb ab := by
  obtain ⟨S, h1, h2⟩ := M.keys
  obtain ⟨S', h3, h4⟩ := M.ats
  have c : ∀ q, q ≠ tb → ft.count q = 0 → (tb :: ft).count q = 0 := fun q hq hf => by
    have e : (tb == q) = false := by rw [beq_eq_false_iff_ne]; exact fun e => hq e.symm
    rw [List.count_cons, hf, e]
    simp
  have hlow : ∀ q, q < w.heap.size → (tb :: ft).count q = 0 := fun q hq => c q (by have := P.t; omega) (A.low q hq)
  refine ⟨⟨⟨S, h1.upd T.upd (c kb (fun e => P.tk e.symm) A.k), h2⟩, ⟨S', h3.upd T.upd (c ab (fun e => P.ta e.symm) A.a), h4⟩, M.vals.upd T.upd (hlow vb P.v), M.ops.upd T.upd (fun q hq => hlow q (by have := P.hB; omega)), M.upd.trans T.upd (fun q hq _ => hlow q hq)⟩, ?_, ?_, fun q hq => ?_⟩
  · have := (T.fresh kb).1 h1.lt; have := A.k; omega
  · have := (T.fresh ab).1 h3.lt; have := A.a; omega
  · have := (T.fresh q).1 (Nat.lt_of_lt_of_le hq M.upd.size); have := A.low q hq; omega
/-- The keys or the places have turned: what else stands. -/
theorem other_map (H : MapAt wr tb fl ft) {b : Nat} (hu : Upd wr w' [b]) (hb : ft.count b = 0) (ht : tb ≠ b) : MapAt w' tb fl ft := by
  obtain ⟨root, h1, hr⟩ := H.root
  refine ⟨⟨root, h1.upd hu (by rw [count_one, if_neg (fun e => ht e.symm)]), ?_⟩, H.asc, H.sep, H.own⟩
  have hz : ∀ (t : Kid), t.ft = ft → ∀ k, 0 < t.ft.count k → [b].count k = 0 := fun t e k hk => one_zero (F := t.ft) (by rw [e]; exact hb) k hk
  rcases hr with h | ⟨h, t, e1, e2, e3, e4, e5⟩
  · exact .inl h
  · exact .inr ⟨h, t, e1, tree_upd hu e2 (hz t e5), fun h0 => tree_upd hu (e3 h0) (hz t e5), e4, e5⟩
end
theorem at_nodup {L : List (Str × Nat)} {key : Str} {j : Int} (h : At (L.map Prod.fst) key j) : (j = -1 ∧ key ∉ L.map Prod.fst) ∨ ∃ (i t : Nat) (X Y : List (Str × Nat)), j = i ∧ L = X ++ (key, t) :: Y ∧ X.length = i := by
  rcases h with h | ⟨i, h1, h2⟩
  · exact .inl h
  · rw [List.getElem?_map] at h2
    obtain ⟨p, hp, he⟩ := Option.map_eq_some_iff.1 h2
    obtain ⟨hi, hpe⟩ := List.getElem?_eq_some_iff.1 hp
    refine .inr ⟨i, p.2, L.take i, L.drop (i + 1), h1, ?_, by rw [List.length_take]; omega⟩
    have : (key, p.2) = L[i] := by rw [hpe, ← he]
    rw [this, List.getElem_cons_drop, List.take_append_drop]
end Go.Proofs.Qxb6003818a
