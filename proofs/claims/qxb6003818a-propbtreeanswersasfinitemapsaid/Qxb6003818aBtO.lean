import Derived.Test.Qxb6003818aBtN
namespace Go.Proofs.Qxb6003818a
open Go.ChangeShapes Go.WideShapes Go.ChangeAt Go.RowKit
set_option linter.unusedVariables false
set_option linter.unusedSimpArgs false

/-- One step of a script: kind, key, value. -/
abbrev Op3 := Int × Str × Int
/-- The steps that came in; their block lies below B. -/
def Ops (w : World) (B : Nat) (a : Option Addr) (ops : List Op3) : Prop :=
  ∀ i (h : i < ops.length), ∃ b off, a = some ⟨b, off, none⟩ ∧ b < B ∧ w.cell? ⟨b, off + i * 3, none⟩ = some (.int .i64 ops[i].1) ∧ w.cell? ⟨b, off + i * 3 + 1, none⟩ = some (strV ops[i].2.1) ∧ w.cell? ⟨b, off + i * 3 + 2, none⟩ = some (.int .i64 ops[i].2.2)
theorem Ops.upd {w w' : World} {F : List Nat} {B : Nat} {a : Option Addr} {ops : List Op3} (h : Ops w B a ops) (hu : Upd w w' F) (hF : ∀ k, k < B → F.count k = 0) : Ops w' B a ops := by
  intro i hi
  obtain ⟨b, off, h1, h2, h3, h4, h5⟩ := h i hi
  have e : ∀ o v, w.cell? ⟨b, o, none⟩ = some v → w'.cell? ⟨b, o, none⟩ = some v := fun o v hc => (World.cell?_of_block (a := ⟨b, o, none⟩) (hu.block b (World.block_lt_of_cell? w ⟨b, o, none⟩ hc) (hF b h2))).trans hc
  exact ⟨b, off, h1, h2, e _ _ h3, e _ _ h4, e _ _ h5⟩

/-- Some truth value; the world is as it was. -/
def SomeBool (w : World) (e : Ending) (w' : World) : Prop := ∃ b, e = .returned (.bool b) ∧ w' = w

set_option maxHeartbeats 4000000 in
/-- btLongKey. -/
theorem long12 (a : Option Addr) (c B : Nat) (ops : List Op3) (w : World) (hO : Ops w B a ops) (hn : ops.length ≤ 5000) :
    Calls Try.prog 12 #[.slice a ops.length c] w (SomeBool w) := by
  have HO : Hid (Ops w B a ops) := hO
  clear hO
  obtain ⟨n, hn'⟩ : ∃ n, n = ops.length := ⟨_, rfl⟩
  rw [← hn']
  have HNN : Hid (n = ops.length) := hn'
  clear hn'
  go_enter Try.func12, Try.ntmps12
  go_wp2
  go_loopg [3] n (fun kx s4 wr => ∃ i : Nat, s4 = .int .i64 i ∧ i ≤ n ∧ n - i ≤ kx ∧ wr = w)
  case atStart => exact ⟨0, rfl, Nat.zero_le _, by omega, rfl⟩
  case round =>
    obtain ⟨i, rfl, him, hk, rfl⟩ := hrel
    by_cases hlt : i < n
    · have hio : i < ops.length := by rw [← HNN.out]; exact hlt
      obtain ⟨b, off, rfl, -, -, h1, -⟩ := HO.out i hio
      have hlz : (i : Int) < (n : Int) := by omega
      generalize ops[i] = o at *
      obtain ⟨ok, okey, oval⟩ := o
      simp only at h1
      by_cases hl : (4096 : Int) < (okey.length : Int)
      · go_wp2
        go_ret
        exact ⟨true, rfl, rfl⟩
      · go_wp2
        go_roundg (n - (i + 1))
        case measure => omega
        case rel => exact ⟨i + 1, by simp, by omega, Nat.le_refl _, rfl⟩
    · have hlz : ¬ (i : Int) < (n : Int) := by omega
      go_wp2
      go_ret
      exact ⟨false, rfl, rfl⟩

set_option maxHeartbeats 4000000 in
/-- ZZBtUseRoom on an empty map. -/
theorem room30 (tb nb rb rs : Nat) (Z : List Value) (w : World) (ht : Blk w tb 61 [.pointer none, .int .i64 0]) (hnb : Blk w nb 65 [.slice none 0 0, .slice none 0 0]) (hrb : Blk w rb 105 Z) (hZ : Z.length = rs * 5) (h64 : rs ≤ 64) (h1 : tb ≠ nb) (h2 : tb ≠ rb) (h3 : nb ≠ rb) :
    Calls Try.prog 30 #[ptr tb, ptr nb, .slice (some ⟨rb, 0, none⟩) rs rs] w fun e w' => e = .returned (.tuple #[]) ∧ MapAt w' tb [] [nb, rb] ∧ Upd w w' [tb, nb] := by
  obtain ⟨q0, q1, qf0, qf1⟩ := ht.two
  obtain ⟨p0, p1, pf0, pf1⟩ := hnb.two
  have F : Hid (MapAt (((w.setCell ⟨nb, 0, none⟩ (.slice (some ⟨rb, 0, none⟩) 0 rs)).setCell ⟨nb, 1, none⟩ (.slice none 0 0)).setCell ⟨tb, 0, none⟩ (ptr nb)) tb [] [nb, rb] ∧ Upd w (((w.setCell ⟨nb, 0, none⟩ (.slice (some ⟨rb, 0, none⟩) 0 rs)).setCell ⟨nb, 1, none⟩ (.slice none 0 0)).setCell ⟨tb, 0, none⟩ (ptr nb)) [tb, nb]) := by
    have b1 := hnb.set 0 (.slice (some ⟨rb, 0, none⟩) 0 rs)
    have u1 := Upd.setCell w nb 0 (.slice (some ⟨rb, 0, none⟩) 0 rs) hnb [nb] (by simp)
    have b2 := b1.set 1 (.slice none 0 0)
    have u2 := Upd.setCell _ nb 1 (.slice none 0 0) b1 [nb] (by simp)
    have u12 := u1.trans u2 (fun _ _ h => h)
    have t2 := ht.upd u12 (by rw [count_one, if_neg (fun e => h1 e.symm)])
    have r2 := hrb.upd u12 (by rw [count_one, if_neg h3])
    have b3 := t2.set 0 (ptr nb)
    have u3 := Upd.setCell _ tb 0 (ptr nb) t2 [tb] (by simp)
    have n3 := b2.upd u3 (by rw [count_one, if_neg h1])
    have r3 := r2.upd u3 (by rw [count_one, if_neg h2])
    have hc : ∀ k, [nb, rb].count k = (if nb = k then 1 else 0) + (if rb = k then 1 else 0) := fun k => by
      rw [show [nb, rb] = [nb] ++ [rb] from rfl, List.count_append, count_one, count_one]
    refine ⟨⟨⟨ptr nb, b3, .inr ⟨0, ⟨nb, [], [nb, rb]⟩, rfl, tree_iff.2 ⟨.slice (some ⟨rb, 0, none⟩) 0 rs, .slice none 0 0, [], [], n3, owns_mk (S := Z) (by simpa using r3) (by simp) (Nat.zero_le _) (by omega) (by simpa using hZ), World.ownsRow_nil _ _ _ _, Nat.zero_le _, fun _ => ⟨rfl, rfl⟩, fun h => by omega, fun x hx => by simp at hx, rfl, rfl⟩, fun h => by omega, rfl, rfl⟩⟩, List.Pairwise.nil, fun k => ?_, ?_⟩, ?_⟩
    · rw [hc]
      by_cases e1 : nb = k
      · rw [if_pos e1, if_neg (fun e2 => h3 (e1.trans e2.symm))]; omega
      · rw [if_neg e1]; split <;> omega
    · rw [hc, if_neg (fun e => h1 e.symm), if_neg (fun e => h2 e.symm)]
    · refine (u12.mono (fun k _ h => ?_)).trans u3 (fun k _ h => ?_)
      · rw [show [tb, nb] = [tb] ++ [nb] from rfl, List.count_append] at h; omega
      · rw [show [tb, nb] = [tb] ++ [nb] from rfl, List.count_append] at h; omega
  clear ht hnb hrb hZ
  go_enter Try.func30, Try.ntmps30
  go_wp2
  first | (refine bodyPost_ret (results_none rfl _ _ _) rfl ?_) | (refine bodyPost_end (results_none rfl _ _ _) rfl ?_)
  go_wp2
  first | (refine bodyPost_ret (results_none rfl _ _ _) rfl ?_) | (refine bodyPost_end (results_none rfl _ _ _) rfl ?_)
  exact ⟨rfl, F.out⟩
end Go.Proofs.Qxb6003818a
