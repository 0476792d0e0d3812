/-
  DERIVED: THE SHELF's CONTRACTS AT THIS DUMP, IN PLAIN WORDS (tools/lay-plain.mjs out of 'Qxb6003793aShelf.lean', which tools/lay-shelf.mjs wrote): THE SAME DECLARATIONS UNDER THE SAME NAMES: 'import', 'namespace', 'open', 'def', 'theorem' AND NOTHING ELSE: no command of the shelf's: FOR A HAND-IN. Each laying: the table of numbers ('.._ren') and one theorem, a field a fact of the dump's own or the kernel's comparison; each contract: ONE APPLICATION.
-/
import Derived.Shelf.Sort.Plain
import Derived.Shelf.Slices.In.SortNone
import Derived.Test.Qxb6003793aProg
namespace Go.Proofs
open Go.Shelf
def Try.lays190_ren : Go.Shelf.Ren := ⟨fun | 190 => 36 | 125 => 41 | 258 => 40 | 128 => 52 | 129 => 53 | 302 => 44 | 303 => 45 | 304 => 46 | 305 => 47 | 306 => 48 | 307 => 49 | 308 => 42 | 309 => 50 | 310 => 51 | 333 => 55 | 329 => 56 | 330 => 57 | 334 => 58 | 335 => 59 | 336 => 54 | 344 => 60 | n => n, fun | 31 => 36 | 9 => 9 | 3 => 3 | 46 => 79 | 0 => 0 | 51 => 30 | 53 => 24 | 4 => 4 | 183 => 84 | 182 => 83 | 131 => 75 | 5 => 5 | 218 => 91 | 222 => 95 | 228 => 97 | 229 => 98 | n => n, fun | n => n⟩
theorem Try.lays190 : Go.Proofs.Lays.n190 Try.prog Try.lays190_ren := {
  mixed := by kernel_rfl
  f125 := Try.func41.trans (congrArg some (by kernel_rfl))
  f128 := Try.func52.trans (congrArg some (by kernel_rfl))
  f129 := Try.func53.trans (congrArg some (by kernel_rfl))
  f190 := Try.func36.trans (congrArg some (by kernel_rfl))
  f258 := Try.func40.trans (congrArg some (by kernel_rfl))
  f302 := Try.func44.trans (congrArg some (by kernel_rfl))
  f303 := Try.func45.trans (congrArg some (by kernel_rfl))
  f304 := Try.func46.trans (congrArg some (by kernel_rfl))
  f305 := Try.func47.trans (congrArg some (by kernel_rfl))
  f306 := Try.func48.trans (congrArg some (by kernel_rfl))
  f307 := Try.func49.trans (congrArg some (by kernel_rfl))
  f308 := Try.func42.trans (congrArg some (by kernel_rfl))
  f309 := Try.func50.trans (congrArg some (by kernel_rfl))
  f310 := Try.func51.trans (congrArg some (by kernel_rfl))
  f329 := Try.func56.trans (congrArg some (by kernel_rfl))
  f330 := Try.func57.trans (congrArg some (by kernel_rfl))
  f333 := Try.func55.trans (congrArg some (by kernel_rfl))
  f334 := Try.func58.trans (congrArg some (by kernel_rfl))
  f335 := Try.func59.trans (congrArg some (by kernel_rfl))
  f336 := Try.func54.trans (congrArg some (by kernel_rfl))
  f344 := Try.func60.trans (congrArg some (by kernel_rfl))
  t0 := Try.underlying0
  a0 := Try.isAgg0
  z0 := Try.sizeOf0
  v0 := Try.zeroValue0
  t3 := Try.underlying3
  a3 := Try.isAgg3
  z3 := Try.sizeOf3
  v3 := Try.zeroValue3
  t4 := Try.underlying4
  a4 := Try.isAgg4
  z4 := Try.sizeOf4
  v4 := Try.zeroValue4
  t5 := Try.underlying5
  a5 := Try.isAgg5
  z5 := Try.sizeOf5
  v5 := Try.zeroValue5
  t9 := Try.underlying9
  a9 := Try.isAgg9
  z9 := Try.sizeOf9
  v9 := Try.zeroValue9
  t31 := Try.underlying36
  a31 := Try.isAgg36
  z31 := Try.sizeOf36
  v31 := Try.zeroValue36
  t46 := Try.underlying79
  a46 := Try.isAgg79
  z46 := Try.sizeOf79
  v46 := Try.zeroValue79
  t51 := Try.underlying30
  a51 := Try.isAgg30
  z51 := Try.sizeOf30
  v51 := Try.zeroValue30
  t53 := Try.underlying24
  a53 := Try.isAgg24
  z53 := Try.sizeOf24
  v53 := Try.zeroValue24
  t131 := Try.underlying75
  a131 := Try.isAgg75
  z131 := Try.sizeOf75
  v131 := Try.zeroValue75
  t182 := Try.underlying83
  a182 := Try.isAgg83
  z182 := Try.sizeOf83
  v182 := Try.zeroValue83
  t183 := Try.underlying84
  a183 := Try.isAgg84
  z183 := Try.sizeOf84
  v183 := Try.zeroValue84
  t218 := Try.underlying91
  a218 := Try.isAgg91
  z218 := Try.sizeOf91
  v218 := Try.zeroValue91
  t222 := Try.underlying95
  a222 := Try.isAgg95
  z222 := Try.sizeOf95
  v222 := Try.zeroValue95
  t228 := Try.underlying97
  a228 := Try.isAgg97
  z228 := Try.sizeOf97
  v228 := Try.zeroValue97
  t229 := Try.underlying98
  a229 := Try.isAgg98
  z229 := Try.sizeOf98
  v229 := Try.zeroValue98 }
open Go.Sort Go.RowKit in
theorem Try.slices_Sort_string (blk off cap : Nat) (ss : List (List UInt8)) (w : World) (hH : Holds encStr w blk off ss.toArray) (hblk : blk < w.heap.size) (hsz : ss.length < 4611686018427387904) :
    Calls Try.prog 36 #[.slice (some ⟨blk, off, none⟩) ss.length cap] w fun e w' =>
      e = .returned (.tuple #[]) ∧ ∃ n os, w' = grow (putRow encStr (Sort.ahead w n) blk off (ss.mergeSort fun x y => decide (x ≤ y)).toArray) os := Any.slices_Sort_string Try.lays190 blk off cap ss w hH hblk hsz
open Go.RowKit Go.Sort in
/-- .. and plain. (LAID: no walk: one application.) -/
theorem Try.slices_Sort_string_none (p : Option Addr) (cap : Nat) (w : World) :
    Calls Try.prog 36 #[.slice p 0 cap] w fun e w' => e = .returned (.tuple #[]) ∧ w' = w := Any.slices_Sort_string_none Try.lays190 p cap w
end Go.Proofs
