/-
  DERIVED: THE SHELF's CONTRACTS AT THIS DUMP, IN PLAIN WORDS (tools/lay-plain.mjs out of 'Qxb6003818aShelf.lean', which tools/lay-shelf.mjs wrote): THE SAME DECLARATIONS UNDER THE SAME NAMES: 'import', 'namespace', 'open', 'def', 'theorem' AND NOTHING ELSE: no command of the shelf's: FOR A HAND-IN. Each laying: the table of numbers ('.._ren') and one theorem, a field a fact of the dump's own or the kernel's comparison; each contract: ONE APPLICATION.
-/
import Derived.Shelf.Small.Bits
import Derived.Shelf.Small.Strs
import Derived.Shelf.SlSortCmp.WholeK
import Derived.Test.Qxb6003818aProg
namespace Go.Proofs
open Go.Shelf
def Try.sortKR_ren : Go.Shelf.Ren := ⟨fun | 6 => 25 | 15 => 38 | 14 => 37 | 28 => 56 | 29 => 57 | 20 => 48 | 21 => 49 | 22 => 50 | 23 => 51 | 24 => 52 | 25 => 53 | 26 => 54 | 27 => 55 | 46 => 68 | 47 => 69 | 48 => 70 | 49 => 71 | 50 => 72 | 57 => 80 | n => n, fun | 22 => 43 | 24 => 38 | 25 => 54 | 3 => 3 | 39 => 79 | 0 => 0 | 53 => 98 | 55 => 50 | 4 => 4 | 46 => 91 | 45 => 90 | 50 => 95 | 5 => 5 | 9 => 9 | 66 => 111 | 70 => 115 | 76 => 125 | 77 => 126 | n => n, fun | n => n⟩
theorem Try.sortKR : Go.Proofs.SlLaysF0.n6 Try.prog Try.sortKR_ren := {
  mixed := by kernel_rfl
  f6 := ⟨Try.f25.name, by decide, Try.func25.trans (congrArg some (by kernel_rfl))⟩
  f14 := ⟨Try.f37.name, by decide, Try.func37.trans (congrArg some (by kernel_rfl))⟩
  f15 := Try.func38.trans (congrArg some (by kernel_rfl))
  f20 := ⟨Try.f48.name, by decide, Try.func48.trans (congrArg some (by kernel_rfl))⟩
  f21 := ⟨Try.f49.name, by decide, Try.func49.trans (congrArg some (by kernel_rfl))⟩
  f22 := ⟨Try.f50.name, by decide, Try.func50.trans (congrArg some (by kernel_rfl))⟩
  f23 := ⟨Try.f51.name, by decide, Try.func51.trans (congrArg some (by kernel_rfl))⟩
  f24 := ⟨Try.f52.name, by decide, Try.func52.trans (congrArg some (by kernel_rfl))⟩
  f25 := ⟨Try.f53.name, by decide, Try.func53.trans (congrArg some (by kernel_rfl))⟩
  f26 := ⟨Try.f54.name, by decide, Try.func54.trans (congrArg some (by kernel_rfl))⟩
  f27 := ⟨Try.f55.name, by decide, Try.func55.trans (congrArg some (by kernel_rfl))⟩
  f28 := Try.func56.trans (congrArg some (by kernel_rfl))
  f29 := Try.func57.trans (congrArg some (by kernel_rfl))
  f46 := ⟨Try.f68.name, by decide, Try.func68.trans (congrArg some (by kernel_rfl))⟩
  f47 := Try.func69.trans (congrArg some (by kernel_rfl))
  f48 := Try.func70.trans (congrArg some (by kernel_rfl))
  f49 := ⟨Try.f71.name, by decide, Try.func71.trans (congrArg some (by kernel_rfl))⟩
  f50 := ⟨Try.f72.name, by decide, Try.func72.trans (congrArg some (by kernel_rfl))⟩
  f57 := ⟨Try.f80.name, by decide, Try.func80.trans (congrArg some (by kernel_rfl))⟩
  t0 := Try.underlying0
  a0 := Try.isAgg0
  z0 := Try.sizeOf0
  v0 := Try.zeroValue0
  t3 := Try.underlying3
  a3 := Try.isAgg3
  z3 := Try.sizeOf3
  v3 := Try.zeroValue3
  t4 := Try.underlying4
  a4 := Try.isAgg4
  z4 := Try.sizeOf4
  v4 := Try.zeroValue4
  t5 := Try.underlying5
  a5 := Try.isAgg5
  z5 := Try.sizeOf5
  v5 := Try.zeroValue5
  t9 := Try.underlying9
  a9 := Try.isAgg9
  z9 := Try.sizeOf9
  v9 := Try.zeroValue9
  t22 := Try.underlying43
  a22 := Try.isAgg43
  z22 := Try.sizeOf43
  v22 := Try.zeroValue43
  t25 := Try.underlying54
  a25 := Try.isAgg54
  z25 := Try.sizeOf54
  v25 := Try.zeroValue54
  t39 := Try.underlying79
  a39 := Try.isAgg79
  z39 := Try.sizeOf79
  v39 := Try.zeroValue79
  t45 := Try.underlying90
  a45 := Try.isAgg90
  z45 := Try.sizeOf90
  v45 := Try.zeroValue90
  t46 := Try.underlying91
  a46 := Try.isAgg91
  z46 := Try.sizeOf91
  v46 := Try.zeroValue91
  t50 := Try.underlying95
  a50 := Try.isAgg95
  z50 := Try.sizeOf95
  v50 := Try.zeroValue95
  t53 := Try.underlying98
  a53 := Try.isAgg98
  z53 := Try.sizeOf98
  v53 := Try.zeroValue98
  t55 := Try.underlying50
  a55 := Try.isAgg50
  z55 := Try.sizeOf50
  v55 := Try.zeroValue50
  t66 := Try.underlying111
  a66 := Try.isAgg111
  z66 := Try.sizeOf111
  v66 := Try.zeroValue111
  t70 := Try.underlying115
  a70 := Try.isAgg115
  z70 := Try.sizeOf115
  v70 := Try.zeroValue115
  t76 := Try.underlying125
  a76 := Try.isAgg125
  z76 := Try.sizeOf125
  v76 := Try.zeroValue125
  t77 := Try.underlying126
  a77 := Try.isAgg126
  z77 := Try.sizeOf126
  v77 := Try.zeroValue126 }
def Try.lays106_ren : Go.Shelf.Ren := ⟨fun | 106 => 27 | 213 => 39 | 265 => 58 | n => n, fun | 9 => 9 | 3 => 3 | n => n, fun | n => n⟩
theorem Try.lays106 : Go.Proofs.Lays.n106 Try.prog Try.lays106_ren := {
  mixed := by kernel_rfl
  f106 := Try.func27.trans (congrArg some (by kernel_rfl))
  f213 := Try.func39.trans (congrArg some (by kernel_rfl))
  f265 := Try.func58.trans (congrArg some (by kernel_rfl))
  t3 := Try.underlying3
  a3 := Try.isAgg3
  z3 := Try.sizeOf3
  v3 := Try.zeroValue3
  t9 := Try.underlying9
  a9 := Try.isAgg9
  z9 := Try.sizeOf9
  v9 := Try.zeroValue9 }
/-- strings.Compare -/
theorem Try.strings_Compare (a b : ByteArray) (w : World) :
    Calls Try.prog 27 #[.string a, .string b] w fun e w' => e = .returned (.int .i64 (Lib.compareBytes a.data.toList b.data.toList)) ∧ w' = w := Any.strings_Compare Try.lays106 a b w
end Go.Proofs
