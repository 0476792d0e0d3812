import Derived.Shelf.Small.Bits
import Derived.Shelf.Small.Strs
import Derived.Test.Qxb6003818aProg
namespace Go.Proofs
open Go.Shelf
def Try.lays106_ren : Go.Shelf.Ren := ⟨fun | 106 => 27 | 213 => 39 | 265 => 58 | n => n, fun | 9 => 9 | 3 => 3 | n => n, fun | n => n⟩
theorem Try.lays106 : Go.Proofs.Lays.n106 Try.prog Try.lays106_ren := {
  mixed := by kernel_rfl
  f106 := Try.func27.trans (congrArg some (by kernel_rfl))
  f213 := Try.func39.trans (congrArg some (by kernel_rfl))
  f265 := Try.func58.trans (congrArg some (by kernel_rfl))
  t3 := Try.underlying3
  a3 := Try.isAgg3
  z3 := Try.sizeOf3
  v3 := Try.zeroValue3
  t9 := Try.underlying9
  a9 := Try.isAgg9
  z9 := Try.sizeOf9
  v9 := Try.zeroValue9 }
/-- strings.Compare -/
theorem Try.strings_Compare (a b : ByteArray) (w : World) :
    Calls Try.prog 27 #[.string a, .string b] w fun e w' => e = .returned (.int .i64 (Lib.compareBytes a.data.toList b.data.toList)) ∧ w' = w := Any.strings_Compare Try.lays106 a b w
end Go.Proofs
