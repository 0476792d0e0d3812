import Derived.Test.Qxb6003818aBtS
import Derived.Shelf.Spec.SlicesInsert
import Derived.Deep.RegionLaw
import Derived.Laws.NewBlocks
namespace Go.Proofs.Qxb6003818a
open Go.ChangeShapes Go.WideShapes Go.ChangeAt Go.RowKit Go.Shelf Go.Lib
set_option linter.unusedVariables false
set_option linter.unusedSimpArgs false

theorem info105 : (Try.prog.info? 105).map (fun i => (i.zero, i.size, i.bytes)) = some (some (.agg #[.string ByteArray.empty, .string ByteArray.empty, .string ByteArray.empty, .bool false, .bool false]), 5, 56) := by kernel_rfl
theorem eql62 (a : Option Addr) (n c n' c' : Nat) (w : World) : (binOp .eql 62 (.slice a n c) (.slice none n' c')).run Try.prog w = .ok (.bool a.isNone) w := Lib.run_eql_slice_nil w 62 105 a n c n' c' Try.underlying62
theorem eql63 (a : Option Addr) (n c n' c' : Nat) (w : World) : (binOp .eql 63 (.slice a n c) (.slice none n' c')).run Try.prog w = .ok (.bool a.isNone) w := Lib.run_eql_slice_nil w 63 59 a n c n' c' Try.underlying63
theorem neq63 (a : Option Addr) (n c n' c' : Nat) (w : World) : (binOp .neq 63 (.slice a n c) (.slice none n' c')).run Try.prog w = .ok (.bool a.isSome) w := by
  simp only [binOp]
  simp [Op.equal, Op.maxDepth, Lib.run_equalIn_slice_nil w 9999 63 59 a n c n' c' Try.underlying63]
theorem info59 : (Try.prog.info? 59).map (fun i => (i.zero, i.size, i.bytes)) = some (some (.pointer none), 1, 8) := by kernel_rfl
end Go.Proofs.Qxb6003818a
