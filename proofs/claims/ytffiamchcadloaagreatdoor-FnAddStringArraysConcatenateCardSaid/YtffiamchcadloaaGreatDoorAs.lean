/-
  A value's dynamic type asserted: one fact a pair of types.
-/
import Derived.Test.YtffiamchcadloaaGreatDoorProg
import Derived.KernelRfl
import Derived.Stop.Asserts
namespace Go.Proofs.YtffiamchcadloaaGreatDoor
set_option linter.unusedVariables false
set_option linter.unusedSimpArgs false
open Go.Extern.Stop

theorem asBoolBool (v : Value) (w : World) : (Instr.typeAssert (.iface 4 v) 20 4 true).run Tryz.prog w = .ok (.tuple #[v, .bool true]) w := by kernel_rfl
theorem asBoolInt (v : Value) (w : World) : (Instr.typeAssert (.iface 4 v) 20 3 true).run Tryz.prog w = .ok (.tuple #[.int .i64 0, .bool false]) w := by kernel_rfl
theorem asBoolFloat (v : Value) (w : World) : (Instr.typeAssert (.iface 4 v) 20 40 true).run Tryz.prog w = .ok (.tuple #[.float .f64 0, .bool false]) w := by kernel_rfl
theorem asBoolBig (v : Value) (w : World) : (Instr.typeAssert (.iface 4 v) 20 49 true).run Tryz.prog w = .ok (.tuple #[.pointer none, .bool false]) w := by kernel_rfl
theorem asBoolNum (v : Value) (w : World) : (Instr.typeAssert (.iface 4 v) 20 78 true).run Tryz.prog w = .ok (.tuple #[.string ByteArray.empty, .bool false]) w := by kernel_rfl
theorem asBoolStr (v : Value) (w : World) : (Instr.typeAssert (.iface 4 v) 20 9 true).run Tryz.prog w = .ok (.tuple #[.string ByteArray.empty, .bool false]) w := by kernel_rfl
theorem asBoolArr (v : Value) (w : World) : (Instr.typeAssert (.iface 4 v) 20 47 true).run Tryz.prog w = .ok (.tuple #[.slice none 0 0, .bool false]) w := by kernel_rfl
theorem asBoolMap (v : Value) (w : World) : (Instr.typeAssert (.iface 4 v) 20 66 true).run Tryz.prog w = .ok (.tuple #[.map none, .bool false]) w := by kernel_rfl
theorem asIntBool (v : Value) (w : World) : (Instr.typeAssert (.iface 3 v) 20 4 true).run Tryz.prog w = .ok (.tuple #[.bool false, .bool false]) w := by kernel_rfl
theorem asIntInt (v : Value) (w : World) : (Instr.typeAssert (.iface 3 v) 20 3 true).run Tryz.prog w = .ok (.tuple #[v, .bool true]) w := by kernel_rfl
theorem asIntFloat (v : Value) (w : World) : (Instr.typeAssert (.iface 3 v) 20 40 true).run Tryz.prog w = .ok (.tuple #[.float .f64 0, .bool false]) w := by kernel_rfl
theorem asIntBig (v : Value) (w : World) : (Instr.typeAssert (.iface 3 v) 20 49 true).run Tryz.prog w = .ok (.tuple #[.pointer none, .bool false]) w := by kernel_rfl
theorem asIntNum (v : Value) (w : World) : (Instr.typeAssert (.iface 3 v) 20 78 true).run Tryz.prog w = .ok (.tuple #[.string ByteArray.empty, .bool false]) w := by kernel_rfl
theorem asIntStr (v : Value) (w : World) : (Instr.typeAssert (.iface 3 v) 20 9 true).run Tryz.prog w = .ok (.tuple #[.string ByteArray.empty, .bool false]) w := by kernel_rfl
theorem asIntArr (v : Value) (w : World) : (Instr.typeAssert (.iface 3 v) 20 47 true).run Tryz.prog w = .ok (.tuple #[.slice none 0 0, .bool false]) w := by kernel_rfl
theorem asIntMap (v : Value) (w : World) : (Instr.typeAssert (.iface 3 v) 20 66 true).run Tryz.prog w = .ok (.tuple #[.map none, .bool false]) w := by kernel_rfl
theorem asStrBool (v : Value) (w : World) : (Instr.typeAssert (.iface 9 v) 20 4 true).run Tryz.prog w = .ok (.tuple #[.bool false, .bool false]) w := by kernel_rfl
theorem asStrInt (v : Value) (w : World) : (Instr.typeAssert (.iface 9 v) 20 3 true).run Tryz.prog w = .ok (.tuple #[.int .i64 0, .bool false]) w := by kernel_rfl
theorem asStrFloat (v : Value) (w : World) : (Instr.typeAssert (.iface 9 v) 20 40 true).run Tryz.prog w = .ok (.tuple #[.float .f64 0, .bool false]) w := by kernel_rfl
theorem asStrBig (v : Value) (w : World) : (Instr.typeAssert (.iface 9 v) 20 49 true).run Tryz.prog w = .ok (.tuple #[.pointer none, .bool false]) w := by kernel_rfl
theorem asStrNum (v : Value) (w : World) : (Instr.typeAssert (.iface 9 v) 20 78 true).run Tryz.prog w = .ok (.tuple #[.string ByteArray.empty, .bool false]) w := by kernel_rfl
theorem asStrStr (v : Value) (w : World) : (Instr.typeAssert (.iface 9 v) 20 9 true).run Tryz.prog w = .ok (.tuple #[v, .bool true]) w := by kernel_rfl
theorem asStrArr (v : Value) (w : World) : (Instr.typeAssert (.iface 9 v) 20 47 true).run Tryz.prog w = .ok (.tuple #[.slice none 0 0, .bool false]) w := by kernel_rfl
theorem asStrMap (v : Value) (w : World) : (Instr.typeAssert (.iface 9 v) 20 66 true).run Tryz.prog w = .ok (.tuple #[.map none, .bool false]) w := by kernel_rfl
end Go.Proofs.YtffiamchcadloaaGreatDoor
