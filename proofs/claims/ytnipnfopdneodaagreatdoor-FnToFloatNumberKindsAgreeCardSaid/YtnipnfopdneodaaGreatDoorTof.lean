/-
  toFloat at an int and at a big integer made of an int (package n001_105), walked.
-/
import Derived.Test.YtnipnfopdneodaaGreatDoorSays
import Derived.Test.YtnipnfopdneodaaGreatDoorAid
import Derived.WalkSpells
import Derived.Handy
import Derived.KernelRfl
import Derived.Lib.Hide
import Derived.Stop.Asserts
namespace Go.Proofs.YtnipnfopdneodaaGreatDoor
set_option linter.unusedVariables false
set_option linter.unusedSimpArgs false
open Go.RowKit Go.Lib

theorem fInt (v : Value) (w : World) : (Instr.typeAssert (.iface 3 v) 20 3 true).run Tryz.prog w = .ok (.tuple #[v, .bool true]) w := by kernel_rfl
theorem fBigInt (v : Value) (w : World) : (Instr.typeAssert (.iface 30 v) 20 3 true).run Tryz.prog w = .ok (.tuple #[.int .i64 0, .bool false]) w := by kernel_rfl
theorem fBigFloat (v : Value) (w : World) : (Instr.typeAssert (.iface 30 v) 20 22 true).run Tryz.prog w = .ok (.tuple #[.float .f64 0, .bool false]) w := by kernel_rfl
theorem fBigBig (v : Value) (w : World) : (Instr.typeAssert (.iface 30 v) 20 30 true).run Tryz.prog w = .ok (.tuple #[v, .bool true]) w := by kernel_rfl
theorem fNumInt (v : Value) (w : World) : (Instr.typeAssert (.iface 32 v) 20 3 true).run Tryz.prog w = .ok (.tuple #[.int .i64 0, .bool false]) w := by kernel_rfl
theorem fNumFloat (v : Value) (w : World) : (Instr.typeAssert (.iface 32 v) 20 22 true).run Tryz.prog w = .ok (.tuple #[.float .f64 0, .bool false]) w := by kernel_rfl
theorem fNumBig (v : Value) (w : World) : (Instr.typeAssert (.iface 32 v) 20 30 true).run Tryz.prog w = .ok (.tuple #[.pointer none, .bool false]) w := by kernel_rfl
theorem fNumNum (v : Value) (w : World) : (Instr.typeAssert (.iface 32 v) 20 32 true).run Tryz.prog w = .ok (.tuple #[v, .bool true]) w := by kernel_rfl

theorem tofInt (n : Int) (w : World) :
    Calls Tryz.prog 4 #[.int .i64 n] w fun e w' => e = .returned (.tuple #[.float .f64 (floatOfInt .f64 n), .bool true]) ∧ Below w.heap.size w w' := by
  have as1 := fInt
  generalize hf : floatOfInt .f64 n = f
  go_enter Tryz.func4, Tryz.ntmps4
  go_wp2
  go_ret2
  exact ⟨rfl, by go_grown⟩
set_option maxRecDepth 100000 in
set_option maxHeartbeats 1600000 in
theorem tofBig (n : Int) (h0 : -9223372036854775808 ≤ n) (h1 : n ≤ 9223372036854775807) (w : World) :
    Calls Tryz.prog 5 #[.int .i64 n] w fun e w' => e = .returned (.tuple #[.float .f64 (floatOfInt .f64 n), .bool true]) ∧ Below w.heap.size w w' := by
  have as1 := fBigInt
  have as2 := fBigFloat
  have as3 := fBigBig
  generalize hf : floatOfInt .f64 n = f
  rcases (by omega : n = 0 ∨ n = -9223372036854775808 ∨ (n < 0 ∧ n ≠ -9223372036854775808) ∨ 0 < n) with rfl | rfl | ⟨hn, hm⟩ | hp
  · have hd : True := trivial
    go_enter Tryz.func5, Tryz.ntmps5
    go_wp2
    go_ret2
    exact ⟨rfl, by go_grown⟩
  · have hw : IntKind.u64.wrap (-IntKind.u64.wrap (-9223372036854775808)) = 9223372036854775808 := by rw [IntKind.wrap_u64, IntKind.wrap_u64]; rfl
    have hw2 : wrap64 9223372036854775808 = -9223372036854775808 := by unfold wrap64; rfl
    go_enter Tryz.func5, Tryz.ntmps5
    go_wp2
    go_ret2
    exact ⟨rfl, by go_grown⟩
  · have hw : IntKind.u64.wrap (-IntKind.u64.wrap n) = -n := by rw [IntKind.wrap_u64, IntKind.wrap_u64]; omega
    have hq : (n == 0) = false := by rw [beq_eq_false_iff_ne]; omega
    go_enter Tryz.func5, Tryz.ntmps5
    go_wp2
    go_ret2
    exact ⟨rfl, by go_grown⟩
  · have hq : (n == 0) = false := by rw [beq_eq_false_iff_ne]; omega
    have hd : decide (n < 0) = false := decide_eq_false (by omega)
    go_enter Tryz.func5, Tryz.ntmps5
    go_wp2
    go_ret2
    exact ⟨rfl, by go_grown⟩
end Go.Proofs.YtnipnfopdneodaaGreatDoor
