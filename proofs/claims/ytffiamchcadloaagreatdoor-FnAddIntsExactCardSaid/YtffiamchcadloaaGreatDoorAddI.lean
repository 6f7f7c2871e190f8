/-
  funcOpAdd at two ints whose sum is an int, walked.
-/
import Derived.Test.YtffiamchcadloaaGreatDoorTwosM
import Derived.Test.YtffiamchcadloaaGreatDoorAs
namespace Go.Proofs.YtffiamchcadloaaGreatDoor
set_option linter.unusedVariables false
set_option linter.unusedSimpArgs false
open Go.RowKit Go.Lib

theorem asIntNumX (v : Value) (w : World) : (Instr.typeAssert (.iface 3 v) 20 78 true).run Tryz.prog w = .ok (.tuple #[.string ⟨#[]⟩, .bool false]) w := by kernel_rfl
theorem asIntIntX (v : Value) (w : World) : (Instr.typeAssert (.iface 3 v) 20 3 true).run Tryz.prog w = .ok (.tuple #[v, .bool true]) w := by kernel_rfl
set_option maxRecDepth 100000 in
set_option maxHeartbeats 1600000 in
theorem add_small (l r : Int) (hl0 : -9223372036854775808 ≤ l) (hl1 : l ≤ 9223372036854775807) (hr0 : -9223372036854775808 ≤ r) (hr1 : r ≤ 9223372036854775807) (h0 : -9223372036854775808 ≤ l + r) (h1 : l + r ≤ 9223372036854775807) (w : World) :
    Calls Tryz.prog 22 #[.nilIface, .iface 3 (.int .i64 l), .iface 3 (.int .i64 r)] w fun e w' => e = .returned (.iface 3 (.int .i64 (l + r))) ∧ Below w.heap.size w w' := by
  have as1 := asIntNumX
  have as2 := asIntIntX
  by_cases hr : 0 ≤ r
  · have c1 : l ≤ l + r := by omega
    have c2 : ¬ l + r < l := by omega
    have c3 : ¬ r < 0 := by omega
    go_enter Tryz.func22, Tryz.ntmps22
    go_wp2
    all_goals (try (go_ret; exact ⟨rfl, by go_grown⟩))
  · have c1 : ¬ l ≤ l + r := by omega
    have c2 : l + r < l := by omega
    have c3 : r < 0 := by omega
    go_enter Tryz.func22, Tryz.ntmps22
    go_wp2
    all_goals (try (go_ret; exact ⟨rfl, by go_grown⟩))
end Go.Proofs.YtffiamchcadloaaGreatDoor
