/-
  funcOpMul at two ints whose product is an int, walked.
-/
import Derived.Test.YtffiamchcadloaaGreatDoorAddI
namespace Go.Proofs.YtffiamchcadloaaGreatDoor
set_option linter.unusedVariables false
set_option linter.unusedSimpArgs false
open Go.RowKit Go.Lib

/-- Where the cut product divided by r is l, nothing was cut. -/
theorem mul_back (l r V : Int) (hr : r ≠ 0) (hr0 : -9223372036854775808 ≤ r) (hr1 : r ≤ 9223372036854775807) (hV : IntKind.i64.wrap (l * r) = V) (hq : V.tdiv r = l) : V = l * r := by
  rw [IntKind.wrap_i64] at hV
  have h1 := Int.tmod_add_mul_tdiv V r
  rw [hq, Int.mul_comm] at h1
  generalize l * r = P at *
  have h2 : (V.tmod r).natAbs < r.natAbs := by
    rw [Int.natAbs_tmod]
    exact Nat.mod_lt _ (by omega)
  omega
theorem mul_tdiv (l r : Int) (hr : r ≠ 0) : (l * r).tdiv r = l := Int.mul_tdiv_cancel l hr
set_option maxRecDepth 100000 in
set_option maxHeartbeats 1600000 in
theorem mulc_small (l r : Int) (hr : (r == -1) = false) (hl0 : -9223372036854775808 ≤ l) (hl1 : l ≤ 9223372036854775807) (h0 : -9223372036854775808 ≤ l * r) (h1 : l * r ≤ 9223372036854775807) (w : World) :
    Calls Tryz.prog 40 #[.int .i64 l, .int .i64 r] w fun e w' => e = .returned (.iface 3 (.int .i64 (l * r))) ∧ Below w.heap.size w w' := by
  have hw : IntKind.i64.wrap (l * r) = l * r := by rw [IntKind.wrap_i64]; omega
  by_cases hz : r = 0
  · subst hz
    rw [Int.mul_zero]
    go_enter Tryz.func40, Tryz.ntmps40
    go_wp2_with fail
    go_ret
    exact ⟨rfl, by go_grown⟩
  · have e0 := beq_eq_false_iff_ne.2 hz
    have e1 := mul_tdiv l r hz
    have hw2 : wrap64 (l * r) = l * r := by unfold wrap64; omega
    have hw3 : (wrap64 l == l) = true := by rw [beq_iff_eq]; unfold wrap64; omega
    go_enter Tryz.func40, Tryz.ntmps40
    go_wp2_with fail
    go_ret
    exact ⟨rfl, by go_grown⟩
end Go.Proofs.YtffiamchcadloaaGreatDoor
