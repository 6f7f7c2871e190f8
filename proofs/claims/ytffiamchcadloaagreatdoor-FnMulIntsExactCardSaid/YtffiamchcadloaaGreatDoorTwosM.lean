/-
  The laws' own test of a result against a 128-bit integer (package n001_19), walked.
-/
import Derived.Test.YtffiamchcadloaaGreatDoorTwos
namespace Go.Proofs.YtffiamchcadloaaGreatDoor
set_option linter.unusedVariables false
set_option linter.unusedSimpArgs false
open Go.RowKit Go.Lib

/-- Within an int: kind 1 and the number itself. -/
theorem matches_int (S : Int) (neg : Bool) (mag : Value) (h0 : -9223372036854775808 ≤ S) (h1 : S ≤ 9223372036854775807) (w : World) :
    Calls Tryz.prog 9 #[.int .i64 1, .int .i64 S, .bool neg, mag, .int .u64 (hi128 S), .int .u64 (lo128 S)] w fun e w' => e = .returned (.bool true) ∧ w = w' := by
  have e1 := hi_small S (by omega) (by omega)
  have e2 := lo_small S (by omega) (by omega)
  by_cases hx : S < 0
  · rw [if_pos hx] at e1 e2
    rw [e1, e2]
    clear e1 e2
    have q1 : (S + 18446744073709551616) / 9223372036854775808 = 1 := by omega
    have q2 : IntKind.i64.wrap (S + 18446744073709551616) = S := by rw [IntKind.wrap_i64]; omega
    go_enter Tryz.func9, Tryz.ntmps9
    go_wp2
    go_ret
    exact ⟨rfl, rfl⟩
  · rw [if_neg hx] at e1 e2
    rw [e1, e2]
    clear e1 e2
    have q1 : S / 9223372036854775808 = 0 := by omega
    go_enter Tryz.func9, Tryz.ntmps9
    go_wp2
    go_ret
    exact ⟨rfl, rfl⟩
end Go.Proofs.YtffiamchcadloaaGreatDoor
