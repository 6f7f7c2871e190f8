/-
  The library's lookup over UTC, walked.
-/
import Derived.Test.YtmbegjbhmeihiaaGreatDoorTmDa
namespace Go.Proofs.YtmbegjbhmeihiaaGreatDoor
set_option linter.unusedVariables false
set_option linter.unusedSimpArgs false
open Go.RowKit Go.Lib

theorem w64_add (a c : Int) : wrap64 (wrap64 a + c) = wrap64 (a + c) := by
  unfold wrap64
  rw [show (a + 9223372036854775808) % 18446744073709551616 - 9223372036854775808 + c + 9223372036854775808 = (a + 9223372036854775808) % 18446744073709551616 + c by omega, Int.emod_add_emod, show a + 9223372036854775808 + c = a + c + 9223372036854775808 by omega]
/-- UTC's location at block b, with its list of zones. -/
def Utc2 (w : World) (b : Nat) : Prop := w.cell? ⟨b, 0, none⟩ = some (.bool true) ∧ w.cell? ⟨b, 2, none⟩ = some (.slice none 0 0)
set_option maxRecDepth 100000 in
set_option maxHeartbeats 800000 in
theorem lookup_utc (x : Int) (b : Nat) (w : World) (hU : Utc2 w b) :
    Calls Tryz.prog 83 #[.pointer (some ⟨b, 0, none⟩), .int .i64 x] w fun e w' => e = .returned (.tuple #[.string ⟨#[85, 84, 67]⟩, .int .i64 0, .int .i64 (-9223372036854775808), .int .i64 9223372036854775807, .bool false]) ∧ w = w' := by
  obtain ⟨hU1, hU2⟩ := hU
  go_enter Tryz.func83, Tryz.ntmps83
  go_wp2

  exact bodyPost_ret (v := .tuple #[.string ⟨#[85, 84, 67]⟩, .int .i64 0, .int .i64 (-9223372036854775808), .int .i64 9223372036854775807, .bool false]) (by simp [results, Tryz.results83, go_sem]) rfl ⟨rfl, rfl⟩
end Go.Proofs.YtmbegjbhmeihiaaGreatDoor
