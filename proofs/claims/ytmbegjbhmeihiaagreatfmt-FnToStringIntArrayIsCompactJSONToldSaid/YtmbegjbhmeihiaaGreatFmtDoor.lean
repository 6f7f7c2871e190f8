/-
  What every statement's frame of this seat asks once: closed facts of the program, and a start for a told row.
-/
import Derived.Test.YtmbegjbhmeihiaaGreatFmtTie
import Derived.Test.YtmbegjbhmeihiaaGreatFmtCards
import Derived.WalkKit
import Derived.ProofKit
import Derived.OpenShut
import Derived.ShutString
import Derived.OpenVars
import Derived.SizedLaws
import Derived.Lay
import Derived.PinnedBridge
import Derived.MakeChecks
import Derived.Stop.JoinedTold
import Derived.SevenToldRow
import Derived.SevenTiedAt
namespace Go.Proofs.YtmbegjbhmeihiaaGreatFmt
set_option linter.unusedVariables false
set_option linter.unusedSimpArgs false
open Go.ChangeShapes Go.WideShapes Go.ChangeAt Go.RowKit Go.Extern.Stop Go.Stop Go.Extern

theorem door_own : ownKnob Tryz.prog.godebug = none := by kernel_rfl
theorem door_laidOut : laidOutB Tryz.pinned.checked.prog = true := by kernel_rfl
theorem door_stops : Tryz.pinned.checked.prog.stops = ["fmt.Sprintf, its operands' methods called"] := by kernel_rfl
theorem door_knobs : Tryz.pinned.checked.prog.stopKnobs = [] := by kernel_rfl
theorem door_quiet (os : Os) : Stop.quiet Tryz.pinned.checked.prog os := by
  intro k hk
  rw [door_knobs] at hk
  cases hk

/-- A start for a told row, at a world of one's own making. -/
theorem witness_told {H : Type} {enc : TypeId × Value → H} {C : Checked} {os : Os} {f : FuncId} {fn : Func} {s : OpenSpec} {conds : List PathCond} {apart : Bool} {laid : List (String × DataW Unit)} (modest : Bool) (w0 : World) (args : Array Value) (hos : w0.os = os)
    (hsh : (w0.forCall (fun _ _ => 0) ⟨#[], args, []⟩).Shaped C.prog)
    (hok : Input.okWideB C.prog (w0.forCall (fun _ _ => 0) ⟨#[], args, []⟩) f ⟨#[], args, []⟩ = true)
    (hrow : s.preRow enc C.prog fn conds apart laid (w0.forCall (fun _ _ => 0) ⟨#[], args, []⟩).memory args) (F : Stop.Interp) :
    ∃ (w : World) (tape : Tape) (i : Input), w.os = os ∧ (w.forCall tape i).Shaped C.prog ∧ i.vars = [] ∧ Input.okWide C.prog (w.forCall tape i) .any w.heap.size f i ∧
      s.preRow enc C.prog fn conds apart laid (w.forCall tape i).memory i.args ∧ ({ modest := modest } : Assume).holds C.prog (lone (Frame.enter C.prog f i.args .normal) [] (w.forCall tape i)) ∧ F.answers tape :=
  ⟨w0, F.over fun _ _ => 0, ⟨#[], args, []⟩, hos, hsh, (Input.okWide_of_okWideB (base := 0) hok).1, (Input.okWide_of_okWideB hok).2, hrow, by
    simp only [Assume.holds]
    exact ⟨by simp, by simp, fun _ => F.over_modest Modest.zero, by simp, by simp⟩, F.over_answers _⟩

set_option maxRecDepth 100000 in
theorem door_shaped0 (os : Os) (args : Array Value) : ((World.holding Tryz.prog os ⟨#[], #[], []⟩).forCall (fun _ _ => 0) ⟨#[], args, []⟩).Shaped Tryz.prog :=
  World.shaped_of_ZipB (by as_aux_lemma => kernel_rfl) (by as_aux_lemma => kernel_rfl)
end Go.Proofs.YtmbegjbhmeihiaaGreatFmt
