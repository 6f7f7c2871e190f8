/-
  DERIVED. GIVEN WITH THE SEED: THE CARDS: each row of YtmhgefehklakmaaGreatFmtRows.lean that lists a variable, with what it lists TIED to the program's text (the seventh form; the later family's looks); each row that meets fmt, with fmt's text TOLD by the authors' own Lean function (tested against real Go, not proved from fmt's source: count such statements apart). THE CARD IS WHAT COUNTS. Prove the row's statement (the work); the ties are given (YtmhgefehklakmaaGreatFmtTie.lean); close each card by the builder's one call (the guide's Derived/Test/ToyasCard.lean, 'card_holds'). Laid BY PROGRAM, IN A SANDBOX (cutbox-door.mjs). By AI agents, Wed Nov 11 2026. No macro, syntax, notation, axiom, sorry.
-/
import Derived.Test.YtmhgefehklakmaaGreatFmtRows
import GoSem.ClaimSeven
namespace Go.Proofs.YtmhgefehklakmaaGreatFmt
namespace Rows

/-- THE TOLD AND TIED CARD OF 'n001_13.FnZeroModuloErrorIntsText'. -/
def fnZeroModuloErrorIntsTextCard : Claim7 := { stood := { row := fnZeroModuloErrorIntsTextRow, standIns := [], harness := (true, "26c3772e2d3cfab87cc6b926ebcaef211b04c91833f54ceacab5c726d09494d1"), looks := true }, told := true, laidByText := true, laidKinds := [.data, .data, .data, .data, .data, .data, .data, .data, .data, .data, .pinned, .pinned, .pinned], laidTests := true, laidLooks := .later, goes := false }
def FnZeroModuloErrorIntsTextToldSaid : Prop := Claim7.holds Tryz.pinned (.plain (OpenSpec.ofChange fnZeroModuloErrorIntsTextSpec)) fnZeroModuloErrorIntsTextCard
/-- ITS FALSE NEIGHBOUR. Refute it at one input. -/
def FnZeroModuloErrorIntsTextToldWrongFalsely : Prop := Claim7.holds Tryz.pinned (.plain (OpenSpec.ofChange fnZeroModuloErrorIntsTextWrong)) fnZeroModuloErrorIntsTextCard

/-- THE TOLD AND TIED CARD OF 'n001_13.FnZeroDivisionErrorIntsText'. -/
def fnZeroDivisionErrorIntsTextCard : Claim7 := { stood := { row := fnZeroDivisionErrorIntsTextRow, standIns := [], harness := (true, "26c3772e2d3cfab87cc6b926ebcaef211b04c91833f54ceacab5c726d09494d1"), looks := true }, told := true, laidByText := true, laidKinds := [.data, .data, .data, .data, .data, .data, .data, .data, .data, .data, .pinned, .pinned, .pinned], laidTests := true, laidLooks := .later, goes := false }
def FnZeroDivisionErrorIntsTextToldSaid : Prop := Claim7.holds Tryz.pinned (.plain (OpenSpec.ofChange fnZeroDivisionErrorIntsTextSpec)) fnZeroDivisionErrorIntsTextCard
/-- ITS FALSE NEIGHBOUR. Refute it at one input. -/
def FnZeroDivisionErrorIntsTextToldWrongFalsely : Prop := Claim7.holds Tryz.pinned (.plain (OpenSpec.ofChange fnZeroDivisionErrorIntsTextWrong)) fnZeroDivisionErrorIntsTextCard

/-- THE TOLD AND TIED CARD OF 'n001_13.FnBinopTypeErrorBoolsAndNullsText'. -/
def fnBinopTypeErrorBoolsAndNullsTextCard : Claim7 := { stood := { row := fnBinopTypeErrorBoolsAndNullsTextRow, standIns := [], harness := (true, "26c3772e2d3cfab87cc6b926ebcaef211b04c91833f54ceacab5c726d09494d1"), looks := true }, told := true, laidByText := true, laidKinds := [.data, .data, .data, .data, .data, .data, .data, .data, .data, .data, .pinned, .pinned, .pinned], laidTests := true, laidLooks := .later, goes := false }
def FnBinopTypeErrorBoolsAndNullsTextToldSaid : Prop := Claim7.holds Tryz.pinned (.plain (OpenSpec.ofChange fnBinopTypeErrorBoolsAndNullsTextSpec)) fnBinopTypeErrorBoolsAndNullsTextCard
/-- ITS FALSE NEIGHBOUR. Refute it at one input. -/
def FnBinopTypeErrorBoolsAndNullsTextToldWrongFalsely : Prop := Claim7.holds Tryz.pinned (.plain (OpenSpec.ofChange fnBinopTypeErrorBoolsAndNullsTextWrong)) fnBinopTypeErrorBoolsAndNullsTextCard

/-- THE TOLD AND TIED CARD OF 'n001_13.FnBinopTypeErrorIntsText'. -/
def fnBinopTypeErrorIntsTextCard : Claim7 := { stood := { row := fnBinopTypeErrorIntsTextRow, standIns := [], harness := (true, "26c3772e2d3cfab87cc6b926ebcaef211b04c91833f54ceacab5c726d09494d1"), looks := true }, told := true, laidByText := true, laidKinds := [.data, .data, .data, .data, .data, .data, .data, .data, .data, .data, .pinned, .pinned, .pinned], laidTests := true, laidLooks := .later, goes := false }
def FnBinopTypeErrorIntsTextToldSaid : Prop := Claim7.holds Tryz.pinned (.plain (OpenSpec.ofChange fnBinopTypeErrorIntsTextSpec)) fnBinopTypeErrorIntsTextCard
/-- ITS FALSE NEIGHBOUR. Refute it at one input. -/
def FnBinopTypeErrorIntsTextToldWrongFalsely : Prop := Claim7.holds Tryz.pinned (.plain (OpenSpec.ofChange fnBinopTypeErrorIntsTextWrong)) fnBinopTypeErrorIntsTextCard

/-- THE TOLD AND TIED CARD OF 'n001_13.FnZeroDivisionAndModuloAgree'. -/
def fnZeroDivisionAndModuloAgreeCard : Claim7 := { stood := { row := fnZeroDivisionAndModuloAgreeRow, standIns := [], harness := (true, "26c3772e2d3cfab87cc6b926ebcaef211b04c91833f54ceacab5c726d09494d1"), looks := true }, told := true, laidByText := true, laidKinds := [.data, .data, .data, .data, .data, .data, .data, .data, .data, .data, .pinned, .pinned, .pinned], laidTests := true, laidLooks := .later, goes := false }
def FnZeroDivisionAndModuloAgreeToldSaid : Prop := Claim7.holds Tryz.pinned (.plain (OpenSpec.ofChange fnZeroDivisionAndModuloAgreeSpec)) fnZeroDivisionAndModuloAgreeCard
/-- ITS FALSE NEIGHBOUR. Refute it at one input. -/
def FnZeroDivisionAndModuloAgreeToldWrongFalsely : Prop := Claim7.holds Tryz.pinned (.plain (OpenSpec.ofChange fnZeroDivisionAndModuloAgreeWrong)) fnZeroDivisionAndModuloAgreeCard
end Rows
end Go.Proofs.YtmhgefehklakmaaGreatFmt
