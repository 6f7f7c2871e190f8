/-
  DERIVED. GIVEN WITH THE SEED: THE CARDS: each row of YtconaigmmhdlmaaGreatFmtRows.lean that lists a variable, with what it lists TIED to the program's text (the seventh form; the later family's looks); each row that meets fmt, with fmt's text TOLD by the authors' own Lean function (tested against real Go, not proved from fmt's source: count such statements apart). THE CARD IS WHAT COUNTS. Prove the row's statement (the work); the ties are given (YtconaigmmhdlmaaGreatFmtTie.lean); close each card by the builder's one call (the guide's Derived/Test/ToyasCard.lean, 'card_holds'). Laid BY PROGRAM, IN A SANDBOX (cutbox-door.mjs). By AI agents, Wed Nov 11 2026. No macro, syntax, notation, axiom, sorry.
-/
import Derived.Test.YtconaigmmhdlmaaGreatFmtRows
import GoSem.ClaimSeven
namespace Go.Proofs.YtconaigmmhdlmaaGreatFmt
namespace Rows

/-- THE TOLD AND TIED CARD OF 'n001_101.FnExpectedObjectErrorExact'. -/
def fnExpectedObjectErrorExactCard : Claim7 := { stood := { row := fnExpectedObjectErrorExactRow, standIns := [], harness := (true, "cfb2ba040811d5fc7a42b46ab095bae5857cfbd40636f0653ede422dec2ab5dc"), looks := true }, told := true, laidByText := true, laidKinds := [.data, .data, .data, .data, .data, .data, .data, .data, .data, .data, .pinned, .pinned, .pinned], laidTests := true, laidLooks := .later, goes := false }
def FnExpectedObjectErrorExactToldSaid : Prop := Claim7.holds Tryz.pinned (.plain (OpenSpec.ofChange fnExpectedObjectErrorExactSpec)) fnExpectedObjectErrorExactCard
/-- ITS FALSE NEIGHBOUR. Refute it at one input. -/
def FnExpectedObjectErrorExactToldWrongFalsely : Prop := Claim7.holds Tryz.pinned (.plain (OpenSpec.ofChange fnExpectedObjectErrorExactWrong)) fnExpectedObjectErrorExactCard

/-- THE TOLD AND TIED CARD OF 'n001_101.FnExpectedArrayErrorExact'. -/
def fnExpectedArrayErrorExactCard : Claim7 := { stood := { row := fnExpectedArrayErrorExactRow, standIns := [], harness := (true, "cfb2ba040811d5fc7a42b46ab095bae5857cfbd40636f0653ede422dec2ab5dc"), looks := true }, told := true, laidByText := true, laidKinds := [.data, .data, .data, .data, .data, .data, .data, .data, .data, .data, .pinned, .pinned, .pinned], laidTests := true, laidLooks := .later, goes := false }
def FnExpectedArrayErrorExactToldSaid : Prop := Claim7.holds Tryz.pinned (.plain (OpenSpec.ofChange fnExpectedArrayErrorExactSpec)) fnExpectedArrayErrorExactCard
/-- ITS FALSE NEIGHBOUR. Refute it at one input. -/
def FnExpectedArrayErrorExactToldWrongFalsely : Prop := Claim7.holds Tryz.pinned (.plain (OpenSpec.ofChange fnExpectedArrayErrorExactWrong)) fnExpectedArrayErrorExactCard

/-- THE TOLD AND TIED CARD OF 'n001_101.FnIteratorErrorExact'. -/
def fnIteratorErrorExactCard : Claim7 := { stood := { row := fnIteratorErrorExactRow, standIns := [], harness := (true, "cfb2ba040811d5fc7a42b46ab095bae5857cfbd40636f0653ede422dec2ab5dc"), looks := true }, told := true, laidByText := true, laidKinds := [.data, .data, .data, .data, .data, .data, .data, .data, .data, .data, .pinned, .pinned, .pinned], laidTests := true, laidLooks := .later, goes := false }
def FnIteratorErrorExactToldSaid : Prop := Claim7.holds Tryz.pinned (.plain (OpenSpec.ofChange fnIteratorErrorExactSpec)) fnIteratorErrorExactCard
/-- ITS FALSE NEIGHBOUR. Refute it at one input. -/
def FnIteratorErrorExactToldWrongFalsely : Prop := Claim7.holds Tryz.pinned (.plain (OpenSpec.ofChange fnIteratorErrorExactWrong)) fnIteratorErrorExactCard

/-- THE TOLD AND TIED CARD OF 'n001_101.FnTypeErrorsAgreeOnStringsBounded'. -/
def fnTypeErrorsAgreeOnStringsBoundedCard : Claim7 := { stood := { row := fnTypeErrorsAgreeOnStringsBoundedRow, standIns := [], harness := (true, "cfb2ba040811d5fc7a42b46ab095bae5857cfbd40636f0653ede422dec2ab5dc"), looks := true }, told := true, laidByText := true, laidKinds := [.data, .data, .data, .data, .data, .data, .data, .data, .data, .data, .pinned, .pinned, .pinned], laidTests := true, laidLooks := .later, goes := false }
def FnTypeErrorsAgreeOnStringsBoundedToldSaid : Prop := Claim7.holds Tryz.pinned (.plain (OpenSpec.ofChange fnTypeErrorsAgreeOnStringsBoundedSpec)) fnTypeErrorsAgreeOnStringsBoundedCard
/-- ITS FALSE NEIGHBOUR. Refute it at one input. -/
def FnTypeErrorsAgreeOnStringsBoundedToldWrongFalsely : Prop := Claim7.holds Tryz.pinned (.plain (OpenSpec.ofChange fnTypeErrorsAgreeOnStringsBoundedWrong)) fnTypeErrorsAgreeOnStringsBoundedCard

/-- THE TOLD AND TIED CARD OF 'n001_20.FnFunc0TypeErrorCaseTable'. -/
def fnFunc0TypeErrorCaseTableCard : Claim7 := { stood := { row := fnFunc0TypeErrorCaseTableRow, standIns := [], harness := (true, "cfb2ba040811d5fc7a42b46ab095bae5857cfbd40636f0653ede422dec2ab5dc"), looks := true }, told := true, laidByText := true, laidKinds := [.data, .data, .data, .data, .data, .data, .data, .data, .data, .data, .pinned, .pinned, .pinned], laidTests := true, laidLooks := .later, goes := false }
def FnFunc0TypeErrorCaseTableToldSaid : Prop := Claim7.holds Tryz.pinned (.plain (OpenSpec.ofChange fnFunc0TypeErrorCaseTableSpec)) fnFunc0TypeErrorCaseTableCard
/-- ITS FALSE NEIGHBOUR. Refute it at one input. -/
def FnFunc0TypeErrorCaseTableToldWrongFalsely : Prop := Claim7.holds Tryz.pinned (.plain (OpenSpec.ofChange fnFunc0TypeErrorCaseTableWrong)) fnFunc0TypeErrorCaseTableCard

/-- THE TOLD AND TIED CARD OF 'n001_20.FnFunc0TypeErrorTailIgnoresName'. -/
def fnFunc0TypeErrorTailIgnoresNameCard : Claim7 := { stood := { row := fnFunc0TypeErrorTailIgnoresNameRow, standIns := [], harness := (true, "cfb2ba040811d5fc7a42b46ab095bae5857cfbd40636f0653ede422dec2ab5dc"), looks := true }, told := true, laidByText := true, laidKinds := [.data, .data, .data, .data, .data, .data, .data, .data, .data, .data, .pinned, .pinned, .pinned], laidTests := true, laidLooks := .later, goes := false }
def FnFunc0TypeErrorTailIgnoresNameToldSaid : Prop := Claim7.holds Tryz.pinned (.plain (OpenSpec.ofChange fnFunc0TypeErrorTailIgnoresNameSpec)) fnFunc0TypeErrorTailIgnoresNameCard
/-- ITS FALSE NEIGHBOUR. Refute it at one input. -/
def FnFunc0TypeErrorTailIgnoresNameToldWrongFalsely : Prop := Claim7.holds Tryz.pinned (.plain (OpenSpec.ofChange fnFunc0TypeErrorTailIgnoresNameWrong)) fnFunc0TypeErrorTailIgnoresNameCard

/-- THE TOLD AND TIED CARD OF 'n001_20.FnFunc1TypeErrorCaseTable'. -/
def fnFunc1TypeErrorCaseTableCard : Claim7 := { stood := { row := fnFunc1TypeErrorCaseTableRow, standIns := [], harness := (true, "cfb2ba040811d5fc7a42b46ab095bae5857cfbd40636f0653ede422dec2ab5dc"), looks := true }, told := true, laidByText := true, laidKinds := [.data, .data, .data, .data, .data, .data, .data, .data, .data, .data, .pinned, .pinned, .pinned], laidTests := true, laidLooks := .later, goes := false }
def FnFunc1TypeErrorCaseTableToldSaid : Prop := Claim7.holds Tryz.pinned (.plain (OpenSpec.ofChange fnFunc1TypeErrorCaseTableSpec)) fnFunc1TypeErrorCaseTableCard
/-- ITS FALSE NEIGHBOUR. Refute it at one input. -/
def FnFunc1TypeErrorCaseTableToldWrongFalsely : Prop := Claim7.holds Tryz.pinned (.plain (OpenSpec.ofChange fnFunc1TypeErrorCaseTableWrong)) fnFunc1TypeErrorCaseTableCard

/-- THE TOLD AND TIED CARD OF 'n001_20.FnFunc2TypeErrorCaseTable'. -/
def fnFunc2TypeErrorCaseTableCard : Claim7 := { stood := { row := fnFunc2TypeErrorCaseTableRow, standIns := [], harness := (true, "cfb2ba040811d5fc7a42b46ab095bae5857cfbd40636f0653ede422dec2ab5dc"), looks := true }, told := true, laidByText := true, laidKinds := [.data, .data, .data, .data, .data, .data, .data, .data, .data, .data, .pinned, .pinned, .pinned], laidTests := true, laidLooks := .later, goes := false }
def FnFunc2TypeErrorCaseTableToldSaid : Prop := Claim7.holds Tryz.pinned (.plain (OpenSpec.ofChange fnFunc2TypeErrorCaseTableSpec)) fnFunc2TypeErrorCaseTableCard
/-- ITS FALSE NEIGHBOUR. Refute it at one input. -/
def FnFunc2TypeErrorCaseTableToldWrongFalsely : Prop := Claim7.holds Tryz.pinned (.plain (OpenSpec.ofChange fnFunc2TypeErrorCaseTableWrong)) fnFunc2TypeErrorCaseTableCard
end Rows
end Go.Proofs.YtconaigmmhdlmaaGreatFmt
