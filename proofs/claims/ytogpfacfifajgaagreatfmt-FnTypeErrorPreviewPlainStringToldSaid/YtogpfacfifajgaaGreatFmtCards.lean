/-
  DERIVED. GIVEN WITH THE SEED: THE CARDS: each row of YtogpfacfifajgaaGreatFmtRows.lean that lists a variable, with what it lists TIED to the program's text (the seventh form; the later family's looks); each row that meets fmt, with fmt's text TOLD by the authors' own Lean function (tested against real Go, not proved from fmt's source: count such statements apart). THE CARD IS WHAT COUNTS. Prove the row's statement (the work); the ties are given (YtogpfacfifajgaaGreatFmtTie.lean); close each card by the builder's one call (the guide's Derived/Test/ToyasCard.lean, 'card_holds'). Laid BY PROGRAM, IN A SANDBOX (cutbox-door.mjs). By AI agents, Wed Nov 11 2026. No macro, syntax, notation, axiom, sorry.
-/
import Derived.Test.YtogpfacfifajgaaGreatFmtRows
import GoSem.ClaimSeven
namespace Go.Proofs.YtogpfacfifajgaaGreatFmt
namespace Rows

/-- THE TOLD AND TIED CARD OF 'n001_30.FnTypeErrorPreviewNullAndBoolean'. -/
def fnTypeErrorPreviewNullAndBooleanCard : Claim7 := { stood := { row := fnTypeErrorPreviewNullAndBooleanRow, standIns := [], harness := (true, "240c47dee18735a8a61472e71e6cc568343a45a7847d2893d03e7a073341f905"), looks := true }, told := true, laidByText := true, laidKinds := [.data, .data, .data, .data, .data, .data, .data, .data, .data, .data, .pinned, .pinned, .pinned], laidTests := true, laidLooks := .later, goes := false }
def FnTypeErrorPreviewNullAndBooleanToldSaid : Prop := Claim7.holds Tryz.pinned (.plain (OpenSpec.ofChange fnTypeErrorPreviewNullAndBooleanSpec)) fnTypeErrorPreviewNullAndBooleanCard
/-- ITS FALSE NEIGHBOUR. Refute it at one input. -/
def FnTypeErrorPreviewNullAndBooleanToldWrongFalsely : Prop := Claim7.holds Tryz.pinned (.plain (OpenSpec.ofChange fnTypeErrorPreviewNullAndBooleanWrong)) fnTypeErrorPreviewNullAndBooleanCard

/-- THE TOLD AND TIED CARD OF 'n001_30.FnTypeErrorPreviewInt'. -/
def fnTypeErrorPreviewIntCard : Claim7 := { stood := { row := fnTypeErrorPreviewIntRow, standIns := [], harness := (true, "240c47dee18735a8a61472e71e6cc568343a45a7847d2893d03e7a073341f905"), looks := true }, told := true, laidByText := true, laidKinds := [.data, .data, .data, .data, .data, .data, .data, .data, .data, .data, .pinned, .pinned, .pinned], laidTests := true, laidLooks := .later, goes := false }
def FnTypeErrorPreviewIntToldSaid : Prop := Claim7.holds Tryz.pinned (.plain (OpenSpec.ofChange fnTypeErrorPreviewIntSpec)) fnTypeErrorPreviewIntCard
/-- ITS FALSE NEIGHBOUR. Refute it at one input. -/
def FnTypeErrorPreviewIntToldWrongFalsely : Prop := Claim7.holds Tryz.pinned (.plain (OpenSpec.ofChange fnTypeErrorPreviewIntWrong)) fnTypeErrorPreviewIntCard

/-- THE TOLD AND TIED CARD OF 'n001_30.FnTypeErrorPreviewPlainString'. -/
def fnTypeErrorPreviewPlainStringCard : Claim7 := { stood := { row := fnTypeErrorPreviewPlainStringRow, standIns := [], harness := (true, "240c47dee18735a8a61472e71e6cc568343a45a7847d2893d03e7a073341f905"), looks := true }, told := true, laidByText := true, laidKinds := [.data, .data, .data, .data, .data, .data, .data, .data, .data, .data, .pinned, .pinned, .pinned], laidTests := true, laidLooks := .later, goes := false }
def FnTypeErrorPreviewPlainStringToldSaid : Prop := Claim7.holds Tryz.pinned (.plain (OpenSpec.ofChange fnTypeErrorPreviewPlainStringSpec)) fnTypeErrorPreviewPlainStringCard
/-- ITS FALSE NEIGHBOUR. Refute it at one input. -/
def FnTypeErrorPreviewPlainStringToldWrongFalsely : Prop := Claim7.holds Tryz.pinned (.plain (OpenSpec.ofChange fnTypeErrorPreviewPlainStringWrong)) fnTypeErrorPreviewPlainStringCard

/-- THE TOLD CARD OF 'n001_30.FnJSONParseErrorTextIgnoresContentsAndOffset'. -/
def fnJSONParseErrorTextIgnoresContentsAndOffsetCard : Claim7 := { stood := { row := fnJSONParseErrorTextIgnoresContentsAndOffsetRow, standIns := [], harness := (true, "240c47dee18735a8a61472e71e6cc568343a45a7847d2893d03e7a073341f905"), looks := true }, told := true, goes := false }
def FnJSONParseErrorTextIgnoresContentsAndOffsetToldSaid : Prop := Claim7.holds Tryz.pinned (.plain (OpenSpec.ofChange fnJSONParseErrorTextIgnoresContentsAndOffsetSpec)) fnJSONParseErrorTextIgnoresContentsAndOffsetCard
/-- ITS FALSE NEIGHBOUR. Refute it at one input. -/
def FnJSONParseErrorTextIgnoresContentsAndOffsetToldWrongFalsely : Prop := Claim7.holds Tryz.pinned (.plain (OpenSpec.ofChange fnJSONParseErrorTextIgnoresContentsAndOffsetWrong)) fnJSONParseErrorTextIgnoresContentsAndOffsetCard

/-- THE TOLD AND TIED CARD OF 'n001_101.FnArrayIndexNegativeErrorExact'. -/
def fnArrayIndexNegativeErrorExactCard : Claim7 := { stood := { row := fnArrayIndexNegativeErrorExactRow, standIns := [], harness := (true, "240c47dee18735a8a61472e71e6cc568343a45a7847d2893d03e7a073341f905"), looks := true }, told := true, laidByText := true, laidKinds := [.data, .data, .data, .data, .data, .data, .data, .data, .data, .data, .pinned, .pinned, .pinned], laidTests := true, laidLooks := .later, goes := false }
def FnArrayIndexNegativeErrorExactToldSaid : Prop := Claim7.holds Tryz.pinned (.plain (OpenSpec.ofChange fnArrayIndexNegativeErrorExactSpec)) fnArrayIndexNegativeErrorExactCard
/-- ITS FALSE NEIGHBOUR. Refute it at one input. -/
def FnArrayIndexNegativeErrorExactToldWrongFalsely : Prop := Claim7.holds Tryz.pinned (.plain (OpenSpec.ofChange fnArrayIndexNegativeErrorExactWrong)) fnArrayIndexNegativeErrorExactCard

/-- THE TOLD AND TIED CARD OF 'n001_101.FnArrayIndexNegativeErrorRoundTrip'. -/
def fnArrayIndexNegativeErrorRoundTripCard : Claim7 := { stood := { row := fnArrayIndexNegativeErrorRoundTripRow, standIns := [], harness := (true, "240c47dee18735a8a61472e71e6cc568343a45a7847d2893d03e7a073341f905"), looks := true }, told := true, laidByText := true, laidKinds := [.data, .data, .data, .data, .data, .data, .data, .data, .data, .data, .pinned, .pinned, .pinned], laidTests := true, laidLooks := .later, goes := false }
def FnArrayIndexNegativeErrorRoundTripToldSaid : Prop := Claim7.holds Tryz.pinned (.plain (OpenSpec.ofChange fnArrayIndexNegativeErrorRoundTripSpec)) fnArrayIndexNegativeErrorRoundTripCard
/-- ITS FALSE NEIGHBOUR. Refute it at one input. -/
def FnArrayIndexNegativeErrorRoundTripToldWrongFalsely : Prop := Claim7.holds Tryz.pinned (.plain (OpenSpec.ofChange fnArrayIndexNegativeErrorRoundTripWrong)) fnArrayIndexNegativeErrorRoundTripCard

/-- THE TOLD AND TIED CARD OF 'n001_10.FnExitCodeScalarText'. -/
def fnExitCodeScalarTextCard : Claim7 := { stood := { row := fnExitCodeScalarTextRow, standIns := [], harness := (true, "240c47dee18735a8a61472e71e6cc568343a45a7847d2893d03e7a073341f905"), looks := true }, told := true, laidByText := true, laidKinds := [.data, .data, .data, .data, .data, .data, .data, .data, .data, .data, .pinned, .pinned, .pinned], laidTests := true, laidLooks := .later, goes := false }
def FnExitCodeScalarTextToldSaid : Prop := Claim7.holds Tryz.pinned (.plain (OpenSpec.ofChange fnExitCodeScalarTextSpec)) fnExitCodeScalarTextCard
/-- ITS FALSE NEIGHBOUR. Refute it at one input. -/
def FnExitCodeScalarTextToldWrongFalsely : Prop := Claim7.holds Tryz.pinned (.plain (OpenSpec.ofChange fnExitCodeScalarTextWrong)) fnExitCodeScalarTextCard

/-- THE TOLD AND TIED CARD OF 'n001_106.FnPreviewIntIsDecimal'. -/
def fnPreviewIntIsDecimalCard : Claim7 := { stood := { row := fnPreviewIntIsDecimalRow, standIns := [], harness := (true, "240c47dee18735a8a61472e71e6cc568343a45a7847d2893d03e7a073341f905"), looks := true }, told := true, laidByText := true, laidKinds := [.data, .data, .data, .data, .data, .data, .data, .data, .data, .data, .pinned, .pinned, .pinned], laidTests := true, laidLooks := .later, goes := false }
def FnPreviewIntIsDecimalToldSaid : Prop := Claim7.holds Tryz.pinned (.plain (OpenSpec.ofChange fnPreviewIntIsDecimalSpec)) fnPreviewIntIsDecimalCard
/-- ITS FALSE NEIGHBOUR. Refute it at one input. -/
def FnPreviewIntIsDecimalToldWrongFalsely : Prop := Claim7.holds Tryz.pinned (.plain (OpenSpec.ofChange fnPreviewIntIsDecimalWrong)) fnPreviewIntIsDecimalCard
end Rows
end Go.Proofs.YtogpfacfifajgaaGreatFmt
