/-
  DERIVED. GIVEN WITH THE SEED: THE CARDS: each row of YtcajagjgbalakaaGreatFmtRows.lean that lists a variable, with what it lists TIED to the program's text (the seventh form; the later family's looks); each row that meets fmt, with fmt's text TOLD by the authors' own Lean function (tested against real Go, not proved from fmt's source: count such statements apart). THE CARD IS WHAT COUNTS. Prove the row's statement (the work); the ties are given (YtcajagjgbalakaaGreatFmtTie.lean); close each card by the builder's one call (the guide's Derived/Test/ToyasCard.lean, 'card_holds'). Laid BY PROGRAM, IN A SANDBOX (cutbox-door.mjs). By AI agents, Wed Nov 11 2026. No macro, syntax, notation, axiom, sorry.
-/
import Derived.Test.YtcajagjgbalakaaGreatFmtRows
import GoSem.ClaimSeven
namespace Go.Proofs.YtcajagjgbalakaaGreatFmt
namespace Rows

/-- THE TOLD AND TIED CARD OF 'n001_106.FnPreviewPlainStringSpec'. -/
def fnPreviewPlainStringSpecCard : Claim7 := { stood := { row := fnPreviewPlainStringSpecRow, standIns := [], harness := (true, "95e26f28102a6be0007c08fd280eefa765f647cf2fa9f37aae95416d3e55a1ec"), looks := true }, told := true, laidByText := true, laidKinds := [.data, .data, .data, .data, .data, .data, .data, .data, .data, .data, .pinned, .pinned, .pinned], laidTests := true, laidLooks := .later, goes := false }
def FnPreviewPlainStringSpecToldSaid : Prop := Claim7.holds Tryz.pinned (.plain (OpenSpec.ofChange fnPreviewPlainStringSpecSpec)) fnPreviewPlainStringSpecCard
/-- ITS FALSE NEIGHBOUR. Refute it at one input. -/
def FnPreviewPlainStringSpecToldWrongFalsely : Prop := Claim7.holds Tryz.pinned (.plain (OpenSpec.ofChange fnPreviewPlainStringSpecWrong)) fnPreviewPlainStringSpecCard

/-- THE TOLD AND TIED CARD OF 'n001_106.FnPreviewStringShapeAndBound'. -/
def fnPreviewStringShapeAndBoundCard : Claim7 := { stood := { row := fnPreviewStringShapeAndBoundRow, standIns := [], harness := (true, "95e26f28102a6be0007c08fd280eefa765f647cf2fa9f37aae95416d3e55a1ec"), looks := true }, told := true, laidByText := true, laidKinds := [.data, .data, .data, .data, .data, .data, .data, .data, .data, .data, .pinned, .pinned, .pinned], laidTests := true, laidLooks := .later, goes := false }
def FnPreviewStringShapeAndBoundToldSaid : Prop := Claim7.holds Tryz.pinned (.plain (OpenSpec.ofChange fnPreviewStringShapeAndBoundSpec)) fnPreviewStringShapeAndBoundCard
/-- ITS FALSE NEIGHBOUR. Refute it at one input. -/
def FnPreviewStringShapeAndBoundToldWrongFalsely : Prop := Claim7.holds Tryz.pinned (.plain (OpenSpec.ofChange fnPreviewStringShapeAndBoundWrong)) fnPreviewStringShapeAndBoundCard

/-- THE TOLD AND TIED CARD OF 'n001_106.FnLimitedMarshalPlainStringSpec'. -/
def fnLimitedMarshalPlainStringSpecCard : Claim7 := { stood := { row := fnLimitedMarshalPlainStringSpecRow, standIns := [], harness := (true, "95e26f28102a6be0007c08fd280eefa765f647cf2fa9f37aae95416d3e55a1ec"), looks := true }, told := true, laidByText := true, laidKinds := [.data, .data, .data, .data, .data, .data, .data, .data, .data, .data, .pinned, .pinned, .pinned], laidTests := true, laidLooks := .later, goes := false }
def FnLimitedMarshalPlainStringSpecToldSaid : Prop := Claim7.holds Tryz.pinned (.plain (OpenSpec.ofChange fnLimitedMarshalPlainStringSpecSpec)) fnLimitedMarshalPlainStringSpecCard
/-- ITS FALSE NEIGHBOUR. Refute it at one input. -/
def FnLimitedMarshalPlainStringSpecToldWrongFalsely : Prop := Claim7.holds Tryz.pinned (.plain (OpenSpec.ofChange fnLimitedMarshalPlainStringSpecWrong)) fnLimitedMarshalPlainStringSpecCard

/-- THE TOLD AND TIED CARD OF 'n001_106.FnLimitedMarshalPrefixMonotone'. -/
def fnLimitedMarshalPrefixMonotoneCard : Claim7 := { stood := { row := fnLimitedMarshalPrefixMonotoneRow, standIns := [], harness := (true, "95e26f28102a6be0007c08fd280eefa765f647cf2fa9f37aae95416d3e55a1ec"), looks := true }, told := true, laidByText := true, laidKinds := [.data, .data, .data, .data, .data, .data, .data, .data, .data, .data, .pinned, .pinned, .pinned], laidTests := true, laidLooks := .later, goes := false }
def FnLimitedMarshalPrefixMonotoneToldSaid : Prop := Claim7.holds Tryz.pinned (.plain (OpenSpec.ofChange fnLimitedMarshalPrefixMonotoneSpec)) fnLimitedMarshalPrefixMonotoneCard
/-- ITS FALSE NEIGHBOUR. Refute it at one input. -/
def FnLimitedMarshalPrefixMonotoneToldWrongFalsely : Prop := Claim7.holds Tryz.pinned (.plain (OpenSpec.ofChange fnLimitedMarshalPrefixMonotoneWrong)) fnLimitedMarshalPrefixMonotoneCard
end Rows
end Go.Proofs.YtcajagjgbalakaaGreatFmt
