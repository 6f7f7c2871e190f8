/-
  DERIVED. GIVEN WITH THE SEED: THE CARDS: each row of YtcgpjijbnkgbcaaGreatFmtRows.lean that lists a variable, with what it lists TIED to the program's text (the seventh form; the later family's looks); each row that meets fmt, with fmt's text TOLD by the authors' own Lean function (tested against real Go, not proved from fmt's source: count such statements apart). THE CARD IS WHAT COUNTS. Prove the row's statement (the work); the ties are given (YtcgpjijbnkgbcaaGreatFmtTie.lean); close each card by the builder's one call (the guide's Derived/Test/ToyasCard.lean, 'card_holds'). Laid BY PROGRAM, IN A SANDBOX (cutbox-door.mjs). By AI agents, Wed Nov 11 2026. No macro, syntax, notation, axiom, sorry.
-/
import Derived.Test.YtcgpjijbnkgbcaaGreatFmtRows
import GoSem.ClaimSeven
namespace Go.Proofs.YtcgpjijbnkgbcaaGreatFmt
namespace Rows

/-- THE TOLD AND TIED CARD OF 'n001_10.FnFunc0WrapIntText'. -/
def fnFunc0WrapIntTextCard : Claim7 := { stood := { row := fnFunc0WrapIntTextRow, standIns := [], harness := (true, "6d8df210cad7fc445755939fe5c3eda5d685b2c90762b160b5b1f6daa2a88d80"), looks := true }, told := true, laidByText := true, laidKinds := [.data, .data, .data, .data, .data, .data, .data, .data, .data, .data, .pinned, .pinned, .pinned], laidTests := true, laidLooks := .later, goes := false }
def FnFunc0WrapIntTextToldSaid : Prop := Claim7.holds Tryz.pinned (.plain (OpenSpec.ofChange fnFunc0WrapIntTextSpec)) fnFunc0WrapIntTextCard
/-- ITS FALSE NEIGHBOUR. Refute it at one input. -/
def FnFunc0WrapIntTextToldWrongFalsely : Prop := Claim7.holds Tryz.pinned (.plain (OpenSpec.ofChange fnFunc0WrapIntTextWrong)) fnFunc0WrapIntTextCard

/-- THE TOLD AND TIED CARD OF 'n001_10.FnFunc0WrapStringText'. -/
def fnFunc0WrapStringTextCard : Claim7 := { stood := { row := fnFunc0WrapStringTextRow, standIns := [], harness := (true, "6d8df210cad7fc445755939fe5c3eda5d685b2c90762b160b5b1f6daa2a88d80"), looks := true }, told := true, laidByText := true, laidKinds := [.data, .data, .data, .data, .data, .data, .data, .data, .data, .data, .pinned, .pinned, .pinned], laidTests := true, laidLooks := .later, goes := false }
def FnFunc0WrapStringTextToldSaid : Prop := Claim7.holds Tryz.pinned (.plain (OpenSpec.ofChange fnFunc0WrapStringTextSpec)) fnFunc0WrapStringTextCard
/-- ITS FALSE NEIGHBOUR. Refute it at one input. -/
def FnFunc0WrapStringTextToldWrongFalsely : Prop := Claim7.holds Tryz.pinned (.plain (OpenSpec.ofChange fnFunc0WrapStringTextWrong)) fnFunc0WrapStringTextCard

/-- THE TOLD AND TIED CARD OF 'n001_10.FnFunc1WrapIntText'. -/
def fnFunc1WrapIntTextCard : Claim7 := { stood := { row := fnFunc1WrapIntTextRow, standIns := [], harness := (true, "6d8df210cad7fc445755939fe5c3eda5d685b2c90762b160b5b1f6daa2a88d80"), looks := true }, told := true, laidByText := true, laidKinds := [.data, .data, .data, .data, .data, .data, .data, .data, .data, .data, .pinned, .pinned, .pinned], laidTests := true, laidLooks := .later, goes := false }
def FnFunc1WrapIntTextToldSaid : Prop := Claim7.holds Tryz.pinned (.plain (OpenSpec.ofChange fnFunc1WrapIntTextSpec)) fnFunc1WrapIntTextCard
/-- ITS FALSE NEIGHBOUR. Refute it at one input. -/
def FnFunc1WrapIntTextToldWrongFalsely : Prop := Claim7.holds Tryz.pinned (.plain (OpenSpec.ofChange fnFunc1WrapIntTextWrong)) fnFunc1WrapIntTextCard

/-- THE TOLD AND TIED CARD OF 'n001_10.FnFunc1WrapStringText'. -/
def fnFunc1WrapStringTextCard : Claim7 := { stood := { row := fnFunc1WrapStringTextRow, standIns := [], harness := (true, "6d8df210cad7fc445755939fe5c3eda5d685b2c90762b160b5b1f6daa2a88d80"), looks := true }, told := true, laidByText := true, laidKinds := [.data, .data, .data, .data, .data, .data, .data, .data, .data, .data, .pinned, .pinned, .pinned], laidTests := true, laidLooks := .later, goes := false }
def FnFunc1WrapStringTextToldSaid : Prop := Claim7.holds Tryz.pinned (.plain (OpenSpec.ofChange fnFunc1WrapStringTextSpec)) fnFunc1WrapStringTextCard
/-- ITS FALSE NEIGHBOUR. Refute it at one input. -/
def FnFunc1WrapStringTextToldWrongFalsely : Prop := Claim7.holds Tryz.pinned (.plain (OpenSpec.ofChange fnFunc1WrapStringTextWrong)) fnFunc1WrapStringTextCard

/-- THE TOLD AND TIED CARD OF 'n001_10.FnFunc2WrapIntText'. -/
def fnFunc2WrapIntTextCard : Claim7 := { stood := { row := fnFunc2WrapIntTextRow, standIns := [], harness := (true, "6d8df210cad7fc445755939fe5c3eda5d685b2c90762b160b5b1f6daa2a88d80"), looks := true }, told := true, laidByText := true, laidKinds := [.data, .data, .data, .data, .data, .data, .data, .data, .data, .data, .pinned, .pinned, .pinned], laidTests := true, laidLooks := .later, goes := false }
def FnFunc2WrapIntTextToldSaid : Prop := Claim7.holds Tryz.pinned (.plain (OpenSpec.ofChange fnFunc2WrapIntTextSpec)) fnFunc2WrapIntTextCard
/-- ITS FALSE NEIGHBOUR. Refute it at one input. -/
def FnFunc2WrapIntTextToldWrongFalsely : Prop := Claim7.holds Tryz.pinned (.plain (OpenSpec.ofChange fnFunc2WrapIntTextWrong)) fnFunc2WrapIntTextCard

/-- THE TOLD AND TIED CARD OF 'n001_10.FnFunc2WrapStringText'. -/
def fnFunc2WrapStringTextCard : Claim7 := { stood := { row := fnFunc2WrapStringTextRow, standIns := [], harness := (true, "6d8df210cad7fc445755939fe5c3eda5d685b2c90762b160b5b1f6daa2a88d80"), looks := true }, told := true, laidByText := true, laidKinds := [.data, .data, .data, .data, .data, .data, .data, .data, .data, .data, .pinned, .pinned, .pinned], laidTests := true, laidLooks := .later, goes := false }
def FnFunc2WrapStringTextToldSaid : Prop := Claim7.holds Tryz.pinned (.plain (OpenSpec.ofChange fnFunc2WrapStringTextSpec)) fnFunc2WrapStringTextCard
/-- ITS FALSE NEIGHBOUR. Refute it at one input. -/
def FnFunc2WrapStringTextToldWrongFalsely : Prop := Claim7.holds Tryz.pinned (.plain (OpenSpec.ofChange fnFunc2WrapStringTextWrong)) fnFunc2WrapStringTextCard

/-- THE TOLD AND TIED CARD OF 'n001_10.FnExitCodeScalarText'. -/
def fnExitCodeScalarTextCard : Claim7 := { stood := { row := fnExitCodeScalarTextRow, standIns := [], harness := (true, "6d8df210cad7fc445755939fe5c3eda5d685b2c90762b160b5b1f6daa2a88d80"), looks := true }, told := true, laidByText := true, laidKinds := [.data, .data, .data, .data, .data, .data, .data, .data, .data, .data, .pinned, .pinned, .pinned], laidTests := true, laidLooks := .later, goes := false }
def FnExitCodeScalarTextToldSaid : Prop := Claim7.holds Tryz.pinned (.plain (OpenSpec.ofChange fnExitCodeScalarTextSpec)) fnExitCodeScalarTextCard
/-- ITS FALSE NEIGHBOUR. Refute it at one input. -/
def FnExitCodeScalarTextToldWrongFalsely : Prop := Claim7.holds Tryz.pinned (.plain (OpenSpec.ofChange fnExitCodeScalarTextWrong)) fnExitCodeScalarTextCard
end Rows
end Go.Proofs.YtcgpjijbnkgbcaaGreatFmt
