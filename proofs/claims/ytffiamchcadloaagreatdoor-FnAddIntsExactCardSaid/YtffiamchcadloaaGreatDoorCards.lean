/-
  DERIVED. GIVEN WITH THE SEED: THE CARDS: each row of YtffiamchcadloaaGreatDoorRows.lean that lists a variable, with what it lists TIED to the program's text (the seventh form; the later family's looks); each row that meets fmt, with fmt's text TOLD by the authors' own Lean function (tested against real Go, not proved from fmt's source: count such statements apart). THE CARD IS WHAT COUNTS. Prove the row's statement (the work); the ties are given (YtffiamchcadloaaGreatDoorTie.lean); close each card by the builder's one call (the guide's Derived/Test/ToyasCard.lean, 'card_holds'). Laid BY PROGRAM, IN A SANDBOX (cutbox-door.mjs). By AI agents, Wed Nov 11 2026. No macro, syntax, notation, axiom, sorry.
-/
import Derived.Test.YtffiamchcadloaaGreatDoorRows
import GoSem.ClaimSeven
namespace Go.Proofs.YtffiamchcadloaaGreatDoor
namespace Rows

/-- THE TIED CARD OF 'n001_19.FnAddIntsExact'. -/
def fnAddIntsExactCard : Claim7 := { stood := { row := fnAddIntsExactRow, standIns := [], harness := (true, "44ef215f8bacb580bdbdc286f10fc4efc1492fc97fc6a8ba8b73104d9452b115"), looks := true }, kinds := [], alts := [], laidByText := true, laidKinds := [.data, .data, .widerDeep, .widerDeep, .data, .data, .data, .data, .data, .sentinel, .sentinel, .sentinel, .sentinel, .sentinel, .data, .data, .data, .data, .data, .pinned, .pinned], laidTests := true, laidLooks := .later }
def FnAddIntsExactCardSaid : Prop := Claim7.holds Tryz.pinned (.plain (OpenSpec.ofChange fnAddIntsExactSpec)) fnAddIntsExactCard

/-- THE TIED CARD OF 'n001_19.FnMulIntsExact'. -/
def fnMulIntsExactCard : Claim7 := { stood := { row := fnMulIntsExactRow, standIns := [], harness := (true, "44ef215f8bacb580bdbdc286f10fc4efc1492fc97fc6a8ba8b73104d9452b115"), looks := true }, kinds := [], alts := [], laidByText := true, laidKinds := [.data, .data, .widerDeep, .widerDeep, .data, .data, .data, .data, .data, .sentinel, .sentinel, .sentinel, .sentinel, .sentinel, .data, .data, .data, .data, .data, .pinned, .pinned], laidTests := true, laidLooks := .later }
def FnMulIntsExactCardSaid : Prop := Claim7.holds Tryz.pinned (.plain (OpenSpec.ofChange fnMulIntsExactSpec)) fnMulIntsExactCard

/-- THE TIED CARD OF 'n001_19.FnAddStringArraysConcatenate'. -/
def fnAddStringArraysConcatenateCard : Claim7 := { stood := { row := fnAddStringArraysConcatenateRow, standIns := [], harness := (true, "44ef215f8bacb580bdbdc286f10fc4efc1492fc97fc6a8ba8b73104d9452b115"), looks := true }, kinds := [], alts := [], laidByText := true, laidKinds := [.data, .data, .widerDeep, .widerDeep, .data, .data, .data, .data, .data, .sentinel, .sentinel, .sentinel, .sentinel, .sentinel, .data, .data, .data, .data, .data, .pinned, .pinned], laidTests := true, laidLooks := .later }
def FnAddStringArraysConcatenateCardSaid : Prop := Claim7.holds Tryz.pinned (.plain (OpenSpec.ofChange fnAddStringArraysConcatenateSpec)) fnAddStringArraysConcatenateCard

/-- THE SECOND FORM's CARD OF 'n001_19.FnAddIntsExact'. -/
def fnAddIntsExactUptoCard : Claim7 := { stood := { row := fnAddIntsExactUptoRow, standIns := [], harness := (true, "44ef215f8bacb580bdbdc286f10fc4efc1492fc97fc6a8ba8b73104d9452b115"), looks := true }, kinds := [], alts := [], laidByText := true, laidKinds := [.data, .data, .widerDeep, .widerDeep, .data, .data, .data, .data, .data, .sentinel, .sentinel, .sentinel, .sentinel, .sentinel, .data, .data, .data, .data, .data, .pinned, .pinned], laidTests := true, laidLooks := .later }
def FnAddIntsExactUptoCardSaid : Prop := Claim7.holds Tryz.pinned (.plain (OpenSpec.upto fnAddIntsExactSpec)) fnAddIntsExactUptoCard

/-- THE SECOND FORM's CARD OF 'n001_19.FnMulIntsExact'. -/
def fnMulIntsExactUptoCard : Claim7 := { stood := { row := fnMulIntsExactUptoRow, standIns := [], harness := (true, "44ef215f8bacb580bdbdc286f10fc4efc1492fc97fc6a8ba8b73104d9452b115"), looks := true }, kinds := [], alts := [], laidByText := true, laidKinds := [.data, .data, .widerDeep, .widerDeep, .data, .data, .data, .data, .data, .sentinel, .sentinel, .sentinel, .sentinel, .sentinel, .data, .data, .data, .data, .data, .pinned, .pinned], laidTests := true, laidLooks := .later }
def FnMulIntsExactUptoCardSaid : Prop := Claim7.holds Tryz.pinned (.plain (OpenSpec.upto fnMulIntsExactSpec)) fnMulIntsExactUptoCard

/-- THE SECOND FORM's CARD OF 'n001_19.FnAddStringArraysConcatenate'. -/
def fnAddStringArraysConcatenateUptoCard : Claim7 := { stood := { row := fnAddStringArraysConcatenateUptoRow, standIns := [], harness := (true, "44ef215f8bacb580bdbdc286f10fc4efc1492fc97fc6a8ba8b73104d9452b115"), looks := true }, kinds := [], alts := [], laidByText := true, laidKinds := [.data, .data, .widerDeep, .widerDeep, .data, .data, .data, .data, .data, .sentinel, .sentinel, .sentinel, .sentinel, .sentinel, .data, .data, .data, .data, .data, .pinned, .pinned], laidTests := true, laidLooks := .later }
def FnAddStringArraysConcatenateUptoCardSaid : Prop := Claim7.holds Tryz.pinned (.plain (OpenSpec.upto fnAddStringArraysConcatenateSpec)) fnAddStringArraysConcatenateUptoCard
end Rows
end Go.Proofs.YtffiamchcadloaaGreatDoor
