/-
  DERIVED. GIVEN WITH THE SEED: THE CARDS: each row of YtnipnfopdneodaaGreatDoorRows.lean that lists a variable, with what it lists TIED to the program's text (the seventh form; the later family's looks); each row that meets fmt, with fmt's text TOLD by the authors' own Lean function (tested against real Go, not proved from fmt's source: count such statements apart). THE CARD IS WHAT COUNTS. Prove the row's statement (the work); the ties are given (YtnipnfopdneodaaGreatDoorTie.lean); close each card by the builder's one call (the guide's Derived/Test/ToyasCard.lean, 'card_holds'). Laid BY PROGRAM, IN A SANDBOX (cutbox-door.mjs). By AI agents, Wed Nov 11 2026. No macro, syntax, notation, axiom, sorry.
-/
import Derived.Test.YtnipnfopdneodaaGreatDoorRows
import GoSem.ClaimSeven
namespace Go.Proofs.YtnipnfopdneodaaGreatDoor
namespace Rows

/-- THE TIED CARD OF 'n001_105.FnToFloatNumberKindsAgree'. -/
def fnToFloatNumberKindsAgreeCard : Claim7 := { stood := { row := fnToFloatNumberKindsAgreeRow, standIns := [], harness := (true, "be84c9f0eb109eb55798f47cf137ab7479122f223cb07d0193943e715edcca63"), looks := true }, kinds := [], alts := [], laidByText := true, laidKinds := [.data, .data, .widerDeep, .widerDeep, .data, .data, .data, .data, .data, .sentinel, .sentinel, .data, .data, .data, .data, .data, .pinned, .pinned], laidTests := true, laidLooks := .later }
def FnToFloatNumberKindsAgreeCardSaid : Prop := Claim7.holds Tryz.pinned (.plain (OpenSpec.ofChange fnToFloatNumberKindsAgreeSpec)) fnToFloatNumberKindsAgreeCard

/-- THE SECOND FORM's CARD OF 'n001_105.FnToFloatNumberKindsAgree'. -/
def fnToFloatNumberKindsAgreeUptoCard : Claim7 := { stood := { row := fnToFloatNumberKindsAgreeUptoRow, standIns := [], harness := (true, "be84c9f0eb109eb55798f47cf137ab7479122f223cb07d0193943e715edcca63"), looks := true }, kinds := [], alts := [], laidByText := true, laidKinds := [.data, .data, .widerDeep, .widerDeep, .data, .data, .data, .data, .data, .sentinel, .sentinel, .data, .data, .data, .data, .data, .pinned, .pinned], laidTests := true, laidLooks := .later }
def FnToFloatNumberKindsAgreeUptoCardSaid : Prop := Claim7.holds Tryz.pinned (.plain (OpenSpec.upto fnToFloatNumberKindsAgreeSpec)) fnToFloatNumberKindsAgreeUptoCard
end Rows
end Go.Proofs.YtnipnfopdneodaaGreatDoor
