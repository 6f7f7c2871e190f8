/-
  DERIVED. GIVEN WITH THE SEED: THE CARDS: each row of YtdbbmknjldapbaaGreatDoorRows.lean that lists a variable, with what it lists TIED to the program's text (the seventh form; the later family's looks); each row that meets fmt, with fmt's text TOLD by the authors' own Lean function (tested against real Go, not proved from fmt's source: count such statements apart). THE CARD IS WHAT COUNTS. Prove the row's statement (the work); the ties are given (YtdbbmknjldapbaaGreatDoorTie.lean); close each card by the builder's one call (the guide's Derived/Test/ToyasCard.lean, 'card_holds'). Laid BY PROGRAM, IN A SANDBOX (cutbox-door.mjs). By AI agents, Wed Nov 11 2026. No macro, syntax, notation, axiom, sorry.
-/
import Derived.Test.YtdbbmknjldapbaaGreatDoorRows
import GoSem.ClaimSeven
namespace Go.Proofs.YtdbbmknjldapbaaGreatDoor
namespace Rows

/-- THE TIED CARD OF 'n001_105.FnBigToFloatCorrectlyRounded'. -/
def fnBigToFloatCorrectlyRoundedCard : Claim7 := { stood := { row := fnBigToFloatCorrectlyRoundedRow, standIns := [], harness := (true, "aa67ae099cf331b92354c3d10b9bc6a2b965945cbd36e68486fcedda0c685739"), looks := true }, kinds := [], alts := [], laidByText := true, laidKinds := [.data, .data, .widerDeep, .widerDeep, .data, .data, .data, .data, .data, .sentinel, .sentinel, .data, .data, .data, .data, .data, .pinned, .pinned], laidTests := true, laidLooks := .later }
def FnBigToFloatCorrectlyRoundedCardSaid : Prop := Claim7.holds Tryz.pinned (.plain (OpenSpec.ofChange fnBigToFloatCorrectlyRoundedSpec)) fnBigToFloatCorrectlyRoundedCard

/-- THE SECOND FORM's CARD OF 'n001_105.FnBigToFloatCorrectlyRounded'. -/
def fnBigToFloatCorrectlyRoundedUptoCard : Claim7 := { stood := { row := fnBigToFloatCorrectlyRoundedUptoRow, standIns := [], harness := (true, "aa67ae099cf331b92354c3d10b9bc6a2b965945cbd36e68486fcedda0c685739"), looks := true }, kinds := [], alts := [], laidByText := true, laidKinds := [.data, .data, .widerDeep, .widerDeep, .data, .data, .data, .data, .data, .sentinel, .sentinel, .data, .data, .data, .data, .data, .pinned, .pinned], laidTests := true, laidLooks := .later }
def FnBigToFloatCorrectlyRoundedUptoCardSaid : Prop := Claim7.holds Tryz.pinned (.plain (OpenSpec.upto fnBigToFloatCorrectlyRoundedSpec)) fnBigToFloatCorrectlyRoundedUptoCard
end Rows
end Go.Proofs.YtdbbmknjldapbaaGreatDoor
