/-
  DERIVED. GIVEN WITH THE SEED: THE CARDS: each row of YtcgpjijbnkgbcaaGreatDoorRows.lean that lists a variable, with what it lists TIED to the program's text (the seventh form; the later family's looks); each row that meets fmt, with fmt's text TOLD by the authors' own Lean function (tested against real Go, not proved from fmt's source: count such statements apart). THE CARD IS WHAT COUNTS. Prove the row's statement (the work); the ties are given (YtcgpjijbnkgbcaaGreatDoorTie.lean); close each card by the builder's one call (the guide's Derived/Test/ToyasCard.lean, 'card_holds'). Laid BY PROGRAM, IN A SANDBOX (cutbox-door.mjs). By AI agents, Wed Nov 11 2026. No macro, syntax, notation, axiom, sorry.
-/
import Derived.Test.YtcgpjijbnkgbcaaGreatDoorRows
import GoSem.ClaimSeven
namespace Go.Proofs.YtcgpjijbnkgbcaaGreatDoor
namespace Rows

/-- THE TIED CARD OF 'n001_32.FnLocaltimeRefusesText'. -/
def fnLocaltimeRefusesTextCard : Claim7 := { stood := { row := fnLocaltimeRefusesTextRow, standIns := [], harness := (true, "17e4b5562e5751fac1b28c34e2e7d1ab2f9b523bf3a2951c88579c825b0e9ae2"), looks := true }, kinds := [], alts := [], laidByText := true, laidKinds := [.data, .data, .widerDeep, .widerDeep, .data, .data, .data, .data, .data, .sentinel, .sentinel, .data, .data, .data, .data, .data, .pinned, .pinned], laidTests := true, laidLooks := .later }
def FnLocaltimeRefusesTextCardSaid : Prop := Claim7.holds Tryz.pinned (.plain (OpenSpec.ofChange fnLocaltimeRefusesTextSpec)) fnLocaltimeRefusesTextCard

/-- THE SECOND FORM's CARD OF 'n001_32.FnLocaltimeRefusesText'. -/
def fnLocaltimeRefusesTextUptoCard : Claim7 := { stood := { row := fnLocaltimeRefusesTextUptoRow, standIns := [], harness := (true, "17e4b5562e5751fac1b28c34e2e7d1ab2f9b523bf3a2951c88579c825b0e9ae2"), looks := true }, kinds := [], alts := [], laidByText := true, laidKinds := [.data, .data, .widerDeep, .widerDeep, .data, .data, .data, .data, .data, .sentinel, .sentinel, .data, .data, .data, .data, .data, .pinned, .pinned], laidTests := true, laidLooks := .later }
def FnLocaltimeRefusesTextUptoCardSaid : Prop := Claim7.holds Tryz.pinned (.plain (OpenSpec.upto fnLocaltimeRefusesTextSpec)) fnLocaltimeRefusesTextUptoCard
end Rows
end Go.Proofs.YtcgpjijbnkgbcaaGreatDoor
