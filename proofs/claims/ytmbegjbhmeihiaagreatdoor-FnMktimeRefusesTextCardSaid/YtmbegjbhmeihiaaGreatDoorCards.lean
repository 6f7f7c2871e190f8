/-
  DERIVED. GIVEN WITH THE SEED: THE CARDS: each row of YtmbegjbhmeihiaaGreatDoorRows.lean that lists a variable, with what it lists TIED to the program's text (the seventh form; the later family's looks); each row that meets fmt, with fmt's text TOLD by the authors' own Lean function (tested against real Go, not proved from fmt's source: count such statements apart). THE CARD IS WHAT COUNTS. Prove the row's statement (the work); the ties are given (YtmbegjbhmeihiaaGreatDoorTie.lean); close each card by the builder's one call (the guide's Derived/Test/ToyasCard.lean, 'card_holds'). Laid BY PROGRAM, IN A SANDBOX (cutbox-door.mjs). By AI agents, Wed Nov 11 2026. No macro, syntax, notation, axiom, sorry.
-/
import Derived.Test.YtmbegjbhmeihiaaGreatDoorRows
import GoSem.ClaimSeven
namespace Go.Proofs.YtmbegjbhmeihiaaGreatDoor
namespace Rows

/-- THE TIED CARD OF 'n001_108.FnContainsStringsIsSubstring'. -/
def fnContainsStringsIsSubstringCard : Claim7 := { stood := { row := fnContainsStringsIsSubstringRow, standIns := [], harness := (true, "ca510bb6d3884646476ac706067ab36d407d30614a3293fd740ff072adf18749"), looks := true }, kinds := [], alts := [], laidByText := true, laidKinds := [.data, .data, .widerDeep, .widerDeep, .data, .data, .data, .data, .data, .sentinel, .sentinel, .sentinel, .sentinel, .sentinel, .data, .data, .data, .data, .data, .pinned, .pinned], laidTests := true, laidLooks := .later }
def FnContainsStringsIsSubstringCardSaid : Prop := Claim7.holds Tryz.pinned (.plain (OpenSpec.ofChange fnContainsStringsIsSubstringSpec)) fnContainsStringsIsSubstringCard

/-- THE TIED CARD OF 'n001_108.FnContainsIntArraysIsSubset'. -/
def fnContainsIntArraysIsSubsetCard : Claim7 := { stood := { row := fnContainsIntArraysIsSubsetRow, standIns := [], harness := (true, "ca510bb6d3884646476ac706067ab36d407d30614a3293fd740ff072adf18749"), looks := true }, kinds := [], alts := [], laidByText := true, laidKinds := [.data, .data, .widerDeep, .widerDeep, .data, .data, .data, .data, .data, .sentinel, .sentinel, .sentinel, .sentinel, .sentinel, .data, .data, .data, .data, .data, .pinned, .pinned], laidTests := true, laidLooks := .later }
def FnContainsIntArraysIsSubsetCardSaid : Prop := Claim7.holds Tryz.pinned (.plain (OpenSpec.ofChange fnContainsIntArraysIsSubsetSpec)) fnContainsIntArraysIsSubsetCard

/-- THE TIED CARD OF 'n001_32.FnMktimeRefusesText'. -/
def fnMktimeRefusesTextCard : Claim7 := { stood := { row := fnMktimeRefusesTextRow, standIns := [], harness := (true, "ca510bb6d3884646476ac706067ab36d407d30614a3293fd740ff072adf18749"), looks := true }, kinds := [], alts := [], laidByText := true, laidKinds := [.data, .data, .widerDeep, .widerDeep, .data, .data, .data, .data, .data, .sentinel, .sentinel, .sentinel, .sentinel, .sentinel, .data, .data, .data, .data, .data, .pinned, .pinned], laidTests := true, laidLooks := .later }
def FnMktimeRefusesTextCardSaid : Prop := Claim7.holds Tryz.pinned (.plain (OpenSpec.ofChange fnMktimeRefusesTextSpec)) fnMktimeRefusesTextCard

/-- THE TIED CARD OF 'n001_32.FnLocaltimeIsCalendarShiftOfTheInstant'. -/
def fnLocaltimeIsCalendarShiftOfTheInstantCard : Claim7 := { stood := { row := fnLocaltimeIsCalendarShiftOfTheInstantRow, standIns := [], harness := (true, "ca510bb6d3884646476ac706067ab36d407d30614a3293fd740ff072adf18749"), looks := true }, kinds := [], alts := [], laidByText := true, laidKinds := [.data, .data, .widerDeep, .widerDeep, .data, .data, .data, .data, .data, .sentinel, .sentinel, .data, .data, .data, .data, .data, .pinned, .pinned], laidTests := true, laidLooks := .later }
def FnLocaltimeIsCalendarShiftOfTheInstantCardSaid : Prop := Claim7.holds Tryz.pinned (.plain (OpenSpec.ofChange fnLocaltimeIsCalendarShiftOfTheInstantSpec)) fnLocaltimeIsCalendarShiftOfTheInstantCard

/-- THE TIED CARD OF 'n001_32.FnMktimeMatchesCivilModel'. -/
def fnMktimeMatchesCivilModelCard : Claim7 := { stood := { row := fnMktimeMatchesCivilModelRow, standIns := [], harness := (true, "ca510bb6d3884646476ac706067ab36d407d30614a3293fd740ff072adf18749"), looks := true }, kinds := [], alts := [], laidByText := true, laidKinds := [.data, .data, .widerDeep, .widerDeep, .data, .data, .data, .data, .data, .sentinel, .sentinel, .sentinel, .sentinel, .sentinel, .data, .data, .data, .data, .data, .pinned, .pinned], laidTests := true, laidLooks := .later }
def FnMktimeMatchesCivilModelCardSaid : Prop := Claim7.holds Tryz.pinned (.plain (OpenSpec.ofChange fnMktimeMatchesCivilModelSpec)) fnMktimeMatchesCivilModelCard

/-- THE SECOND FORM's CARD OF 'n001_108.FnContainsStringsIsSubstring'. -/
def fnContainsStringsIsSubstringUptoCard : Claim7 := { stood := { row := fnContainsStringsIsSubstringUptoRow, standIns := [], harness := (true, "ca510bb6d3884646476ac706067ab36d407d30614a3293fd740ff072adf18749"), looks := true }, kinds := [], alts := [], laidByText := true, laidKinds := [.data, .data, .widerDeep, .widerDeep, .data, .data, .data, .data, .data, .sentinel, .sentinel, .sentinel, .sentinel, .sentinel, .data, .data, .data, .data, .data, .pinned, .pinned], laidTests := true, laidLooks := .later }
def FnContainsStringsIsSubstringUptoCardSaid : Prop := Claim7.holds Tryz.pinned (.plain (OpenSpec.upto fnContainsStringsIsSubstringSpec)) fnContainsStringsIsSubstringUptoCard

/-- THE SECOND FORM's CARD OF 'n001_108.FnContainsIntArraysIsSubset'. -/
def fnContainsIntArraysIsSubsetUptoCard : Claim7 := { stood := { row := fnContainsIntArraysIsSubsetUptoRow, standIns := [], harness := (true, "ca510bb6d3884646476ac706067ab36d407d30614a3293fd740ff072adf18749"), looks := true }, kinds := [], alts := [], laidByText := true, laidKinds := [.data, .data, .widerDeep, .widerDeep, .data, .data, .data, .data, .data, .sentinel, .sentinel, .sentinel, .sentinel, .sentinel, .data, .data, .data, .data, .data, .pinned, .pinned], laidTests := true, laidLooks := .later }
def FnContainsIntArraysIsSubsetUptoCardSaid : Prop := Claim7.holds Tryz.pinned (.plain (OpenSpec.upto fnContainsIntArraysIsSubsetSpec)) fnContainsIntArraysIsSubsetUptoCard

/-- THE SECOND FORM's CARD OF 'n001_32.FnMktimeRefusesText'. -/
def fnMktimeRefusesTextUptoCard : Claim7 := { stood := { row := fnMktimeRefusesTextUptoRow, standIns := [], harness := (true, "ca510bb6d3884646476ac706067ab36d407d30614a3293fd740ff072adf18749"), looks := true }, kinds := [], alts := [], laidByText := true, laidKinds := [.data, .data, .widerDeep, .widerDeep, .data, .data, .data, .data, .data, .sentinel, .sentinel, .sentinel, .sentinel, .sentinel, .data, .data, .data, .data, .data, .pinned, .pinned], laidTests := true, laidLooks := .later }
def FnMktimeRefusesTextUptoCardSaid : Prop := Claim7.holds Tryz.pinned (.plain (OpenSpec.upto fnMktimeRefusesTextSpec)) fnMktimeRefusesTextUptoCard

/-- THE SECOND FORM's CARD OF 'n001_32.FnLocaltimeIsCalendarShiftOfTheInstant'. -/
def fnLocaltimeIsCalendarShiftOfTheInstantUptoCard : Claim7 := { stood := { row := fnLocaltimeIsCalendarShiftOfTheInstantUptoRow, standIns := [], harness := (true, "ca510bb6d3884646476ac706067ab36d407d30614a3293fd740ff072adf18749"), looks := true }, kinds := [], alts := [], laidByText := true, laidKinds := [.data, .data, .widerDeep, .widerDeep, .data, .data, .data, .data, .data, .sentinel, .sentinel, .data, .data, .data, .data, .data, .pinned, .pinned], laidTests := true, laidLooks := .later }
def FnLocaltimeIsCalendarShiftOfTheInstantUptoCardSaid : Prop := Claim7.holds Tryz.pinned (.plain (OpenSpec.upto fnLocaltimeIsCalendarShiftOfTheInstantSpec)) fnLocaltimeIsCalendarShiftOfTheInstantUptoCard

/-- THE SECOND FORM's CARD OF 'n001_32.FnMktimeMatchesCivilModel'. -/
def fnMktimeMatchesCivilModelUptoCard : Claim7 := { stood := { row := fnMktimeMatchesCivilModelUptoRow, standIns := [], harness := (true, "ca510bb6d3884646476ac706067ab36d407d30614a3293fd740ff072adf18749"), looks := true }, kinds := [], alts := [], laidByText := true, laidKinds := [.data, .data, .widerDeep, .widerDeep, .data, .data, .data, .data, .data, .sentinel, .sentinel, .sentinel, .sentinel, .sentinel, .data, .data, .data, .data, .data, .pinned, .pinned], laidTests := true, laidLooks := .later }
def FnMktimeMatchesCivilModelUptoCardSaid : Prop := Claim7.holds Tryz.pinned (.plain (OpenSpec.upto fnMktimeMatchesCivilModelSpec)) fnMktimeMatchesCivilModelUptoCard
end Rows
end Go.Proofs.YtmbegjbhmeihiaaGreatDoor
