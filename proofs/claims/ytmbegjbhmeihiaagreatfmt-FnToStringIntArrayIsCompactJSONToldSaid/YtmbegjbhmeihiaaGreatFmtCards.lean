/-
  DERIVED. GIVEN WITH THE SEED: THE CARDS: each row of YtmbegjbhmeihiaaGreatFmtRows.lean that lists a variable, with what it lists TIED to the program's text (the seventh form; the later family's looks); each row that meets fmt, with fmt's text TOLD by the authors' own Lean function (tested against real Go, not proved from fmt's source: count such statements apart). THE CARD IS WHAT COUNTS. Prove the row's statement (the work); the ties are given (YtmbegjbhmeihiaaGreatFmtTie.lean); close each card by the builder's one call (the guide's Derived/Test/ToyasCard.lean, 'card_holds'). Laid BY PROGRAM, IN A SANDBOX (cutbox-door.mjs). By AI agents, Wed Nov 11 2026. No macro, syntax, notation, axiom, sorry.
-/
import Derived.Test.YtmbegjbhmeihiaaGreatFmtRows
import GoSem.ClaimSeven
namespace Go.Proofs.YtmbegjbhmeihiaaGreatFmt
namespace Rows

/-- THE TOLD AND TIED CARD OF 'n001_108.FnToStringIntArrayIsCompactJSON'. -/
def fnToStringIntArrayIsCompactJSONCard : Claim7 := { stood := { row := fnToStringIntArrayIsCompactJSONRow, standIns := [], harness := (true, "16103265abf9d35505de3d1ac16ce86747709002643d4c3685be10bb7034de20"), looks := true }, told := true, laidByText := true, laidKinds := [.data, .data, .data, .data, .data, .data, .data, .data, .data, .data, .pinned, .pinned, .pinned], laidTests := true, laidLooks := .later, goes := false }
def FnToStringIntArrayIsCompactJSONToldSaid : Prop := Claim7.holds Tryz.pinned (.plain (OpenSpec.ofChange fnToStringIntArrayIsCompactJSONSpec)) fnToStringIntArrayIsCompactJSONCard
/-- ITS FALSE NEIGHBOUR. Refute it at one input. -/
def FnToStringIntArrayIsCompactJSONToldWrongFalsely : Prop := Claim7.holds Tryz.pinned (.plain (OpenSpec.ofChange fnToStringIntArrayIsCompactJSONWrong)) fnToStringIntArrayIsCompactJSONCard
end Rows
end Go.Proofs.YtmbegjbhmeihiaaGreatFmt
