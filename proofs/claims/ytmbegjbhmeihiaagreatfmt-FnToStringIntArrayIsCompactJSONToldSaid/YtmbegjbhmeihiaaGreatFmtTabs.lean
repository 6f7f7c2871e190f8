/-
  What the walks ask of the start: the table of powers of ten and the decoder's two tables read as the library lays them; and that they stay so.
-/
import Derived.Test.YtmbegjbhmeihiaaGreatFmtAid
import Derived.Test.YtmbegjbhmeihiaaGreatFmtProg
import Derived.Lib.AppendIntMem
import Derived.Shelf.Unicode.DecodeSlow
namespace Go.Proofs.YtmbegjbhmeihiaaGreatFmt
set_option linter.unusedVariables false
set_option linter.unusedSimpArgs false
open Go.RowKit Go.Lib

structure Tabs (w : World) : Prop where
  pow : TabIs Tryz.prog w "internal/strconv.uint64pow10" .u64 pow10Tab
  utf : Utf8Tabs 2 3 w
theorem Tabs.on {w w' : World} (h : Tabs w) (hb : Below w.heap.size w w') : Tabs w' :=
  ⟨tabBelow_of_tabIs h.pow w' hb, Utf8Tabs_below h.utf hb⟩
end Go.Proofs.YtmbegjbhmeihiaaGreatFmt
