/-
  typeErrorPreview of nil, and of a value by the contracts of TypeOf and Preview.
-/
import Derived.Test.YtcajagjgbalakaaGreatFmtTypeOf
import Derived.Deep.RegionWith
import Derived.WalkSpells
import Derived.Lib.Hide
namespace Go.Proofs.YtcajagjgbalakaaGreatFmt
set_option linter.unusedVariables false
set_option linter.unusedSimpArgs false
open Go.RowKit Go.Lib

theorem says_str {b : ByteArray} {t : List UInt8} (h : b.data.toList = t) : Ending.returned (.string b) = Ending.returned (.string ⟨t.toArray⟩) := by
  subst h
  rfl


end Go.Proofs.YtcajagjgbalakaaGreatFmt
