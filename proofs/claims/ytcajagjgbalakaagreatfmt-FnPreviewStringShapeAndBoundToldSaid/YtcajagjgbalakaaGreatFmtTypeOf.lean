/-
  TypeOf of nil, a boolean, an int, a string.
-/
import Derived.Test.YtcajagjgbalakaaGreatFmtAs
import Derived.Test.YtcajagjgbalakaaGreatFmtSays
namespace Go.Proofs.YtcajagjgbalakaaGreatFmt
set_option linter.unusedVariables false
set_option linter.unusedSimpArgs false
open Go.RowKit Go.Lib

def sNumber : List UInt8 := [110, 117, 109, 98, 101, 114]
def sBoolean : List UInt8 := [98, 111, 111, 108, 101, 97, 110]
def sString : List UInt8 := [115, 116, 114, 105, 110, 103]



end Go.Proofs.YtcajagjgbalakaaGreatFmt
