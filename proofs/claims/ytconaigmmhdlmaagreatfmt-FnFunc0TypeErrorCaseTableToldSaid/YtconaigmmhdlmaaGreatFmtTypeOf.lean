/-
  TypeOf of nil, a boolean, an int, a string.
-/
import Derived.Test.YtconaigmmhdlmaaGreatFmtAs
import Derived.Test.YtconaigmmhdlmaaGreatFmtSays
namespace Go.Proofs.YtconaigmmhdlmaaGreatFmt
set_option linter.unusedVariables false
set_option linter.unusedSimpArgs false
open Go.RowKit Go.Lib

def sNumber : List UInt8 := [110, 117, 109, 98, 101, 114]
def sBoolean : List UInt8 := [98, 111, 111, 108, 101, 97, 110]
def sString : List UInt8 := [115, 116, 114, 105, 110, 103]

set_option maxRecDepth 100000 in
set_option maxHeartbeats 800000 in
theorem typeOf_int (i : Int) (w : World) : Calls Tryz.prog 59 #[.iface 3 (.int .i64 i)] w (Says w sNumber) := by
  have as1 := asIntBool
  have as2 := asIntInt
  have as3 := asIntFloat
  have as4 := asIntBig
  have as5 := asIntNum
  go_enter Tryz.func59, Tryz.ntmps59
  go_wp2
  go_ret
  exact ⟨rfl, by go_grown⟩

set_option maxRecDepth 100000 in
set_option maxHeartbeats 800000 in
theorem typeOf_bool (b : Bool) (w : World) : Calls Tryz.prog 59 #[.iface 4 (.bool b)] w (Says w sBoolean) := by
  have as1 := asBoolBool
  go_enter Tryz.func59, Tryz.ntmps59
  go_wp2
  go_ret
  exact ⟨rfl, by go_grown⟩

set_option maxRecDepth 100000 in
set_option maxHeartbeats 800000 in
theorem typeOf_str (s : ByteArray) (w : World) : Calls Tryz.prog 59 #[.iface 9 (.string s)] w (Says w sString) := by
  have as1 := asStrBool
  have as2 := asStrInt
  have as3 := asStrFloat
  have as4 := asStrBig
  have as5 := asStrNum
  have as6 := asStrStr
  go_enter Tryz.func59, Tryz.ntmps59
  go_wp2
  go_ret
  exact ⟨rfl, by go_grown⟩
end Go.Proofs.YtconaigmmhdlmaaGreatFmt
