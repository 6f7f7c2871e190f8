/-
  typeErrorPreview of an int and of a boolean.
-/
import Derived.Test.YtcajagjgbalakaaGreatFmtTep
import Derived.Test.YtcajagjgbalakaaGreatFmtPreview
namespace Go.Proofs.YtcajagjgbalakaaGreatFmt
set_option linter.unusedVariables false
set_option linter.unusedSimpArgs false
open Go.RowKit Go.Lib

def tepInt (n : Int) : List UInt8 := sNumber ++ ([32, 40] ++ (itoa n ++ [41]))
def boolText (b : Bool) : List UInt8 := if b then sTrue.data.toList else sFalse.data.toList
def tepBool (b : Bool) : List UInt8 := sBoolean ++ ([32, 40] ++ (boolText b ++ [41]))
theorem tepInt_le (n : Int) (h0 : -9223372036854775808 ≤ n) (h1 : n ≤ 9223372036854775807) : (tepInt n).length ≤ 100 := by
  have := itoa_length_le n h0 h1
  simp only [tepInt, sNumber, List.length_append, List.length_cons, List.length_nil]
  omega
theorem tepBool_le (b : Bool) : (tepBool b).length ≤ 100 := by cases b <;> decide
end Go.Proofs.YtcajagjgbalakaaGreatFmt
