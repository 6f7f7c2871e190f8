/-
  typeErrorPreview of an int and of a boolean.
-/
import Derived.Test.YtconaigmmhdlmaaGreatFmtTep
import Derived.Test.YtconaigmmhdlmaaGreatFmtPreview
namespace Go.Proofs.YtconaigmmhdlmaaGreatFmt
set_option linter.unusedVariables false
set_option linter.unusedSimpArgs false
open Go.RowKit Go.Lib

def tepInt (n : Int) : List UInt8 := sNumber ++ ([32, 40] ++ (itoa n ++ [41]))
def boolText (b : Bool) : List UInt8 := if b then sTrue.data.toList else sFalse.data.toList
def tepBool (b : Bool) : List UInt8 := sBoolean ++ ([32, 40] ++ (boolText b ++ [41]))
theorem tepInt_le (n : Int) (h0 : -9223372036854775808 ≤ n) (h1 : n ≤ 9223372036854775807) : (tepInt n).length ≤ 100 := by
  have := itoa_length_le n h0 h1
  simp only [tepInt, sNumber, List.length_append, List.length_cons, List.length_nil]
  omega
theorem tepBool_le (b : Bool) : (tepBool b).length ≤ 100 := by cases b <;> decide
theorem tep_int (n : Int) (h0 : -9223372036854775808 ≤ n) (h1 : n ≤ 9223372036854775807) (w : World) (hT : Tabs w) :
    Calls Tryz.prog 56 #[.iface 3 (.int .i64 n)] w (Says w (tepInt n)) :=
  tep_of 3 (.int .i64 n) sNumber (itoa n) (by decide) (by have := itoa_length_le n h0 h1; omega) (fun w => asIntIter _ w) (fun w => typeOf_int n w) (preview_int n h0 h1) w hT
theorem tep_bool (b : Bool) (w : World) (hT : Tabs w) :
    Calls Tryz.prog 56 #[.iface 4 (.bool b)] w (Says w (tepBool b)) :=
  tep_of 4 (.bool b) sBoolean (boolText b) (by decide) (by cases b <;> decide) (fun w => asBoolIter _ w) (fun w => typeOf_bool b w) (fun w _ => preview_bool b w) w hT
end Go.Proofs.YtconaigmmhdlmaaGreatFmt
