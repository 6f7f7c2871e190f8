/-
  Preview of a string.
-/
import Derived.Test.YtcajagjgbalakaaGreatFmtEncodeS
import Derived.Test.YtcajagjgbalakaaGreatFmtPrevLong
import Derived.Test.YtcajagjgbalakaaGreatFmtTepAll
namespace Go.Proofs.YtcajagjgbalakaaGreatFmt
set_option linter.unusedVariables false
set_option linter.unusedSimpArgs false
open Go.RowKit Go.Lib Go.Sort

theorem preview_str (s : ByteArray) (hs : s.size ≤ 2097152) (w : World) (hT : Tabs w) :
    Calls Tryz.prog 10 #[.iface 9 (.string s)] w (Says w (previewOf (quoted s.data.toList) dots)) := by
  by_cases hl : (quoted s.data.toList).length ≤ 30
  · rw [previewOf_short _ _ hl]
    exact preview_short _ _ w hl (marshal_str s hs 32 (by omega) (by omega) w hT)
  · rw [previewOf_long _ _ (by omega)]
    exact preview_long s _ w hT (by omega) (marshal_str s hs 32 (by omega) (by omega) w hT)
theorem previewOf_le (full : List UInt8) : (previewOf full dots).length ≤ 30 := by
  by_cases hl : full.length ≤ 30
  · rw [previewOf_short _ _ hl]; exact hl
  · rw [previewOf_long _ _ (by omega), List.length_append]
    have := trimmed_length (30 - dots.length) _ (full.take 32) (Nat.le_refl _)
    simp only [dots, List.length_cons, List.length_nil] at this ⊢
    omega
def tepStr (s : ByteArray) : List UInt8 := sString ++ ([32, 40] ++ (previewOf (quoted s.data.toList) dots ++ [41]))
theorem tepStr_le (s : ByteArray) : (tepStr s).length ≤ 40 := by
  have := previewOf_le (quoted s.data.toList)
  simp only [tepStr, sString, List.length_append, List.length_cons, List.length_nil]
  omega
end Go.Proofs.YtcajagjgbalakaaGreatFmt
