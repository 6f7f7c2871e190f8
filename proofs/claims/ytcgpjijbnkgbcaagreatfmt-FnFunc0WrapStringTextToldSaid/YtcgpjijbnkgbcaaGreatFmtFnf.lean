/-
  formatNotFoundError's text.
-/
import Derived.Test.YtcgpjijbnkgbcaaGreatFmtTep
namespace Go.Proofs.YtcgpjijbnkgbcaaGreatFmt
set_option linter.unusedVariables false
set_option linter.unusedSimpArgs false
open Go.RowKit Go.Lib Go.Sort

def fnfPre : List UInt8 := [102, 111, 114, 109, 97, 116, 32, 110, 111, 116, 32, 100, 101, 102, 105, 110, 101, 100, 58, 32]
set_option maxRecDepth 100000 in
set_option maxHeartbeats 800000 in
theorem fnf_error (inner : ByteArray) (hi : inner.size ≤ 140737488351232) (c : Nat) (w : World) (hc : w.cell? ⟨c, 0, none⟩ = some (.string inner)) :
    Calls Tryz.prog 275 #[.pointer (some ⟨c, 0, none⟩)] w (Says w (fnfPre ++ inner.data.toList)) := by
  have z1 : ¬ 9223372036854775807 < 20 + inner.size := by omega
  go_enter Tryz.func275, Tryz.ntmps275
  go_wp2_with fail
  go_ret
  refine ⟨says_str ?_, by go_grown⟩
  simp [fnfPre]
end Go.Proofs.YtcgpjijbnkgbcaaGreatFmt
