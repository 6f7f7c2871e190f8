/-
  The text of one error type, by the contracts of its previews.
-/
import Derived.Test.YtconaigmmhdlmaaGreatFmtTep
import Derived.Deep.RegionHeld3
namespace Go.Proofs.YtconaigmmhdlmaaGreatFmt
set_option linter.unusedVariables false
set_option linter.unusedSimpArgs false
open Go.RowKit Go.Lib Go.Sort

theorem keepIter {w w' : World} {b : Nat}  {v0 : Value} (hb : b < w.heap.size) (c0 : w.cell? ⟨b, 0, none⟩ = some v0) (h : Below w.heap.size w w') :
    w'.cell? ⟨b, 0, none⟩ = some v0 ∧ Below w.heap.size w w' :=
  ⟨(h.cell (p := ⟨b, 0, none⟩) hb).trans c0, h⟩
def txtIter (t0 : List UInt8) : List UInt8 := ([99, 97, 110, 110, 111, 116, 32, 105, 116, 101, 114, 97, 116, 101, 32, 111, 118, 101, 114, 58, 32] ++ t0)
set_option maxRecDepth 100000 in
set_option maxHeartbeats 1600000 in
theorem errIter (v0 : Value) (t0 : List UInt8) (hl0 : t0.length ≤ 100)
    (hc0 : ∀ w, Tabs w → Calls Tryz.prog 56 #[v0] w (Says w t0))
    (w : World) (hT : Tabs w) (b : Nat) (hb : b < w.heap.size) (c0 : w.cell? ⟨b, 0, none⟩ = some v0) :
    Calls Tryz.prog 49 #[.pointer (some ⟨b, 0, none⟩)] w (Says w (txtIter t0)) := by
  have z2 : ¬ 9223372036854775807 < 21 + t0.length := by omega
  have H0 := Lib.hid (says_from hc0 hT)
  clear hc0 hT
  go_enter Tryz.func49, Tryz.ntmps49
  go_wp2_with fail
  refine (H0.out _ (Below.refl _ _)).mono ?_
  rintro e w1 ⟨rfl, hb1⟩
  go_wp2_with fail
  go_ret
  refine ⟨says_str ?_, by first | exact hb1 | go_grown⟩
  simp [txtIter]
end Go.Proofs.YtconaigmmhdlmaaGreatFmt
