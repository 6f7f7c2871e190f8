/-
  The text of one error type, by the contracts of its previews.
-/
import Derived.Test.YtmhgefehklakmaaGreatFmtTep
import Derived.Deep.RegionWith
namespace Go.Proofs.YtmhgefehklakmaaGreatFmt
set_option linter.unusedVariables false
set_option linter.unusedSimpArgs false
open Go.RowKit Go.Lib Go.Sort

def txtZeroDiv (t0 : List UInt8) (t1 : List UInt8) : List UInt8 := ([99, 97, 110, 110, 111, 116, 32, 100, 105, 118, 105, 100, 101, 32] ++ (t0 ++ ([32, 98, 121, 58, 32] ++ t1)))
set_option maxRecDepth 100000 in
set_option maxHeartbeats 1600000 in
theorem errZeroDiv (v0 : Value) (t0 : List UInt8) (v1 : Value) (t1 : List UInt8) (hl0 : t0.length ≤ 100) (hl1 : t1.length ≤ 100)
    (hc0 : ∀ w, Tabs w → Calls Tryz.prog 23 #[v0] w (Says w t0))
    (hc1 : ∀ w, Tabs w → Calls Tryz.prog 23 #[v1] w (Says w t1))
    (w : World) (hT : Tabs w) (b : Nat) (hb : b < w.heap.size) (c0 : w.cell? ⟨b, 0, none⟩ = some v0) (c1 : w.cell? ⟨b, 1, none⟩ = some v1) :
    Calls Tryz.prog 21 #[.pointer (some ⟨b, 0, none⟩)] w (Says w (txtZeroDiv t0 t1)) := by
  have z2 : ¬ 9223372036854775807 < 14 + t0.length := by omega
  have z3 : ¬ 9223372036854775807 < 14 + t0.length + 5 := by omega
  have z4 : ¬ 9223372036854775807 < 14 + t0.length + 5 + t1.length := by omega
  have H0 := Lib.hid (says_from hc0 hT)
  have H1 := Lib.hid (says_from hc1 hT)
  clear hc0 hc1 hT
  go_enter Tryz.func21, Tryz.ntmps21
  go_wp2_with fail
  go_region_with (first
    | (go_at_call_of 23 v0; refine (H0.out _ ?_).mono ?_; go_grown; rintro e w1 ⟨rfl, hb1⟩; have c0_1 := (hb1.cell (p := ⟨b, 0, none⟩) hb).trans c0; have c1_1 := (hb1.cell (p := ⟨b, 1, none⟩) hb).trans c1)
    | (go_at_call_of 23 v1; refine (H1.out _ ?_).mono ?_; go_grown; rintro e w2 ⟨rfl, hb2⟩; have c0_2 := (hb2.cell (p := ⟨b, 0, none⟩) hb).trans c0; have c1_2 := (hb2.cell (p := ⟨b, 1, none⟩) hb).trans c1))
  all_goals (go_wp2_with fail)
  all_goals (go_ret; refine ⟨says_str ?_, by go_grown⟩; simp [txtZeroDiv])
end Go.Proofs.YtmhgefehklakmaaGreatFmt
