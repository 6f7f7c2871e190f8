/-
  The text of one error type, by the contracts of its previews.
-/
import Derived.Test.YtconaigmmhdlmaaGreatFmtTep
import Derived.Deep.RegionHeld3
namespace Go.Proofs.YtconaigmmhdlmaaGreatFmt
set_option linter.unusedVariables false
set_option linter.unusedSimpArgs false
open Go.RowKit Go.Lib Go.Sort

theorem keepFunc0 {w w' : World} {b : Nat} {name : ByteArray} {v1 : Value} (hb : b < w.heap.size) (c0 : w.cell? ⟨b, 0, none⟩ = some (.string name)) (c1 : w.cell? ⟨b, 1, none⟩ = some v1) (h : Below w.heap.size w w') :
    w'.cell? ⟨b, 0, none⟩ = some (.string name) ∧ w'.cell? ⟨b, 1, none⟩ = some v1 ∧ Below w.heap.size w w' :=
  ⟨(h.cell (p := ⟨b, 0, none⟩) hb).trans c0, (h.cell (p := ⟨b, 1, none⟩) hb).trans c1, h⟩
def txtFunc0 (name : ByteArray) (t1 : List UInt8) : List UInt8 := (name.data.toList ++ ([32, 99, 97, 110, 110, 111, 116, 32, 98, 101, 32, 97, 112, 112, 108, 105, 101, 100, 32, 116, 111, 58, 32] ++ t1))
set_option maxRecDepth 100000 in
set_option maxHeartbeats 1600000 in
theorem errFunc0 (name : ByteArray) (v1 : Value) (t1 : List UInt8) (hn : name.size ≤ 140737488351232) (hl1 : t1.length ≤ 100)
    (hc1 : ∀ w, Tabs w → Calls Tryz.prog 56 #[v1] w (Says w t1))
    (w : World) (hT : Tabs w) (b : Nat) (hb : b < w.heap.size) (c0 : w.cell? ⟨b, 0, none⟩ = some (.string name)) (c1 : w.cell? ⟨b, 1, none⟩ = some v1) :
    Calls Tryz.prog 57 #[.pointer (some ⟨b, 0, none⟩)] w (Says w (txtFunc0 name t1)) := by
  have z2 : ¬ 9223372036854775807 < name.size + 23 := by omega
  have z3 : ¬ 9223372036854775807 < name.size + 23 + t1.length := by omega
  have H1 := Lib.hid (says_from hc1 hT)
  clear hc1 hT
  go_enter Tryz.func57, Tryz.ntmps57
  go_wp2_with fail
  go_region_held3 (fun w' => w'.cell? ⟨b, 0, none⟩ = some (.string name) ∧ w'.cell? ⟨b, 1, none⟩ = some v1 ∧ Below w.heap.size w w') (first | exact keepFunc0 hb c0 c1 (Below.refl _ _).drew | exact keepFunc0 hb c0 c1 (by assumption)) (first
    | (go_at_call_of 56 v1; refine (H1.out _ ?_).mono ?_; go_grown; rintro e w1 ⟨rfl, hb1⟩))
  all_goals (go_wp2_with fail)
  all_goals (go_ret; refine ⟨says_str ?_, by go_grown⟩; simp [txtFunc0])
end Go.Proofs.YtconaigmmhdlmaaGreatFmt
