/-
  The text of one error type, by the contracts of its previews.
-/
import Derived.Test.YtconaigmmhdlmaaGreatFmtTep
import Derived.Deep.RegionHeld3
namespace Go.Proofs.YtconaigmmhdlmaaGreatFmt
set_option linter.unusedVariables false
set_option linter.unusedSimpArgs false
open Go.RowKit Go.Lib Go.Sort

theorem keepFunc2 {w w' : World} {b : Nat} {name : ByteArray} {v2 : Value} {v3 : Value} {v1 : Value} (hb : b < w.heap.size) (c0 : w.cell? ⟨b, 0, none⟩ = some (.string name)) (c1 : w.cell? ⟨b, 1, none⟩ = some v1) (c2 : w.cell? ⟨b, 2, none⟩ = some v2) (c3 : w.cell? ⟨b, 3, none⟩ = some v3) (h : Below w.heap.size w w') :
    w'.cell? ⟨b, 0, none⟩ = some (.string name) ∧ w'.cell? ⟨b, 1, none⟩ = some v1 ∧ w'.cell? ⟨b, 2, none⟩ = some v2 ∧ w'.cell? ⟨b, 3, none⟩ = some v3 ∧ Below w.heap.size w w' :=
  ⟨(h.cell (p := ⟨b, 0, none⟩) hb).trans c0, (h.cell (p := ⟨b, 1, none⟩) hb).trans c1, (h.cell (p := ⟨b, 2, none⟩) hb).trans c2, (h.cell (p := ⟨b, 3, none⟩) hb).trans c3, h⟩
def txtFunc2 (name : ByteArray) (t2 : List UInt8) (t3 : List UInt8) (t1 : List UInt8) : List UInt8 := (name.data.toList ++ ([40] ++ (t2 ++ ([59, 32] ++ (t3 ++ ([41, 32, 99, 97, 110, 110, 111, 116, 32, 98, 101, 32, 97, 112, 112, 108, 105, 101, 100, 32, 116, 111, 58, 32] ++ t1))))))
set_option maxRecDepth 100000 in
set_option maxHeartbeats 1600000 in
theorem errFunc2 (name : ByteArray) (v2 : Value) (t2 : List UInt8) (v3 : Value) (t3 : List UInt8) (v1 : Value) (t1 : List UInt8) (hn : name.size ≤ 140737488351232) (hl2 : t2.length ≤ 100) (hl3 : t3.length ≤ 100) (hl1 : t1.length ≤ 100)
    (hc2 : ∀ w, Tabs w → Calls Tryz.prog 58 #[v2] w (Says w t2))
    (hc3 : ∀ w, Tabs w → Calls Tryz.prog 58 #[v3] w (Says w t3))
    (hc1 : ∀ w, Tabs w → Calls Tryz.prog 56 #[v1] w (Says w t1))
    (w : World) (hT : Tabs w) (b : Nat) (hb : b < w.heap.size) (c0 : w.cell? ⟨b, 0, none⟩ = some (.string name)) (c1 : w.cell? ⟨b, 1, none⟩ = some v1) (c2 : w.cell? ⟨b, 2, none⟩ = some v2) (c3 : w.cell? ⟨b, 3, none⟩ = some v3) :
    Calls Tryz.prog 55 #[.pointer (some ⟨b, 0, none⟩)] w (Says w (txtFunc2 name t2 t3 t1)) := by
  have z2 : ¬ 9223372036854775807 < name.size + 1 := by omega
  have z3 : ¬ 9223372036854775807 < name.size + 1 + t2.length := by omega
  have z4 : ¬ 9223372036854775807 < name.size + 1 + t2.length + 2 := by omega
  have z5 : ¬ 9223372036854775807 < name.size + 1 + t2.length + 2 + t3.length := by omega
  have z6 : ¬ 9223372036854775807 < name.size + 1 + t2.length + 2 + t3.length + 24 := by omega
  have z7 : ¬ 9223372036854775807 < name.size + 1 + t2.length + 2 + t3.length + 24 + t1.length := by omega
  have H2 := Lib.hid (says_from hc2 hT)
  have H3 := Lib.hid (says_from hc3 hT)
  have H1 := Lib.hid (says_from hc1 hT)
  clear hc2 hc3 hc1 hT
  go_enter Tryz.func55, Tryz.ntmps55
  go_wp2_with fail
  go_region_held3 (fun w' => w'.cell? ⟨b, 0, none⟩ = some (.string name) ∧ w'.cell? ⟨b, 1, none⟩ = some v1 ∧ w'.cell? ⟨b, 2, none⟩ = some v2 ∧ w'.cell? ⟨b, 3, none⟩ = some v3 ∧ Below w.heap.size w w') (first | exact keepFunc2 hb c0 c1 c2 c3 (Below.refl _ _).drew | exact keepFunc2 hb c0 c1 c2 c3 (by assumption)) (first
    | (go_at_call_of 58 v2; refine (H2.out _ ?_).mono ?_; go_grown; rintro e w1 ⟨rfl, hb1⟩)
    | (go_at_call_of 58 v3; refine (H3.out _ ?_).mono ?_; go_grown; rintro e w2 ⟨rfl, hb2⟩)
    | (go_at_call_of 56 v1; refine (H1.out _ ?_).mono ?_; go_grown; rintro e w3 ⟨rfl, hb3⟩))
  all_goals (go_wp2_with fail)
  all_goals (go_ret; refine ⟨says_str ?_, by go_grown⟩; simp [txtFunc2])
end Go.Proofs.YtconaigmmhdlmaaGreatFmt
