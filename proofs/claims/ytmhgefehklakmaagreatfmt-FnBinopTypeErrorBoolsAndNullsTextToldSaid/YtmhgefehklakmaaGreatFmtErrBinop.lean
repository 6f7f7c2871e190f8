/-
  The text of one error type, by the contracts of its previews.
-/
import Derived.Test.YtmhgefehklakmaaGreatFmtTep
import Derived.Deep.RegionHeld3
namespace Go.Proofs.YtmhgefehklakmaaGreatFmt
set_option linter.unusedVariables false
set_option linter.unusedSimpArgs false
open Go.RowKit Go.Lib Go.Sort

theorem keepBinop {w w' : World} {b : Nat} {name : ByteArray} {v1 : Value} {v2 : Value} (hb : b < w.heap.size) (c0 : w.cell? ⟨b, 0, none⟩ = some (.string name)) (c1 : w.cell? ⟨b, 1, none⟩ = some v1) (c2 : w.cell? ⟨b, 2, none⟩ = some v2) (h : Below w.heap.size w w') :
    w'.cell? ⟨b, 0, none⟩ = some (.string name) ∧ w'.cell? ⟨b, 1, none⟩ = some v1 ∧ w'.cell? ⟨b, 2, none⟩ = some v2 ∧ Below w.heap.size w w' :=
  ⟨(h.cell (p := ⟨b, 0, none⟩) hb).trans c0, (h.cell (p := ⟨b, 1, none⟩) hb).trans c1, (h.cell (p := ⟨b, 2, none⟩) hb).trans c2, h⟩
def txtBinop (name : ByteArray) (t1 : List UInt8) (t2 : List UInt8) : List UInt8 := ([99, 97, 110, 110, 111, 116, 32] ++ (name.data.toList ++ ([58, 32] ++ (t1 ++ ([32, 97, 110, 100, 32] ++ t2)))))
set_option maxRecDepth 100000 in
set_option maxHeartbeats 1600000 in
theorem errBinop (name : ByteArray) (v1 : Value) (t1 : List UInt8) (v2 : Value) (t2 : List UInt8) (hn : name.size ≤ 140737488351232) (hl1 : t1.length ≤ 100) (hl2 : t2.length ≤ 100)
    (hc1 : ∀ w, Tabs w → Calls Tryz.prog 23 #[v1] w (Says w t1))
    (hc2 : ∀ w, Tabs w → Calls Tryz.prog 23 #[v2] w (Says w t2))
    (w : World) (hT : Tabs w) (b : Nat) (hb : b < w.heap.size) (c0 : w.cell? ⟨b, 0, none⟩ = some (.string name)) (c1 : w.cell? ⟨b, 1, none⟩ = some v1) (c2 : w.cell? ⟨b, 2, none⟩ = some v2) :
    Calls Tryz.prog 22 #[.pointer (some ⟨b, 0, none⟩)] w (Says w (txtBinop name t1 t2)) := by
  have z2 : ¬ 9223372036854775807 < 7 + name.size := by omega
  have z3 : ¬ 9223372036854775807 < 7 + name.size + 2 := by omega
  have z4 : ¬ 9223372036854775807 < 7 + name.size + 2 + t1.length := by omega
  have z5 : ¬ 9223372036854775807 < 7 + name.size + 2 + t1.length + 5 := by omega
  have z6 : ¬ 9223372036854775807 < 7 + name.size + 2 + t1.length + 5 + t2.length := by omega
  have H1 := Lib.hid (says_from hc1 hT)
  have H2 := Lib.hid (says_from hc2 hT)
  clear hc1 hc2 hT
  go_enter Tryz.func22, Tryz.ntmps22
  go_wp2_with fail
  go_region_held3 (fun w' => w'.cell? ⟨b, 0, none⟩ = some (.string name) ∧ w'.cell? ⟨b, 1, none⟩ = some v1 ∧ w'.cell? ⟨b, 2, none⟩ = some v2 ∧ Below w.heap.size w w') (first | exact keepBinop hb c0 c1 c2 (Below.refl _ _).drew | exact keepBinop hb c0 c1 c2 (by assumption)) (first
    | (go_at_call_of 23 v1; refine (H1.out _ ?_).mono ?_; go_grown; rintro e w1 ⟨rfl, hb1⟩)
    | (go_at_call_of 23 v2; refine (H2.out _ ?_).mono ?_; go_grown; rintro e w2 ⟨rfl, hb2⟩))
  all_goals (go_wp2_with fail)
  all_goals (go_ret; refine ⟨says_str ?_, by go_grown⟩; simp [txtBinop])
end Go.Proofs.YtmhgefehklakmaaGreatFmt
