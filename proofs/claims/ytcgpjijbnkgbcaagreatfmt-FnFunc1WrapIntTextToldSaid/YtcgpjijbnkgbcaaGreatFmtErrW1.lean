/-
  The text of one error type, by the contracts of its previews.
-/
import Derived.Test.YtcgpjijbnkgbcaaGreatFmtTep
import Derived.Deep.RegionHeld3
namespace Go.Proofs.YtcgpjijbnkgbcaaGreatFmt
set_option linter.unusedVariables false
set_option linter.unusedSimpArgs false
open Go.RowKit Go.Lib Go.Sort

theorem keepW1 {w w' : World} {b : Nat} {name : ByteArray} {v2 : Value} {v1 : Value} {c : Nat} (hb : b < w.heap.size) (c0 : w.cell? ⟨b, 0, none⟩ = some (.string name)) (c1 : w.cell? ⟨b, 1, none⟩ = some v1) (c2 : w.cell? ⟨b, 2, none⟩ = some v2) (c3 : w.cell? ⟨b, 3, none⟩ = some (.iface 41 (.pointer (some ⟨c, 0, none⟩)))) (h : Below w.heap.size w w') :
    w'.cell? ⟨b, 0, none⟩ = some (.string name) ∧ w'.cell? ⟨b, 1, none⟩ = some v1 ∧ w'.cell? ⟨b, 2, none⟩ = some v2 ∧ w'.cell? ⟨b, 3, none⟩ = some (.iface 41 (.pointer (some ⟨c, 0, none⟩))) ∧ Below w.heap.size w w' :=
  ⟨(h.cell (p := ⟨b, 0, none⟩) hb).trans c0, (h.cell (p := ⟨b, 1, none⟩) hb).trans c1, (h.cell (p := ⟨b, 2, none⟩) hb).trans c2, (h.cell (p := ⟨b, 3, none⟩) hb).trans c3, h⟩
def txtW1 (name : ByteArray) (t2 : List UInt8) (t1 : List UInt8) (te : List UInt8) : List UInt8 := (name.data.toList ++ ([40] ++ (t2 ++ ([41, 32, 99, 97, 110, 110, 111, 116, 32, 98, 101, 32, 97, 112, 112, 108, 105, 101, 100, 32, 116, 111, 32] ++ (t1 ++ ([58, 32] ++ te))))))
set_option maxRecDepth 100000 in
set_option maxHeartbeats 1600000 in
theorem errW1 (name : ByteArray) (v2 : Value) (t2 : List UInt8) (v1 : Value) (t1 : List UInt8) (c : Nat) (te : List UInt8) (hn : name.size ≤ 140737488351232) (hl2 : t2.length ≤ 100) (hl1 : t1.length ≤ 100) (hle : te.length ≤ 281474976710656)
    (hc2 : ∀ w, Tabs w → Calls Tryz.prog 32 #[v2] w (Says w t2))
    (hc1 : ∀ w, Tabs w → Calls Tryz.prog 32 #[v1] w (Says w t1))
    (w : World) (hT : Tabs w) (b : Nat) (hb : b < w.heap.size) (c0 : w.cell? ⟨b, 0, none⟩ = some (.string name)) (c1 : w.cell? ⟨b, 1, none⟩ = some v1) (c2 : w.cell? ⟨b, 2, none⟩ = some v2) (c3 : w.cell? ⟨b, 3, none⟩ = some (.iface 41 (.pointer (some ⟨c, 0, none⟩))))
    (he : ∀ w1, Below w.heap.size w w1 → Calls Tryz.prog 275 #[.pointer (some ⟨c, 0, none⟩)] w1 fun e w' => e = .returned (.string ⟨te.toArray⟩) ∧ Below w.heap.size w w') :
    Calls Tryz.prog 29 #[.pointer (some ⟨b, 0, none⟩)] w (Says w (txtW1 name t2 t1 te)) := by
  have z2 : ¬ 9223372036854775807 < name.size + 1 := by omega
  have z3 : ¬ 9223372036854775807 < name.size + 1 + t2.length := by omega
  have z4 : ¬ 9223372036854775807 < name.size + 1 + t2.length + 23 := by omega
  have z5 : ¬ 9223372036854775807 < name.size + 1 + t2.length + 23 + t1.length := by omega
  have z6 : ¬ 9223372036854775807 < name.size + 1 + t2.length + 23 + t1.length + 2 := by omega
  have z7 : ¬ 9223372036854775807 < name.size + 1 + t2.length + 23 + t1.length + 2 + te.length := by omega
  have H2 := Lib.hid (says_from hc2 hT)
  have H1 := Lib.hid (says_from hc1 hT)
  have HE := Lib.hid he
  clear hc2 hc1 he hT
  go_enter Tryz.func29, Tryz.ntmps29
  go_wp2_with fail
  go_region_held3 (fun w' => w'.cell? ⟨b, 0, none⟩ = some (.string name) ∧ w'.cell? ⟨b, 1, none⟩ = some v1 ∧ w'.cell? ⟨b, 2, none⟩ = some v2 ∧ w'.cell? ⟨b, 3, none⟩ = some (.iface 41 (.pointer (some ⟨c, 0, none⟩))) ∧ Below w.heap.size w w') (first | exact keepW1 hb c0 c1 c2 c3 (Below.refl _ _).drew | exact keepW1 hb c0 c1 c2 c3 (by assumption)) (first
    | (go_at_call_of 32 v2; refine (H2.out _ ?_).mono ?_; go_grown; rintro e w1 ⟨rfl, hb1⟩)
    | (go_at_call_of 32 v1; refine (H1.out _ ?_).mono ?_; go_grown; rintro e w2 ⟨rfl, hb2⟩)
    | (go_at_call 275; refine (HE.out _ ?_).mono ?_; go_grown; rintro e w3 ⟨rfl, hb3⟩))
  all_goals (go_wp2_with fail)
  all_goals (go_ret; refine ⟨says_str ?_, by go_grown⟩; simp [txtW1])
end Go.Proofs.YtcgpjijbnkgbcaaGreatFmt
