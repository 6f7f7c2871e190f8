/-
  funcOpMul at two ints whose product is no int, walked.
-/
import Derived.Test.YtffiamchcadloaaGreatDoorBigM
import Derived.Test.YtffiamchcadloaaGreatDoorAddB
import Derived.Test.YtffiamchcadloaaGreatDoorMulI
namespace Go.Proofs.YtffiamchcadloaaGreatDoor
set_option linter.unusedVariables false
set_option linter.unusedSimpArgs false
open Go.RowKit Go.Lib

/-- The quotient of an int by one that is not -1 is an int. -/
theorem quo_in (V r : Int) (h0 : -9223372036854775808 ≤ V) (h1 : V ≤ 9223372036854775807) (hr : r ≠ -1) (hz : r ≠ 0) : wrap64 (V.tdiv r) = V.tdiv r := by
  have h3 := Int.natAbs_tdiv_le_natAbs V r
  have hm := Int.tmod_add_mul_tdiv V r
  have h2 : (V.tmod r).natAbs < r.natAbs := by
    rw [Int.natAbs_tmod]
    exact Nat.mod_lt _ (by omega)
  by_cases hq : V.tdiv r = 9223372036854775808
  · rw [hq] at hm
    omega
  · unfold wrap64
    omega
theorem back_not (l r : Int) (hl : l ≠ 0) (hr : (r == -1) = false) (hz : r ≠ 0) (hr0 : -9223372036854775808 ≤ r) (hr1 : r ≤ 9223372036854775807) (ho : l * r < -9223372036854775808 ∨ 9223372036854775807 < l * r) : (wrap64 ((wrap64 (l * r)).tdiv r) == l) = false := by
  rw [beq_eq_false_iff_ne] at hr ⊢
  intro h
  have h4 : -9223372036854775808 ≤ wrap64 (l * r) ∧ wrap64 (l * r) ≤ 9223372036854775807 := by unfold wrap64; omega
  rw [quo_in _ _ h4.1 h4.2 hr hz] at h
  have h3 := mul_back l r (wrap64 (l * r)) hz hr0 hr1 (by rw [IntKind.wrap_i64]; unfold wrap64; rfl) h
  rw [h3] at h4
  omega
theorem sign_mul (l r : Int) (hl : l ≠ 0) (hr : r ≠ 0) : (decide (l < 0) != decide (r < 0)) = decide (l * r < 0) := by
  rcases Int.lt_or_lt_of_ne hl with a | a <;> rcases Int.lt_or_lt_of_ne hr with b | b
  · rw [decide_eq_true a, decide_eq_true b, decide_eq_false (by have := Int.mul_pos_of_neg_of_neg a b; omega)]; rfl
  · rw [decide_eq_true a, decide_eq_false (by omega), decide_eq_true (Int.mul_neg_of_neg_of_pos a b)]; rfl
  · rw [decide_eq_false (by omega), decide_eq_true b, decide_eq_true (Int.mul_neg_of_pos_of_neg a b)]; rfl
  · rw [decide_eq_false (by omega), decide_eq_false (by omega), decide_eq_false (by have := Int.mul_pos a b; omega)]; rfl
set_option maxRecDepth 100000 in
set_option maxHeartbeats 1600000 in
theorem mulc_big (l r : Int) (hl0 : -9223372036854775808 ≤ l) (hl1 : l ≤ 9223372036854775807) (hr0 : -9223372036854775808 ≤ r) (hr1 : r ≤ 9223372036854775807) (hr : (r == -1) = false) (ho : l * r < -9223372036854775808 ∨ 9223372036854775807 < l * r) (w : World) :
    Calls Tryz.prog 40 #[.int .i64 l, .int .i64 r] w fun e w' => (∃ b, e = .returned (.iface 49 (.pointer (some ⟨b, 0, none⟩))) ∧ BigAt w' b (decide (l * r < 0)) (l * r).natAbs) ∧ Below w.heap.size w w' := by
  have hl : l ≠ 0 := by rintro rfl; omega
  have hz : ¬ r = 0 := by rintro rfl; omega
  have e0 := beq_eq_false_iff_ne.2 hz
  have hq := back_not l r hl hr hz hr0 hr1 ho
  have hP : l * r ≠ 0 := by omega
  have HN0 := Lib.hid (show l.natAbs * r.natAbs ≠ 0 by rw [← Int.natAbs_mul]; omega)
  rw [← sign_mul l r hl hz, Int.natAbs_mul]
  have HL := Lib.hid (fun w => newInt_any l hl hl0 hl1 w)
  have HR := Lib.hid (fun w => newInt_any r hz hr0 hr1 w)
  have bl := Lib.hid (show l.natAbs < 18446744073709551616 by omega)
  have br := Lib.hid (show r.natAbs < 18446744073709551616 by omega)
  clear ho hP hl hl0 hl1 hr0 hr1
  go_enter Tryz.func40, Tryz.ntmps40
  go_wp2_with fail
  refine (HL.out _).mono ?_
  rintro e w1 ⟨rfl, hX, hs1, hb1⟩
  have HX := Lib.hid hX
  have HS1 := Lib.hid hs1
  have HB1 := Lib.hid hb1
  clear hX hs1 hb1 HL
  go_wp2_with fail
  refine (HR.out _).mono ?_
  rintro e w2 ⟨rfl, hY, hs2, hb2⟩
  have HA := Lib.hid (bigMul_any (w.heap.size + 1) w.heap.size (w1.heap.size + 1) w1.heap.size 1 1 (decide (l < 0)) (decide (r < 0)) l.natAbs r.natAbs bl.out br.out HN0.out (Nat.le_refl _) (by omega) (Nat.le_refl _) (by have := HS1.out; omega) w2 (HX.out.on hb2) hY)
  have HB2 := Lib.hid (HB1.out.trans (below_of hb2 HB1.out.size))
  clear hY hs2 hb2 HR
  go_wp2_with fail
  refine HA.out.mono ?_
  rintro e w3 ⟨rfl, hN, hb3⟩
  have HN := Lib.hid hN
  have HB3 := Lib.hid (HB2.out.trans (hb3.mono (by omega)))
  clear hN hb3 HA
  go_wp2_with fail
  go_ret
  exact ⟨⟨_, rfl, HN.out⟩, HB3.out⟩
end Go.Proofs.YtffiamchcadloaaGreatDoor
