/-
  The nearest float of a number and of its negative. No program in this text.
-/
import Derived.Test.YtdbbmknjldapbaaGreatDoorPf
import Derived.Laws.Cover2
namespace Go.Proofs.YtdbbmknjldapbaaGreatDoor
set_option linter.unusedVariables false
set_option linter.unusedSimpArgs false
open Go Ieee

theorem xor_top (r : Nat) (h : r < 2 ^ 63) : r ^^^ 2 ^ 63 = 2 ^ 63 + r := by
  apply Nat.eq_of_testBit_eq
  intro i
  rw [Nat.testBit_xor, Nat.testBit_two_pow]
  rcases Nat.lt_trichotomy i 63 with hi | hi | hi
  · rw [Nat.testBit_two_pow_add_gt hi, decide_eq_false (by omega)]
    simp
  · subst hi
    rw [Nat.testBit_two_pow_add_eq, Nat.testBit_lt_two_pow h]
    simp
  · rw [Nat.testBit_lt_two_pow (Nat.lt_of_lt_of_le h (Nat.pow_le_pow_right (by omega) (by omega))), decide_eq_false (by omega)]
    have h2 : 2 ^ 63 + r < 2 ^ i := Nat.lt_of_lt_of_le (show 2 ^ 63 + r < 2 ^ 64 by omega) (Nat.pow_le_pow_right (by omega) (by omega))
    rw [Nat.testBit_lt_two_pow h2]
    rfl
theorem neg_word (r : Nat) (h : r < 2 ^ 63) : Go.Op.negFloat .f64 (double.word false r) = double.word true r := by
  have e0 : double.word false r = r := by unfold Format.word; simp
  have e1 : double.word true r = 2 ^ 63 + r := by unfold Format.word; rfl
  rw [e0, e1]
  exact xor_top r h
theorem neg_nearest (d : Nat) (hd : 0 < d) : Go.Op.negFloat .f64 (floatOfInt .f64 (d : Int)) = floatOfInt .f64 (-(d : Int)) := by
  have e0 : floatOfInt .f64 (d : Int) = double.nearest false d 0 := by
    show double.nearest (decide ((d : Int) < 0)) (d : Int).natAbs 0 = _
    rw [decide_eq_false (by omega), Int.natAbs_natCast]
  have e1 : floatOfInt .f64 (-(d : Int)) = double.nearest true d 0 := by
    show double.nearest (decide (-(d : Int) < 0)) (-(d : Int)).natAbs 0 = _
    rw [decide_eq_true (by omega), Int.natAbs_neg, Int.natAbs_natCast]
  rw [e0, e1]
  unfold Format.nearest
  rw [if_neg (by omega), if_neg (by omega)]
  have hc : ∀ n k, Toward.even.cut true n k = Toward.even.cut false n k := fun _ _ => rfl
  simp only [hc]
  exact neg_word _ (Nat.lt_of_le_of_lt (Nat.min_le_right _ _) (by decide))
end Go.Proofs.YtdbbmknjldapbaaGreatDoor
