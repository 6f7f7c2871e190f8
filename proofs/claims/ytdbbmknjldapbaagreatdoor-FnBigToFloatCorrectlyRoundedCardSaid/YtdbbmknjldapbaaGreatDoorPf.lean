/-
  Whole numbers of 53 to 64 bits as float64: the nearest word by the left-justified number. No program in this text.
-/
import Derived.Test.YtdbbmknjldapbaaGreatDoorFlo
namespace Go.Proofs.YtdbbmknjldapbaaGreatDoor
set_option linter.unusedVariables false
set_option linter.unusedSimpArgs false
open Ieee

/-- What is kept of the left-justified x: its first 53 bits, rounded to the nearest, between two to the even one. -/
def keptOf (x : Nat) : Nat := x / 2048 + if 1024 < x % 2048 ∨ (x % 2048 = 1024 ∧ x / 2048 % 2 = 1) then 1 else 0
theorem cut_just (s : Bool) (d j : Nat) (hj : j ≤ 11) (hd : 2 ^ (63 - j) ≤ d) : Toward.even.cut s d (11 - j) = keptOf (d * 2 ^ j) := by
  have hd0 : d ≠ 0 := by have := Nat.two_pow_pos (63 - j); omega
  have hlog : 63 - j ≤ d.log2 := (Nat.le_log2 hd0).2 hd
  have hmin : min (11 - j) (d.log2 + 2) = 11 - j := by omega
  unfold Toward.cut keptOf
  simp only [hmin, Nat.shiftLeft_eq, Nat.one_mul]
  have hcase : j = 0 ∨ j = 1 ∨ j = 2 ∨ j = 3 ∨ j = 4 ∨ j = 5 ∨ j = 6 ∨ j = 7 ∨ j = 8 ∨ j = 9 ∨ j = 10 ∨ j = 11 := by omega
  clear hmin hlog hd hj
  have bt : ∀ b : Bool, b.toNat = if b = true then 1 else 0 := by decide
  rw [bt]
  simp only [Bool.or_eq_true, Bool.and_eq_true, decide_eq_true_eq, beq_iff_eq]
  rcases hcase with rfl | rfl | rfl | rfl | rfl | rfl | rfl | rfl | rfl | rfl | rfl | rfl
  all_goals
    simp only [Nat.reduceSub, Nat.reducePow, Nat.pow_zero, Nat.mul_one]
    split <;> split <;> omega
theorem nearest_just (s : Bool) (d j : Nat) (hj : j ≤ 11) (hd : 2 ^ (63 - j) ≤ d) (hu : d < 2 ^ (64 - j)) :
    double.nearest s d 0 = double.word s ((1085 - j) * 4503599627370496 + keptOf (d * 2 ^ j)) := by
  have hd0 : d ≠ 0 := by have := Nat.two_pow_pos (63 - j); omega
  have hlog : d.log2 = 63 - j := (Nat.log2_eq_iff hd0).2 ⟨hd, by rw [show 63 - j + 1 = 64 - j by omega]; exact hu⟩
  have hlast : max (0 + ((63 - j : Nat) : Int) - (double.fractionBits : Int)) double.leastPlace = ((11 - j : Nat) : Int) := by
    rw [dbl_least, show ((double.fractionBits : Nat) : Int) = 52 from rfl]
    omega
  have hx : d * 2 ^ j < 18446744073709551616 := by
    have := (Nat.mul_lt_mul_right (Nat.two_pow_pos j)).2 hu
    rw [← Nat.pow_add, show 64 - j + j = 64 by omega] at this
    exact this
  have hk : keptOf (d * 2 ^ j) ≤ 9007199254740992 := by
    unfold keptOf
    split <;> omega
  unfold Format.nearest
  rw [if_neg hd0]
  simp only [hlog, hlast]
  rw [show (0 - ((11 - j : Nat) : Int)).toNat = 0 by omega, Nat.shiftLeft_zero, show (((11 - j : Nat) : Int) - 0).toNat = 11 - j by omega, cut_just s d j hj hd, dbl_least, dbl_binade, dbl_inf, show (((11 - j : Nat) : Int) - -1074).toNat = 1085 - j by omega, Nat.min_eq_left (by omega)]
end Go.Proofs.YtdbbmknjldapbaaGreatDoor
