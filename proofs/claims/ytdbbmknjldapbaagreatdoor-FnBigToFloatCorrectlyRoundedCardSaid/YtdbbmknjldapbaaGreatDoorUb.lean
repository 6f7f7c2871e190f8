/-
  The bits of a float64 that the library's packer puts together; the length of a number in bits. No program in this text.
-/
import Derived.Test.YtdbbmknjldapbaaGreatDoorUsc
import Derived.Laws.BitsAllLaws
import Derived.Lib.BitFns
namespace Go.Proofs.YtdbbmknjldapbaaGreatDoor
set_option linter.unusedVariables false
set_option linter.unusedSimpArgs false
open Go Ieee

theorem blen_of (d b : Nat) (hb0 : 1 ≤ b) (hb : b ≤ 64) (h0 : 2 ^ (b - 1) ≤ d) (h1 : d < 2 ^ b) : Lib.bitLen d = b := by
  have hp := Nat.two_pow_pos (b - 1)
  have hq : d / 2 ^ (b - 1) = 1 := by
    have e : 2 ^ b = 2 ^ (b - 1) * 2 := by
      have := pow_split (b - 1) b (by omega)
      rwa [show b - (b - 1) = 1 by omega] at this
    have a1 : 1 ≤ d / 2 ^ (b - 1) := (Nat.le_div_iff_mul_le hp).2 (by omega)
    have a2 : d / 2 ^ (b - 1) < 2 := (Nat.div_lt_iff_lt_mul hp).2 (by omega)
    omega
  have h64 : d < 2 ^ 64 := Nat.lt_of_lt_of_le h1 (Nat.pow_le_pow_right (by omega) hb)
  have e1 : Lib.bitLen 1 = 1 := by decide
  rw [Lib.bitLen_shift (b - 1) d h0 h64, hq, e1]
  omega
theorem or_one (x : Nat) (hx : x < 18446744073709551616) : bits .or .u64 (x : Int) 1 = ((x / 2 * 2 + 1 : Nat) : Int) := by
  have h := u64_or_nat x 1 hx (by omega)
  have e : x ||| 1 = x / 2 * 2 + 1 := by
    rcases (by omega : x % 2 = 0 ∨ x % 2 = 1) with h2 | h2
    · rw [nat_join 1 x 1 (by rw [Nat.pow_one]; exact h2) (by decide)]
      omega
    · have a := nat_join 1 (x / 2 * 2) 1 (by rw [Nat.pow_one]; omega) (by decide)
      rw [show x = x / 2 * 2 + 1 by omega, ← a, Nat.or_assoc, Nat.or_self]
      omega
  rw [e] at h
  exact h
theorem or_zero (x : Nat) (hx : x < 18446744073709551616) : bits .or .u64 (x : Int) 0 = (x : Int) := by
  have h := u64_or_nat x 0 hx (by omega)
  rw [Nat.or_zero] at h
  exact h
theorem and_one (x : Nat) (hx : x < 18446744073709551616) : bits .and .u64 (x : Int) 1 = ((x % 2 : Nat) : Int) := by
  have h := u64_and_nat x 1 hx (by omega)
  rw [nat_mask1] at h
  exact h
theorem half_or (u : Nat) (hu : u < 18446744073709551616) : bits .or .u64 ((u / 2 : Nat) : Int) ((u % 2 : Nat) : Int) = ((half u : Nat) : Int) := by
  unfold half
  rcases (by omega : u % 2 = 0 ∨ u % 2 = 1) with h | h
  · rw [h, if_pos rfl]
    exact or_zero (u / 2) (by omega)
  · rw [h, if_neg (by omega)]
    exact or_one (u / 2) (by omega)
theorem same_or (u : Nat) (hu : u < 18446744073709551616) : bits .or .u64 (u : Int) ((u % 2 : Nat) : Int) = (u : Int) := by
  rcases (by omega : u % 2 = 0 ∨ u % 2 = 1) with h | h
  · rw [h]
    exact or_zero u hu
  · rw [h]
    have := or_one u hu
    rw [show u / 2 * 2 + 1 = u by omega] at this
    exact this
theorem sign_or (sg m : Nat) (hs : sg = 0 ∨ sg = 9223372036854775808) (hm : m < 9223372036854775808) : bits .or .u64 (sg : Int) (m : Int) = ((sg + m : Nat) : Int) := by
  have h := u64_or_nat sg m (by omega) (by omega)
  rw [nat_join 63 sg m (by show sg % 9223372036854775808 = 0; omega) hm] at h
  exact h
/-- What is rounded has 53 bits. -/
theorem rnd_bounds (P : Nat) (h0 : 85070591730234615865843651857942052864 ≤ P) (hP : P < 340282366920938444573908675953187356672) :
    (36028797018963966 ≤ usc P → 4503599627370496 ≤ rnd (half (usc P)) ∧ rnd (half (usc P)) < 9007199254740992) ∧ (¬ 36028797018963966 ≤ usc P → 4503599627370496 ≤ rnd (usc P) ∧ rnd (usc P) < 9007199254740992) ∧ usc P < 72057594037927936 := by
  have a1 : 18014398509481984 ≤ usc P := by unfold usc; split <;> omega
  have a2 : usc P < 72057594037927932 := by unfold usc; split <;> omega
  generalize usc P = u at *
  clear h0 hP
  refine ⟨fun h => ?_, fun h => ?_, by omega⟩
  · unfold rnd half
    split <;> omega
  · unfold rnd
    omega
theorem sg_cases {sg : Nat} (h : sg = 0 ∨ sg = 9223372036854775808) : sg % 9223372036854775808 = 0 ∧ sg ≤ 9223372036854775808 := by omega
theorem pk_bit (sg m : Nat) (hs : sg = 0 ∨ sg = 9223372036854775808) (h0 : 4503599627370496 ≤ m) (h1 : m < 9007199254740992) :
    bits .and .u64 ((sg + m : Nat) : Int) 4503599627370496 = 4503599627370496 := by
  have h := u64_and_nat (sg + m) 4503599627370496 (by omega) (by omega)
  have e : (sg + m) &&& 4503599627370496 = 4503599627370496 := by
    have := nat_bit 52 (sg + m)
    rw [show (2 : Nat) ^ 52 = 4503599627370496 from rfl] at this
    rw [this]
    omega
  rw [e] at h
  exact h
theorem pk_off (sg m : Nat) (hs : sg = 0 ∨ sg = 9223372036854775808) (h0 : 4503599627370496 ≤ m) (h1 : m < 9007199254740992) :
    bits .andNot .u64 ((sg + m : Nat) : Int) 4503599627370496 = ((sg + m - 4503599627370496 : Nat) : Int) := by
  have h := u64_andNot_nat (sg + m) 4503599627370496 (by omega) (by omega)
  have e : (sg + m) &&& (18446744073709551615 - 4503599627370496) = sg + m - 4503599627370496 := by
    have hx : sg + m = (sg + 4503599627370496) + (m - 4503599627370496) := by omega
    have hj : (sg + m - 4503599627370496) ||| 4503599627370496 = sg + m := by
      have a := nat_join 52 4503599627370496 (m - 4503599627370496) (by decide) (by show _ < 4503599627370496; omega)
      have b := nat_join 53 sg (4503599627370496 + (m - 4503599627370496)) (by show sg % 9007199254740992 = 0; omega) (by show _ < 9007199254740992; omega)
      have c := nat_join 53 sg (m - 4503599627370496) (by show sg % 9007199254740992 = 0; omega) (by show _ < 9007199254740992; omega)
      rw [show sg + m - 4503599627370496 = sg + (m - 4503599627370496) by omega, ← c, Nat.or_assoc, Nat.or_comm (m - 4503599627370496), a, b]
      omega
    apply Nat.eq_of_testBit_eq
    intro i
    have hb : (sg + m - 4503599627370496).testBit 52 = false := by
      rw [Nat.testBit_eq_decide_div_mod_eq]
      rw [decide_eq_false]
      rw [show (2 : Nat) ^ 52 = 4503599627370496 from rfl]
      omega
    have hm : (18446744073709551615 - 4503599627370496 : Nat).testBit i = (decide (i < 64) && !decide (i = 52)) := by
      by_cases h64 : i < 64
      · have hd : ∀ j : Fin 64, (18446744073709551615 - 4503599627370496 : Nat).testBit j.val = !decide (j.val = 52) := by decide
        rw [hd ⟨i, h64⟩]
        simp [h64]
      · rw [Nat.testBit_lt_two_pow (Nat.lt_of_lt_of_le (show (18446744073709551615 - 4503599627370496 : Nat) < 2 ^ 64 by decide) (Nat.pow_le_pow_right (by omega) (by omega)))]
        simp [h64]
    have hy : sg + m - 4503599627370496 < 2 ^ 64 := by show _ < 18446744073709551616; omega
    obtain ⟨Y, hY⟩ : ∃ Y, Y = sg + m - 4503599627370496 := ⟨_, rfl⟩
    rw [← hY] at hb hj hy ⊢
    have ht : (4503599627370496 : Nat).testBit i = decide (52 = i) := by rw [show (4503599627370496 : Nat) = 2 ^ 52 by decide, Nat.testBit_two_pow]
    rw [Nat.testBit_and, hm, ← hj, Nat.testBit_or, ht]
    by_cases hi : i = 52
    · rw [hi, hb, decide_eq_true (rfl : 52 = 52)]
      rfl
    · have hi2 : ¬ 52 = i := fun h => hi h.symm
      by_cases h64 : i < 64
      · simp [hi, hi2, h64]
      · have : Y.testBit i = false := Nat.testBit_lt_two_pow (Nat.lt_of_lt_of_le hy (Nat.pow_le_pow_right (by omega) (by omega)))
        simp [hi, hi2, h64, this]
  rw [e] at h
  exact h
theorem pk_or (sg f E : Nat) (hs : sg = 0 ∨ sg = 9223372036854775808) (hf : f < 4503599627370496) (hE : E < 2048) :
    bits .or .u64 ((sg + f : Nat) : Int) ((E * 4503599627370496 : Nat) : Int) = ((sg + E * 4503599627370496 + f : Nat) : Int) := by
  have h := u64_or_nat (sg + f) (E * 4503599627370496) (by omega) (by omega)
  have a := nat_join 52 (E * 4503599627370496) f (by show E * 4503599627370496 % 4503599627370496 = 0; omega) hf
  have b := nat_join 63 sg (E * 4503599627370496 + f) (by show sg % 9223372036854775808 = 0; omega) (by show _ < 9223372036854775808; omega)
  have c := nat_join 63 sg f (by show sg % 9223372036854775808 = 0; omega) (by show f < 9223372036854775808; omega)
  rw [← c, Nat.or_assoc, Nat.or_comm f, a, b] at h
  rw [show sg + E * 4503599627370496 + f = sg + (E * 4503599627370496 + f) by omega, ← h, c]
end Go.Proofs.YtdbbmknjldapbaaGreatDoor
