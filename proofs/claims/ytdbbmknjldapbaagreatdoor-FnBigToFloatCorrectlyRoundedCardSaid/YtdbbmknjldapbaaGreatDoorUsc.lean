/-
  The scaled product of a left-justified number and a left-justified power of ten, rounded: the rung of the number that it stands for. No program in this text.
-/
import Derived.Test.YtdbbmknjldapbaaGreatDoorBigF
namespace Go.Proofs.YtdbbmknjldapbaaGreatDoor
set_option linter.unusedVariables false
set_option linter.unusedSimpArgs false
open Ieee

theorem nev_scale (n d k : Nat) : nev (n * 2 ^ k) (d + k) = nev n d := by
  have hk := Nat.two_pow_pos k
  unfold nev
  rw [Nat.pow_add, Nat.mul_div_mul_right _ _ hk, Nat.mul_mod_mul_right]
  have e1 : 2 ^ d * 2 ^ k < 2 * (n % 2 ^ d * 2 ^ k) ↔ 2 ^ d < 2 * (n % 2 ^ d) := by
    rw [← Nat.mul_assoc]
    exact Nat.mul_lt_mul_right hk
  have e2 : 2 * (n % 2 ^ d * 2 ^ k) = 2 ^ d * 2 ^ k ↔ 2 * (n % 2 ^ d) = 2 ^ d := by
    rw [← Nat.mul_assoc]
    exact ⟨fun h => Nat.eq_of_mul_eq_mul_right hk h, fun h => by rw [h]⟩
  simp only [e1, e2]
/-- The product without its low 72 bits; its last bit tells of them. -/
def usc (P : Nat) : Nat := if P % 4722366482869645213696 = 0 then P / 4722366482869645213696 else P / 4722366482869645213696 / 2 * 2 + 1
/-- .. halved once more. -/
def half (u : Nat) : Nat := if u % 2 = 0 then u / 2 else u / 2 / 2 * 2 + 1
def rnd (u : Nat) : Nat := (u + 1 + u / 4 % 2) / 4
theorem rnd_usc (P : Nat) : rnd (usc P) = nev P 74 := by
  unfold rnd usc nev
  simp only [show (2 : Nat) ^ 74 = 18889465931478580854784 from rfl]
  split <;> split <;> omega
theorem rnd_half (P : Nat) : rnd (half (usc P)) = nev P 75 := by
  unfold rnd half usc nev
  simp only [show (2 : Nat) ^ 75 = 37778931862957161709568 from rfl]
  by_cases h : P % 4722366482869645213696 = 0
  · rw [if_pos h]
    split <;> split <;> omega
  · rw [if_neg h]
    split <;> split <;> omega
/-- Which of the two roundings is taken: it comes to the same. -/
theorem usc_rung (P B : Nat) (h0 : 85070591730234615865843651857942052864 ≤ P) (h1 : P < 340282366920938463463374607431768211456) :
    (if 36028797018963966 ≤ usc P then (1022 + B) * 4503599627370496 + nev P 75 else (1021 + B) * 4503599627370496 + nev P 74) =
    (if P < 170141183460469231731687303715884105728 then (1021 + B) * 4503599627370496 + nev P 74 else (1022 + B) * 4503599627370496 + nev P 75) := by
  by_cases hP : P < 170141183460469231731687303715884105728
  · rw [if_pos hP]
    by_cases hu : 36028797018963966 ≤ usc P
    · rw [if_pos hu]
      have hlt : usc P < 36028797018963968 := by
        unfold usc
        split <;> omega
      have e1 : nev P 74 = 9007199254740992 := by
        rw [← rnd_usc]
        generalize usc P = u at hu hlt
        unfold rnd
        omega
      have e2 : nev P 75 = 4503599627370496 := by
        rw [← rnd_half]
        generalize usc P = u at hu hlt
        unfold rnd half
        split <;> omega
      omega
    · rw [if_neg hu]
  · rw [if_neg hP, if_pos]
    unfold usc
    split <;> omega
/-- The number n that P stands for: its rung. -/
theorem rung_of_product (n P B : Nat) (hB0 : 53 ≤ B) (hB1 : B ≤ 1000) (h0 : 85070591730234615865843651857942052864 ≤ P) (h1 : P < 340282366920938463463374607431768211456) (hn : n * 2 ^ 127 = P * 2 ^ B) :
    rung n = if 36028797018963966 ≤ usc P then (1022 + B) * 4503599627370496 + rnd (half (usc P)) else (1021 + B) * 4503599627370496 + rnd (usc P) := by
  rw [rnd_half, rnd_usc, usc_rung P B h0 h1]
  have p127 := Nat.two_pow_pos 127
  have scale : ∀ d, 1 ≤ d → d ≤ 75 → B + d ≥ 127 → nev n (B + d - 127) = nev P d := fun d hd hd2 hd3 => by
    have a := nev_scale n (B + d - 127) 127
    have b := nev_scale P d B
    rw [← a, ← b, hn, show B + d - 127 + 127 = d + B by omega]
  by_cases hP : P < 170141183460469231731687303715884105728
  · rw [if_pos hP]
    have n0 : 2 ^ (B - 1) ≤ n := by
      have : 2 ^ (B - 1) * 2 ^ 127 ≤ n * 2 ^ 127 := by
        rw [hn, ← Nat.pow_add, show B - 1 + 127 = 126 + B by omega, Nat.pow_add]
        exact Nat.mul_le_mul_right _ h0
      exact Nat.le_of_mul_le_mul_right this p127
    have n1 : n < 2 ^ (B - 1 + 1) := by
      have : n * 2 ^ 127 < 2 ^ (B - 1 + 1) * 2 ^ 127 := by
        rw [hn, ← Nat.pow_add, show B - 1 + 1 + 127 = 127 + B by omega, Nat.pow_add]
        exact (Nat.mul_lt_mul_right (Nat.two_pow_pos B)).2 hP
      exact Nat.lt_of_mul_lt_mul_right this
    rw [rung_big n (B - 1) n0 n1 (by omega), show B - 1 - 52 = B + 74 - 127 by omega, scale 74 (by omega) (by omega) (by omega)]
    have := nev_bounds n (B - 1) n0 n1 (by omega)
    rw [show B - 1 - 52 = B + 74 - 127 by omega, scale 74 (by omega) (by omega) (by omega)] at this
    omega
  · rw [if_neg hP]
    have n0 : 2 ^ B ≤ n := by
      have : 2 ^ B * 2 ^ 127 ≤ n * 2 ^ 127 := by
        rw [hn, Nat.mul_comm (2 ^ B)]
        exact Nat.mul_le_mul_right _ (by omega)
      exact Nat.le_of_mul_le_mul_right this p127
    have n1 : n < 2 ^ (B + 1) := by
      have : n * 2 ^ 127 < 2 ^ (B + 1) * 2 ^ 127 := by
        rw [hn, ← Nat.pow_add, show B + 1 + 127 = 128 + B by omega, Nat.pow_add]
        exact (Nat.mul_lt_mul_right (Nat.two_pow_pos B)).2 h1
      exact Nat.lt_of_mul_lt_mul_right this
    rw [rung_big n B n0 n1 (by omega), show B - 52 = B + 75 - 127 by omega, scale 75 (by omega) (by omega) (by omega)]
    have := nev_bounds n B n0 n1 (by omega)
    rw [show B - 52 = B + 75 - 127 by omega, scale 75 (by omega) (by omega) (by omega)] at this
    omega
end Go.Proofs.YtdbbmknjldapbaaGreatDoor
