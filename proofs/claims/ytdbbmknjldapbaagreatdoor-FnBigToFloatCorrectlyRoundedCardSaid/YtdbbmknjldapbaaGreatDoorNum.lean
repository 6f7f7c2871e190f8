/-
  Decimal numerals laid digit by digit from the last one on. No program in this text.
-/
import Derived.Lib.ItoaNum
namespace Go.Proofs.YtdbbmknjldapbaaGreatDoor
set_option linter.unusedVariables false
set_option linter.unusedSimpArgs false

/-- What of the numeral is still to be laid ahead of what has been laid. -/
def numLeft (u : Nat) : List UInt8 := if u = 0 then [] else Lib.decDigits u
theorem numLeft_zero : numLeft 0 = [] := rfl
theorem numLeft_pos {u : Nat} (h : u ≠ 0) : numLeft u = Lib.decDigits u := if_neg h
theorem numLeft_step {u : Nat} (h : u ≠ 0) : numLeft u = numLeft (u / 10) ++ [UInt8.ofNat (48 + u % 10)] := by
  rw [numLeft_pos h]
  by_cases h10 : u < 10
  · rw [Lib.decDigits, dif_pos h10, show u / 10 = 0 by omega, numLeft_zero, show u % 10 = u by omega]
    rfl
  · rw [numLeft_pos (by omega), Lib.decDigits, dif_neg h10]
theorem decDigits_length_le (u : Nat) (h : u < 18446744073709551616) : (Lib.decDigits u).length ≤ 20 := by
  rw [Lib.decDigits_length]
  by_cases h0 : u = 0
  · subst h0; rw [Lib.nDigits_small (by omega)]; omega
  · have := Lib.numDigits_eq u (by omega) h
    split at this <;> omega
theorem decDigits_pos (u : Nat) : 1 ≤ (Lib.decDigits u).length := by rw [Lib.decDigits_length]; exact Lib.nDigits_pos u
theorem numLeft_length (u : Nat) (h : u ≠ 0) : 1 ≤ (numLeft u).length := by rw [numLeft_pos h]; exact decDigits_pos u
theorem itoa_length_le (n : Int) (h0 : -9223372036854775808 ≤ n) (h1 : n ≤ 9223372036854775807) : (Lib.itoa n).length ≤ 21 := by
  unfold Lib.itoa
  split
  · have := decDigits_length_le n.natAbs (by omega)
    simp; omega
  · have := decDigits_length_le n.toNat (by omega)
    omega
/-- Every byte of a numeral is a digit. -/
theorem decDigits_digit (u : Nat) : ∀ b ∈ Lib.decDigits u, 48 ≤ b.toNat ∧ b.toNat ≤ 57 := by
  induction u using Nat.strongRecOn with
  | _ u ih =>
    intro b hb
    rw [Lib.decDigits] at hb
    split at hb
    · simp only [List.mem_singleton] at hb
      subst hb
      rw [UInt8.toNat_ofNat']
      omega
    · simp only [List.mem_append, List.mem_singleton] at hb
      rcases hb with hb | rfl
      · exact ih (u / 10) (by omega) b hb
      · rw [UInt8.toNat_ofNat']
        omega
theorem itoa_ascii (n : Int) : ∀ b ∈ Lib.itoa n, b.toNat < 128 := by
  intro b hb
  unfold Lib.itoa at hb
  split at hb
  · simp only [List.mem_cons] at hb
    rcases hb with rfl | hb
    · decide
    · have := decDigits_digit _ b hb; omega
  · have := decDigits_digit _ b hb; omega
end Go.Proofs.YtdbbmknjldapbaaGreatDoor
