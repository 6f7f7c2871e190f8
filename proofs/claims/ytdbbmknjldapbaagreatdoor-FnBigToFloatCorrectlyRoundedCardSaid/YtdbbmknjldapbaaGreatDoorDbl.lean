/-
  A float64 doubled. No program in this text.
-/
import Derived.Test.YtdbbmknjldapbaaGreatDoorBigF
namespace Go.Proofs.YtdbbmknjldapbaaGreatDoor
set_option linter.unusedVariables false
set_option linter.unusedSimpArgs false
open Go Ieee

theorem nearest_double (m : Nat) (x : Nat) (h0 : 4503599627370496 ≤ m) (h1 : m < 9007199254740992) (hx : x * 4503599627370496 + m ≤ 9218868437227405312) :
    double.nearest false (m * 4503599627370496) ((-1074 + ((x : Int) - 1)) + -51) = x * 4503599627370496 + m ∨ x = 0 := by
  rcases Nat.eq_zero_or_pos x with hx0 | hx0
  · exact Or.inr hx0
  refine Or.inl ?_
  have hm : m * 4503599627370496 ≠ 0 := by omega
  have hlog : (m * 4503599627370496).log2 = 104 := (Nat.log2_eq_iff hm).2 ⟨by show 20282409603651670423947251286016 ≤ _; omega, by show _ < 40564819207303340847894502572032; omega⟩
  have hlast : max ((-1074 + ((x : Int) - 1)) + -51 + ((104 : Nat) : Int) - (double.fractionBits : Int)) double.leastPlace = -1074 + (x : Int) := by
    rw [dbl_least, show ((double.fractionBits : Nat) : Int) = 52 from rfl]
    omega
  have hkept : Toward.even.cut false (m * 4503599627370496) 52 = m := by
    have := cut_exact false m 52 (by omega)
    rwa [show (2 : Nat) ^ 52 = 4503599627370496 from rfl] at this
  unfold Format.nearest
  rw [if_neg hm]
  simp only [hlog, hlast]
  rw [show ((-1074 + ((x : Int) - 1)) + -51 - (-1074 + (x : Int))).toNat = 0 by omega, show (-1074 + (x : Int) - ((-1074 + ((x : Int) - 1)) + -51)).toNat = 52 by omega, Nat.shiftLeft_zero, hkept, dbl_least, dbl_binade, dbl_inf, show (-1074 + (x : Int) - -1074).toNat = x by omega, word_false, Nat.min_eq_left hx]
theorem double_word (r : Nat) (h1 : 4503599627370496 ≤ r) (h2 : r + 4503599627370496 ≤ 9218868437227405312) : floatBits .mul .f64 r 4611686018427387904 = some (r + 4503599627370496) := by
  have ra := read_word false r h1 (by omega)
  have rb := read_word false 4611686018427387904 (by decide) (by decide)
  rw [word_false] at ra rb
  show ((double.read r).product (double.read 4611686018427387904)).map double.write = _
  rw [ra, rb]
  show some (double.nearest false ((4503599627370496 + r % 4503599627370496) * 4503599627370496) ((-1074 + ((r / 4503599627370496 - 1 : Nat) : Int)) + (-1074 + ((1023 : Nat) : Int)))) = _
  rcases nearest_double (4503599627370496 + r % 4503599627370496) (r / 4503599627370496) (by omega) (by omega) (by omega) with h | h
  · rw [show (-1074 + ((r / 4503599627370496 - 1 : Nat) : Int)) + (-1074 + ((1023 : Nat) : Int)) = (-1074 + (((r / 4503599627370496 : Nat) : Int) - 1)) + -51 by omega, h]
    congr 1
    omega
  · omega
end Go.Proofs.YtdbbmknjldapbaaGreatDoor
