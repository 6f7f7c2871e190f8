/-
  The float of an int as its rung; that it equals itself. No program in this text.
-/
import Derived.Test.YtdbbmknjldapbaaGreatDoorUb
namespace Go.Proofs.YtdbbmknjldapbaaGreatDoor
set_option linter.unusedVariables false
set_option linter.unusedSimpArgs false
open Go Ieee

theorem float_nat (u : Nat) : floatOfInt .f64 (u : Int) = rung u := by
  show double.nearest (decide ((u : Int) < 0)) (u : Int).natAbs 0 = _
  rw [decide_eq_false (by omega), Int.natAbs_natCast]
  rfl
theorem float_neg (u : Nat) (h : 0 < u) : floatOfInt .f64 (-(u : Int)) = 9223372036854775808 + rung u := by
  show double.nearest (decide (-(u : Int) < 0)) (-(u : Int)).natAbs 0 = _
  rw [decide_eq_true (by omega), Int.natAbs_neg, Int.natAbs_natCast, nearest_rung]
  unfold Format.word
  rw [if_pos rfl, dbl_sign]
theorem rung_within (u : Nat) (h1 : 1 ≤ u) (h2 : u < 18446744073709551616) : 4503599627370496 ≤ rung u ∧ rung u < 9218868437227405312 := by
  obtain ⟨a, b⟩ := log2_lt u (by omega)
  have hl : u.log2 < 64 := (Nat.log2_lt (by omega)).2 h2
  rcases Nat.lt_or_ge 52 u.log2 with h | h
  · rw [rung_big u u.log2 a b (by omega)]
    obtain ⟨c, d⟩ := nev_bounds u u.log2 a b (by omega)
    omega
  · rw [rung_small u u.log2 a b h]
    have := kept_bounds u u.log2 a b h
    omega
theorem order_word (s : Bool) (r : Nat) (h1 : 4503599627370496 ≤ r) (h2 : r < 9218868437227405312) : double.order (double.word s r) (double.word s r) = some .eq := by
  show (double.read _).order (double.read _) = _
  rw [read_word s r h1 h2]
  have hc : ∀ z : Int, compare z z = .eq := fun z => by
    simp only [compare, compareOfLessAndEq]
    rw [if_neg (Int.lt_irrefl z)]
    rfl
  exact congrArg some (hc _)
theorem order_int (n : Int) (h0 : -9223372036854775808 ≤ n) (h1 : n ≤ 9223372036854775807) : FloatKind.f64.format.order (floatOfInt .f64 n) (floatOfInt .f64 n) = some .eq := by
  show double.order _ _ = _
  by_cases hz : n = 0
  · subst hz
    rw [show floatOfInt .f64 (0 : Int) = 0 from float_nat 0]
    decide
  · obtain ⟨c, d⟩ := rung_within n.natAbs (by omega) (by omega)
    by_cases hn : n < 0
    · have := order_word true (rung n.natAbs) c d
      rw [← nearest_rung] at this
      rw [show floatOfInt .f64 n = double.nearest true n.natAbs 0 by show double.nearest (decide (n < 0)) n.natAbs 0 = _; rw [decide_eq_true hn]]
      exact this
    · have := order_word false (rung n.natAbs) c d
      rw [← nearest_rung] at this
      rw [show floatOfInt .f64 n = double.nearest false n.natAbs 0 by show double.nearest (decide (n < 0)) n.natAbs 0 = _; rw [decide_eq_false hn]]
      exact this
theorem log2_bits (u : Nat) (h1 : 4503599627370496 ≤ u) (h2 : u < 18446744073709551616) : ∃ b, 53 ≤ b ∧ b ≤ 64 ∧ 2 ^ (b - 1) ≤ u ∧ u < 2 ^ b := by
  obtain ⟨a, c⟩ := log2_lt u (by omega)
  have hl : u.log2 < 64 := (Nat.log2_lt (by omega)).2 h2
  have hg : 52 ≤ u.log2 := (Nat.le_log2 (by omega)).2 h1
  exact ⟨u.log2 + 1, by omega, by omega, by rw [Nat.add_sub_cancel]; exact a, c⟩
end Go.Proofs.YtdbbmknjldapbaaGreatDoor
