/-
  Whole numbers as float64: the nearest word, whatever their size; its order. No program in this text.
-/
import Derived.Test.YtdbbmknjldapbaaGreatDoorFlo
namespace Go.Proofs.YtdbbmknjldapbaaGreatDoor
set_option linter.unusedVariables false
set_option linter.unusedSimpArgs false
open Ieee

/-- n / 2^d to the nearest; between two, to the even one. -/
def nev (n d : Nat) : Nat := n / 2 ^ d + if 2 ^ d < 2 * (n % 2 ^ d) ∨ (2 * (n % 2 ^ d) = 2 ^ d ∧ n / 2 ^ d % 2 = 1) then 1 else 0
theorem cut_nev (s : Bool) (n d : Nat) (h : d ≤ n.log2 + 2) : Toward.even.cut s n d = nev n d := by
  have bt : ∀ b : Bool, b.toNat = if b = true then 1 else 0 := by decide
  unfold Toward.cut nev
  simp only [Nat.min_eq_left h, Nat.shiftLeft_eq, Nat.one_mul]
  rw [bt]
  simp only [Bool.or_eq_true, Bool.and_eq_true, decide_eq_true_eq, beq_iff_eq]
  have : (2 ^ d = 2 * (n % 2 ^ d) ∧ n / 2 ^ d % 2 = 1) ↔ (2 * (n % 2 ^ d) = 2 ^ d ∧ n / 2 ^ d % 2 = 1) := ⟨fun h => ⟨h.1.symm, h.2⟩, fun h => ⟨h.1.symm, h.2⟩⟩
  simp only [this]
theorem nev_zero (n : Nat) : nev n 0 = n := by
  unfold nev
  rw [Nat.pow_zero, Nat.div_one, Nat.mod_one, if_neg (by omega), Nat.add_zero]
theorem word_false (r : Nat) : double.word false r = r := by
  unfold Format.word
  rw [if_neg (by decide)]
/-- The rung of a whole number. -/
def rung (n : Nat) : Nat := double.nearest false n 0
theorem nearest_rung (s : Bool) (n : Nat) : double.nearest s n 0 = double.word s (rung n) := by
  unfold rung Format.nearest
  by_cases h : n = 0
  · rw [if_pos h, if_pos h]
    unfold Format.word
    cases s <;> simp
  · rw [if_neg h, if_neg h]
    have hc : ∀ (a b : Nat), Toward.even.cut s a b = Toward.even.cut false a b := fun a b => rfl
    simp only [hc]
    unfold Format.word
    cases s <;> simp
theorem log2_of (n L : Nat) (h0 : 2 ^ L ≤ n) (h1 : n < 2 ^ (L + 1)) : n.log2 = L := (Nat.log2_eq_iff (by have := Nat.two_pow_pos L; omega)).2 ⟨h0, h1⟩
/-- .. of more than 52 bits (L + 1 of them). -/
theorem rung_big (n L : Nat) (h0 : 2 ^ L ≤ n) (h1 : n < 2 ^ (L + 1)) (h52 : 52 ≤ L) : rung n = min ((L + 1022) * 4503599627370496 + nev n (L - 52)) 9218868437227405312 := by
  have hn : n ≠ 0 := by have := Nat.two_pow_pos L; omega
  have hlog := log2_of n L h0 h1
  have hlast : max (0 + ((L : Nat) : Int) - (double.fractionBits : Int)) double.leastPlace = ((L - 52 : Nat) : Int) := by
    rw [dbl_least, show ((double.fractionBits : Nat) : Int) = 52 from rfl]
    omega
  unfold rung Format.nearest
  rw [if_neg hn]
  simp only [hlog, hlast]
  rw [show (0 - ((L - 52 : Nat) : Int)).toNat = 0 by omega, Nat.shiftLeft_zero, show (((L - 52 : Nat) : Int) - 0).toNat = L - 52 by omega, cut_nev _ _ _ (by rw [hlog]; omega), dbl_least, dbl_binade, dbl_inf, show (((L - 52 : Nat) : Int) - -1074).toNat = L + 1022 by omega, word_false]
/-- .. of at most 53 bits: exact. -/
theorem rung_small (n L : Nat) (h0 : 2 ^ L ≤ n) (h1 : n < 2 ^ (L + 1)) (h52 : L ≤ 52) : rung n = (L + 1022) * 4503599627370496 + n * 2 ^ (52 - L) := by
  have hn : n ≠ 0 := by have := Nat.two_pow_pos L; omega
  have hlog := log2_of n L h0 h1
  have hlast : max (0 + ((L : Nat) : Int) - (double.fractionBits : Int)) double.leastPlace = (L : Int) - 52 := by
    rw [dbl_least, show ((double.fractionBits : Nat) : Int) = 52 from rfl]
    omega
  have hb := kept_bounds n L h0 h1 h52
  unfold rung Format.nearest
  rw [if_neg hn]
  simp only [hlog, hlast]
  rw [show (0 - ((L : Int) - 52)).toNat = 52 - L by omega, show ((L : Int) - 52 - 0).toNat = 0 by omega, Nat.shiftLeft_eq, cut_nev _ _ _ (by omega), nev_zero, dbl_least, dbl_binade, dbl_inf, show ((L : Int) - 52 - -1074).toNat = L + 1022 by omega, Nat.min_eq_left (by omega), word_false]
theorem pow_split (a b : Nat) (h : a ≤ b) : 2 ^ b = 2 ^ a * 2 ^ (b - a) := by rw [← Nat.pow_add, show a + (b - a) = b by omega]
/-- What is kept of a number of L + 1 bits has 53 bits, or is the next power of two. -/
theorem nev_bounds (n L : Nat) (h0 : 2 ^ L ≤ n) (h1 : n < 2 ^ (L + 1)) (h52 : 52 ≤ L) : 4503599627370496 ≤ nev n (L - 52) ∧ nev n (L - 52) ≤ 9007199254740992 := by
  have hp := Nat.two_pow_pos (L - 52)
  have e1 : (4503599627370496 : Nat) * 2 ^ (L - 52) = 2 ^ L := by rw [show (4503599627370496 : Nat) = 2 ^ 52 from rfl, ← Nat.pow_add, show 52 + (L - 52) = L by omega]
  have e2 : (9007199254740992 : Nat) * 2 ^ (L - 52) = 2 ^ (L + 1) := by rw [show (9007199254740992 : Nat) = 2 ^ 53 from rfl, ← Nat.pow_add, show 53 + (L - 52) = L + 1 by omega]
  have a1 : 4503599627370496 ≤ n / 2 ^ (L - 52) := (Nat.le_div_iff_mul_le hp).2 (by rw [e1]; exact h0)
  have a2 : n / 2 ^ (L - 52) < 9007199254740992 := (Nat.div_lt_iff_lt_mul hp).2 (by rw [e2]; exact h1)
  unfold nev
  split <;> omega
theorem nev_mono (a b d : Nat) (h : a ≤ b) : nev a d ≤ nev b d := by
  unfold nev
  generalize 2 ^ d = g
  have hq : a / g ≤ b / g := Nat.div_le_div_right h
  have ha := Nat.div_add_mod a g
  have hb := Nat.div_add_mod b g
  rcases Nat.lt_or_ge (a / g) (b / g) with hlt | hge
  · split <;> split <;> omega
  · have e : a / g = b / g := by omega
    rw [e] at ha ⊢
    generalize g * (b / g) = t at ha hb
    have hr : a % g ≤ b % g := by omega
    split <;> split <;> omega
theorem log2_lt (n : Nat) (h : n ≠ 0) : 2 ^ n.log2 ≤ n ∧ n < 2 ^ (n.log2 + 1) := (Nat.log2_eq_iff h).1 rfl
theorem log2_mono (a b : Nat) (ha : a ≠ 0) (h : a ≤ b) : a.log2 ≤ b.log2 := by
  have h1 := log2_lt a ha
  have hb : b ≠ 0 := by omega
  exact (Nat.le_log2 hb).2 (Nat.le_trans h1.1 h)
/-- The greater number has the greater rung. -/
theorem rung_mono (a b : Nat) (ha : 4503599627370496 ≤ a) (h : a ≤ b) : rung a ≤ rung b := by
  have ha0 : a ≠ 0 := by omega
  have hb0 : b ≠ 0 := by omega
  obtain ⟨a1, a2⟩ := log2_lt a ha0
  obtain ⟨b1, b2⟩ := log2_lt b hb0
  have hl := log2_mono a b ha0 h
  have h52 : 52 ≤ a.log2 := (Nat.le_log2 ha0).2 ha
  rw [rung_big a _ a1 a2 h52, rung_big b _ b1 b2 (by omega)]
  obtain ⟨c1, c2⟩ := nev_bounds a _ a1 a2 h52
  obtain ⟨d1, d2⟩ := nev_bounds b _ b1 b2 (by omega)
  have hm : a.log2 = b.log2 → nev a (a.log2 - 52) ≤ nev b (b.log2 - 52) := fun e => by rw [e]; exact nev_mono a b (b.log2 - 52) h
  generalize nev a (a.log2 - 52) = x at c1 c2 hm ⊢
  generalize nev b (b.log2 - 52) = y at d1 d2 hm ⊢
  clear a1 a2 b1 b2
  generalize a.log2 = l at *
  generalize b.log2 = k at *
  rcases Nat.lt_or_ge l k with hlt | hge
  · omega
  · have := hm (by omega)
    omega
end Go.Proofs.YtdbbmknjldapbaaGreatDoor
