/-
  128-bit words of an integer, and the full product by halves. No program in this text.
-/
namespace Go.Proofs.YtffiamchcadloaaGreatDoor
set_option linter.unusedVariables false
set_option linter.unusedSimpArgs false

def lo128 (n : Int) : Int := n % 18446744073709551616
def hi128 (n : Int) : Int := n / 18446744073709551616 % 18446744073709551616
theorem lo_bounds (n : Int) : 0 ≤ lo128 n ∧ lo128 n < 18446744073709551616 := by unfold lo128; omega
theorem hi_bounds (n : Int) : 0 ≤ hi128 n ∧ hi128 n < 18446744073709551616 := by unfold hi128; omega
theorem hi_small (x : Int) (h0 : -18446744073709551616 ≤ x) (h1 : x < 18446744073709551616) : hi128 x = if x < 0 then 18446744073709551615 else 0 := by
  unfold hi128
  split <;> omega
theorem lo_small (x : Int) (h0 : -18446744073709551616 ≤ x) (h1 : x < 18446744073709551616) : lo128 x = if x < 0 then x + 18446744073709551616 else x := by
  unfold lo128
  split <;> omega
theorem add_lo (a b : Int) : (lo128 a + lo128 b) % 18446744073709551616 = lo128 (a + b) := by unfold lo128; omega
theorem add_hi (a b : Int) : (hi128 a + hi128 b + (if (lo128 a + lo128 b) % 18446744073709551616 < lo128 a then 1 else 0)) % 18446744073709551616 = hi128 (a + b) := by
  unfold hi128 lo128
  obtain ⟨qa, hqa⟩ : ∃ q, a / 18446744073709551616 = q := ⟨_, rfl⟩
  obtain ⟨ra, hra⟩ : ∃ r, a % 18446744073709551616 = r := ⟨_, rfl⟩
  obtain ⟨qb, hqb⟩ : ∃ q, b / 18446744073709551616 = q := ⟨_, rfl⟩
  obtain ⟨rb, hrb⟩ : ∃ r, b % 18446744073709551616 = r := ⟨_, rfl⟩
  have ea : a = 18446744073709551616 * qa + ra := by omega
  have eb : b = 18446744073709551616 * qb + rb := by omega
  have ba : 0 ≤ ra ∧ ra < 18446744073709551616 := by omega
  have bb : 0 ≤ rb ∧ rb < 18446744073709551616 := by omega
  rw [hqa, hra, hqb, hrb, ea, eb]
  clear hqa hra hqb hrb ea eb
  by_cases h : ra + rb < 18446744073709551616
  · have e1 : (ra + rb) % 18446744073709551616 = ra + rb := by omega
    have e2 : (18446744073709551616 * qa + ra + (18446744073709551616 * qb + rb)) / 18446744073709551616 = qa + qb := by omega
    rw [e1, e2, if_neg (by omega)]
    omega
  · have e1 : (ra + rb) % 18446744073709551616 = ra + rb - 18446744073709551616 := by omega
    have e2 : (18446744073709551616 * qa + ra + (18446744073709551616 * qb + rb)) / 18446744073709551616 = qa + qb + 1 := by omega
    rw [e1, e2, if_pos (by omega)]
    omega
theorem neg_lo (a : Int) : lo128 (-1 - a) = 18446744073709551615 - lo128 a := by unfold lo128; omega
theorem neg_hi (a : Int) : hi128 (-1 - a) = 18446744073709551615 - hi128 a := by
  unfold hi128
  have e : (-1 - a) / 18446744073709551616 = -1 - a / 18446744073709551616 := by omega
  rw [e]
  omega
/-- The full product by 32-bit halves. -/
theorem mul_halves (a b : Int) (a0 : 0 ≤ a) (a1 : a < 18446744073709551616) (b0 : 0 ≤ b) (b1 : b < 18446744073709551616) :
    let w0 := a % 4294967296 * (b % 4294967296)
    let t := a / 4294967296 * (b % 4294967296) + w0 / 4294967296
    let w1 := t % 4294967296 + a % 4294967296 * (b / 4294967296)
    0 ≤ w0 ∧ w0 < 18446744073709551616 ∧ 0 ≤ t ∧ t < 18446744073709551616 ∧ 0 ≤ w1 ∧ w1 < 18446744073709551616 ∧
      0 ≤ a / 4294967296 * (b / 4294967296) ∧ a / 4294967296 * (b / 4294967296) + t / 4294967296 + w1 / 4294967296 = a * b / 18446744073709551616 ∧ a * b / 18446744073709551616 < 18446744073709551616 ∧ 0 ≤ a * b := by
  obtain ⟨x1, hx1⟩ : ∃ q, a / 4294967296 = q := ⟨_, rfl⟩
  obtain ⟨x0, hx0⟩ : ∃ q, a % 4294967296 = q := ⟨_, rfl⟩
  obtain ⟨y1, hy1⟩ : ∃ q, b / 4294967296 = q := ⟨_, rfl⟩
  obtain ⟨y0, hy0⟩ : ∃ q, b % 4294967296 = q := ⟨_, rfl⟩
  have ea : a = 4294967296 * x1 + x0 := by omega
  have eb : b = 4294967296 * y1 + y0 := by omega
  have bx1 : 0 ≤ x1 ∧ x1 ≤ 4294967295 := by omega
  have bx0 : 0 ≤ x0 ∧ x0 ≤ 4294967295 := by omega
  have by1 : 0 ≤ y1 ∧ y1 ≤ 4294967295 := by omega
  have by0 : 0 ≤ y0 ∧ y0 ≤ 4294967295 := by omega
  have ep : a * b = 18446744073709551616 * (x1 * y1) + 4294967296 * (x1 * y0) + 4294967296 * (x0 * y1) + x0 * y0 := by
    rw [ea, eb, Int.add_mul, Int.mul_add, Int.mul_add]
    have m1 : 4294967296 * x1 * (4294967296 * y1) = 18446744073709551616 * (x1 * y1) := by
      rw [Int.mul_assoc, Int.mul_left_comm x1, ← Int.mul_assoc, show (4294967296 : Int) * 4294967296 = 18446744073709551616 by decide]
    have m2 : 4294967296 * x1 * y0 = 4294967296 * (x1 * y0) := Int.mul_assoc _ _ _
    have m3 : x0 * (4294967296 * y1) = 4294967296 * (x0 * y1) := Int.mul_left_comm _ _ _
    rw [m1, m2, m3]
    omega
  have p11 : 0 ≤ x1 * y1 ∧ x1 * y1 ≤ 4294967295 * 4294967295 := ⟨Int.mul_nonneg bx1.1 by1.1, Int.mul_le_mul bx1.2 by1.2 by1.1 (by omega)⟩
  have p10 : 0 ≤ x1 * y0 ∧ x1 * y0 ≤ 4294967295 * 4294967295 := ⟨Int.mul_nonneg bx1.1 by0.1, Int.mul_le_mul bx1.2 by0.2 by0.1 (by omega)⟩
  have p01 : 0 ≤ x0 * y1 ∧ x0 * y1 ≤ 4294967295 * 4294967295 := ⟨Int.mul_nonneg bx0.1 by1.1, Int.mul_le_mul bx0.2 by1.2 by1.1 (by omega)⟩
  have p00 : 0 ≤ x0 * y0 ∧ x0 * y0 ≤ 4294967295 * 4294967295 := ⟨Int.mul_nonneg bx0.1 by0.1, Int.mul_le_mul bx0.2 by0.2 by0.1 (by omega)⟩
  have hmul : a * b ≤ 18446744073709551615 * 18446744073709551615 := Int.mul_le_mul (by omega) (by omega) b0 (by omega)
  have h0 : 0 ≤ a * b := Int.mul_nonneg a0 b0
  show 0 ≤ a % 4294967296 * (b % 4294967296) ∧ _
  rw [hx1, hx0, hy1, hy0]
  generalize a * b = P at ep hmul h0 ⊢
  clear ea eb hx1 hx0 hy1 hy0
  generalize x1 * y1 = A at ep p11 ⊢
  generalize x1 * y0 = B at ep p10 ⊢
  generalize x0 * y1 = C at ep p01 ⊢
  generalize x0 * y0 = D at ep p00 ⊢
  obtain ⟨d1, hd1⟩ : ∃ q, D / 4294967296 = q := ⟨_, rfl⟩
  obtain ⟨d0, hd0⟩ : ∃ q, D % 4294967296 = q := ⟨_, rfl⟩
  have ed : D = 4294967296 * d1 + d0 := by omega
  have bd : 0 ≤ d1 ∧ d1 ≤ 4294967294 ∧ 0 ≤ d0 ∧ d0 ≤ 4294967295 := by omega
  rw [hd1]
  obtain ⟨t1, ht1⟩ : ∃ q, (B + d1) / 4294967296 = q := ⟨_, rfl⟩
  obtain ⟨t0, ht0⟩ : ∃ q, (B + d1) % 4294967296 = q := ⟨_, rfl⟩
  have et : B + d1 = 4294967296 * t1 + t0 := by omega
  have bt : 0 ≤ t1 ∧ 0 ≤ t0 ∧ t0 ≤ 4294967295 := by omega
  rw [ht1, ht0]
  obtain ⟨v1, hv1⟩ : ∃ q, (t0 + C) / 4294967296 = q := ⟨_, rfl⟩
  obtain ⟨v0, hv0⟩ : ∃ q, (t0 + C) % 4294967296 = q := ⟨_, rfl⟩
  have ev : t0 + C = 4294967296 * v1 + v0 := by omega
  have bv : 0 ≤ v1 ∧ 0 ≤ v0 ∧ v0 ≤ 4294967295 := by omega
  rw [hv1]
  have eP : P = 18446744073709551616 * (A + t1 + v1) + (4294967296 * v0 + d0) := by omega
  clear hd1 hd0 ht1 ht0 hv1 hv0
  refine ⟨p00.1, by omega, by omega, by omega, by omega, by omega, p11.1, ?_, by omega, h0⟩
  omega
end Go.Proofs.YtffiamchcadloaaGreatDoor
