/-
  The library's calendar functions over UTC, walked.
-/
import Derived.Test.YtmbegjbhmeihiaaGreatDoorSays
import Derived.Test.YtmbegjbhmeihiaaGreatDoorCal
import Derived.Laws.BitsAllLaws
import Derived.Laws.BitsLemmas
import Derived.WalkSpells
import Derived.WalkLawsBesides
import Derived.Handy
import Derived.Lib.Hide
namespace Go.Proofs.YtmbegjbhmeihiaaGreatDoor
set_option linter.unusedVariables false
set_option linter.unusedSimpArgs false
open Go.RowKit Go.Lib

theorem ret_int {k : IntKind} {a b : Int} (h : a = b) : Ending.returned (.int k a) = .returned (.int k b) := by rw [h]
theorem below_alloc {w w1 : World} {o : Obj} (h : Below (w.alloc o).heap.size (w.alloc o) w1) : Below w.heap.size w w1 := ((Below.refl _ _).alloc (Nat.le_refl _) _).trans (below_of h (by simp))
theorem ret_pair {k k' : IntKind} {a b a' b' : Int} (h : a = b) (h' : a' = b') : Ending.returned (.tuple #[.int k a, .int k' a']) = .returned (.tuple #[.int k b, .int k' b']) := by rw [h, h']
theorem ret_three {k k' k2 : IntKind} {a b a' b' a2 b2 : Int} (h : a = b) (h' : a' = b') (h2 : a2 = b2) : Ending.returned (.tuple #[.int k a, .int k' a', .int k2 a2]) = .returned (.tuple #[.int k b, .int k' b', .int k2 b2]) := by rw [h, h', h2]
theorem wraps_u32 (n : Int) (h₀ : 0 ≤ n) (h₁ : n < 2 ^ 32) : IntKind.u32.wrap n = n := by rw [IntKind.wrap_u32]; omega
theorem wraps_u64 (n : Int) (h₀ : 0 ≤ n) (h₁ : n < 2 ^ 64) : IntKind.u64.wrap n = n := by rw [IntKind.wrap_u64]; omega
theorem and_low16 (x : Int) (h0 : 0 ≤ x) (h1 : x < 4294967296) : bits .and .u32 x 65535 = x % 65536 := bits_mask .u32 32 (by decide) wraps_u32 16 (by decide) x h0 h1
theorem and_low30 (x : Int) (h0 : 0 ≤ x) (h1 : x < 18446744073709551616) : bits .and .u64 x 1073741823 = x % 1073741824 := bits_mask .u64 64 (by decide) wraps_u64 30 (by decide) x h0 h1
theorem nat_and_high (a : Nat) (h : a < 9223372036854775808) : a &&& 9223372036854775808 = 0 := by
  apply Nat.eq_of_testBit_eq
  intro i
  rw [Nat.testBit_and, Nat.zero_testBit, show 9223372036854775808 = 2 ^ 63 from rfl, Nat.testBit_two_pow]
  by_cases hi : 63 = i
  · subst hi
    rw [Nat.testBit_lt_two_pow h]
    rfl
  · simp [hi]
theorem and_high (x : Int) (h0 : 0 ≤ x) (h1 : x < 9223372036854775808) : bits .and .u64 x 9223372036854775808 = 0 := by
  obtain ⟨a, rfl⟩ : ∃ a : Nat, x = a := ⟨x.toNat, by omega⟩
  have := u64_and_nat a 9223372036854775808 (by omega) (by omega)
  rw [nat_and_high a (by omega)] at this
  exact this
theorem nat_or3 (n : Nat) : n ||| 3 = n / 4 * 4 + 3 := by
  have hr : n % 4 < 2 ^ 2 := by show n % 4 < 4; omega
  have e : 2 ^ 2 * (n / 4) + n % 4 = 2 ^ 2 * (n / 4) ||| n % 4 := Nat.two_pow_add_eq_or_of_lt hr _
  have e3 : 2 ^ 2 * (n / 4) + 3 = 2 ^ 2 * (n / 4) ||| 3 := Nat.two_pow_add_eq_or_of_lt (by decide) _
  have hc : n % 4 ||| 3 = 3 := by
    have : n % 4 = 0 ∨ n % 4 = 1 ∨ n % 4 = 2 ∨ n % 4 = 3 := by omega
    rcases this with h | h | h | h <;> rw [h] <;> rfl
  have h : n ||| 3 = 2 ^ 2 * (n / 4) ||| (n % 4 ||| 3) := by
    rw [← Nat.or_assoc, ← e]
    congr 1
    show n = 4 * (n / 4) + n % 4
    omega
  rw [h, hc, ← e3]
  show 4 * (n / 4) + 3 = _
  omega
theorem or3 (x : Int) (h0 : 0 ≤ x) (h1 : x < 4294967296) : bits .or .u32 x 3 = x / 4 * 4 + 3 := by
  obtain ⟨a, rfl⟩ : ∃ a : Nat, x = a := ⟨x.toNat, by omega⟩
  have := u32_or_nat a 3 (by omega) (by omega)
  rw [nat_or3] at this
  rw [show bits .or .u32 (a : Int) 3 = bits .or .u32 (a : Int) ((3 : Nat) : Int) from rfl, this]
  omega
/-- The library's quick division by 1461. -/
theorem quick1461 (c : Int) (h0 : 0 ≤ c) (h1 : c ≤ 36524) : 2939745 * (4 * c + 3) / 4294967296 = (4 * c + 3) / 1461 ∧ 2939745 * (4 * c + 3) % 4294967296 / 2939745 / 4 = (4 * c + 3) % 1461 / 4 := by
  obtain ⟨y, hy⟩ : ∃ y, (4 * c + 3) / 1461 = y := ⟨_, rfl⟩
  obtain ⟨z, hz⟩ : ∃ z, (4 * c + 3) % 1461 = z := ⟨_, rfl⟩
  have e : 4 * c + 3 = 1461 * y + z := by omega
  have hzb : 0 ≤ z ∧ z < 1461 := by omega
  have hyb : 0 ≤ y ∧ y ≤ 99 := by omega
  rw [hy, hz]
  have e2 : 2939745 * (4 * c + 3) = 4294967296 * y + (149 * y + 2939745 * z) := by omega
  have hb : 0 ≤ 149 * y + 2939745 * z ∧ 149 * y + 2939745 * z < 4294967296 := by omega
  have e3 : 2939745 * (4 * c + 3) / 4294967296 = y := by omega
  have e4 : 2939745 * (4 * c + 3) % 4294967296 = 149 * y + 2939745 * z := by omega
  refine ⟨e3, ?_⟩
  rw [e4]
  have e5 : (149 * y + 2939745 * z) / 2939745 = z := by omega
  rw [e5]
theorem gbounds (A : Int) (h0 : 0 ≤ A) : 0 ≤ gCd A ∧ gCd A ≤ 36524 ∧ 0 ≤ gCy A ∧ gCy A ≤ 99 ∧ 0 ≤ gYd A ∧ gYd A < 366 ∧ 0 ≤ gCen A := by
  obtain ⟨era, Y, hY0, hY1, hd0, hd1, hA, hlt, h1, hcen, hcy⟩ := parts A
  have h2 : 0 ≤ gCd A ∧ gCd A ≤ 36524 := by unfold gCd; omega
  have h3 : 0 ≤ gCen A := by unfold gCen; omega
  exact ⟨h2.1, h2.2, by omega, by omega, hd0, hd1, h3⟩

theorem days_any (x : Int) (h0 : 0 ≤ x) (h1 : x < 18446744073709551616) (w : World) :
    Calls Tryz.prog 89 #[.int .u64 x] w fun e w' => e = .returned (.int .u64 (x / 86400)) ∧ w = w' := by
  go_enter Tryz.func89, Tryz.ntmps89
  go_wp2
  go_ret
  exact ⟨rfl, rfl⟩
theorem mul32_any (x y : Int) (hx0 : 0 ≤ x) (hx : x < 4294967296) (hy0 : 0 ≤ y) (hy : y < 4294967296) (w : World) :
    Calls Tryz.prog 114 #[.int .u32 x, .int .u32 y] w fun e w' => e = .returned (.tuple #[.int .u32 (x * y / 4294967296), .int .u32 (x * y % 4294967296)]) ∧ w = w' := by
  have hp0 : 0 ≤ x * y := Int.mul_nonneg hx0 hy0
  have hp1 : x * y < 18446744073709551616 := by
    have h1 : x * y ≤ 4294967295 * 4294967295 := Int.mul_le_mul (by omega) (by omega) hy0 (by omega)
    omega
  have hw : IntKind.u64.wrap (x * y) = x * y := by rw [IntKind.wrap_u64]; omega
  have hq : x * y / 4294967296 % 4294967296 = x * y / 4294967296 := by omega
  go_enter Tryz.func114, Tryz.ntmps114
  go_wp2
  go_ret2
  exact ⟨ret_pair (by omega) (by omega), rfl⟩
theorem janFeb_any (yd : Int) (h0 : 0 ≤ yd) (h1 : yd < 366) (w : World) :
    Calls Tryz.prog 91 #[.int .i64 yd] w fun e w' => e = .returned (.int .i64 (if 306 ≤ yd then 1 else 0)) ∧ w = w' := by
  by_cases h : 306 ≤ yd
  · rw [if_pos h]
    go_enter Tryz.func91, Tryz.ntmps91
    go_wp2
    go_ret
    exact ⟨rfl, rfl⟩
  · rw [if_neg h]
    go_enter Tryz.func91, Tryz.ntmps91
    go_wp2
    go_ret
    exact ⟨rfl, rfl⟩
theorem ydsplit_any (yd : Int) (h0 : 0 ≤ yd) (h1 : yd < 366) (w : World) :
    Calls Tryz.prog 93 #[.int .i64 yd] w fun e w' => e = .returned (.tuple #[.int .i64 ((2141 * yd + 197913) / 65536), .int .i64 (1 + (2141 * yd + 197913) % 65536 / 2141)]) ∧ w = w' := by
  have hb := and_low16 (2141 * yd + 197913) (by omega) (by omega)
  go_enter Tryz.func93, Tryz.ntmps93
  go_wp2
  go_ret2
  exact ⟨ret_pair (by omega) (by omega), rfl⟩
theorem month_any (m jf : Int) (h0 : 0 ≤ m) (h1 : m ≤ 100) (hj0 : 0 ≤ jf) (hj1 : jf ≤ 1) (w : World) :
    Calls Tryz.prog 94 #[.int .i64 m, .int .i64 jf] w fun e w' => e = .returned (.int .i64 (m - 12 * jf)) ∧ w = w' := by
  go_enter Tryz.func94, Tryz.ntmps94
  go_wp2
  go_ret
  exact ⟨ret_int (by omega), rfl⟩
theorem cyear_any (cen cy jf : Int) (h0 : 0 ≤ cen) (h1 : cen < 9007199254740992) (hc0 : 0 ≤ cy) (hc1 : cy ≤ 99) (hj0 : 0 ≤ jf) (hj1 : jf ≤ 1) (w : World) :
    Calls Tryz.prog 92 #[.int .u64 cen, .int .i64 cy, .int .i64 jf] w fun e w' => e = .returned (.int .i64 (cen * 100 - 292277022400 + cy + jf)) ∧ w = w' := by
  have hk : wrap64 (IntKind.u64.wrap (cen * 100 - 292277022400)) = cen * 100 - 292277022400 := by rw [IntKind.wrap_u64]; unfold wrap64; omega
  have hk2 : IntKind.i64.wrap (IntKind.u64.wrap (cen * 100 - 292277022400)) = cen * 100 - 292277022400 := by rw [IntKind.wrap_u64, IntKind.wrap_i64]; omega
  go_enter Tryz.func92, Tryz.ntmps92
  go_wp2
  go_ret
  exact ⟨ret_int (by omega), rfl⟩
set_option maxHeartbeats 800000 in
theorem leap_any (A : Int) (h0 : 0 ≤ A) (w : World) :
    Calls Tryz.prog 116 #[.int .u64 (gCen A), .int .i64 (gCy A)] w fun e w' => e = .returned (.int .i64 (gLeap A)) ∧ w = w' := by
  obtain ⟨_, _, hc0, hc1, _, _, he0⟩ := gbounds A h0
  have b00 : bits .or .i64 0 0 = 0 := by decide
  have b01 : bits .or .i64 0 1 = 1 := by decide
  have b10 : bits .or .i64 1 0 = 1 := by decide
  have b11 : bits .or .i64 1 1 = 1 := by decide
  have a00 : bits .and .i64 0 0 = 0 := by decide
  have a01 : bits .and .i64 0 1 = 0 := by decide
  have a10 : bits .and .i64 1 0 = 0 := by decide
  have a11 : bits .and .i64 1 1 = 1 := by decide
  unfold gLeap
  generalize gCen A = cen at he0 ⊢
  generalize gCy A = cy at hc0 hc1 ⊢
  by_cases h4 : cy % 4 = 0 <;> by_cases hz : cy = 0 <;> by_cases he : cen % 4 = 0
  all_goals (try (exfalso; omega))
  all_goals
    have q1 : (cy % 4 == 0) = decide (cy % 4 = 0) := by rw [Bool.eq_iff_iff]; simp
    have q2 : (cy == 0) = decide (cy = 0) := by rw [Bool.eq_iff_iff]; simp
    have q3 : (cen % 4 == 0) = decide (cen % 4 = 0) := by rw [Bool.eq_iff_iff]; simp
    simp only [h4, hz, he, decide_true, decide_false] at q1 q2 q3
    simp only [h4, hz, he, ne_eq, not_true_eq_false, not_false_eq_true, or_true, true_or, or_false, false_or, and_true, true_and, and_false, false_and, if_true, if_false]
    go_enter Tryz.func116, Tryz.ntmps116
    go_wp2
    go_ret
    exact ⟨rfl, rfl⟩
theorem yday_any (yd jf lp : Int) (h0 : 0 ≤ yd) (h1 : yd < 366) (hj : jf = 0 ∨ jf = 1) (hl : lp = 0 ∨ lp = 1) (w : World) :
    Calls Tryz.prog 115 #[.int .i64 yd, .int .i64 jf, .int .i64 lp] w fun e w' => e = .returned (.int .i64 (yd + 60 + (if jf = 0 then lp else 0) - 365 * jf)) ∧ w = w' := by
  have b00 : bits .andNot .i64 0 0 = 0 := by decide
  have b01 : bits .andNot .i64 0 1 = 0 := by decide
  have b10 : bits .andNot .i64 1 0 = 1 := by decide
  have b11 : bits .andNot .i64 1 1 = 0 := by decide
  rcases hj with rfl | rfl <;> rcases hl with rfl | rfl
  all_goals
    go_enter Tryz.func115, Tryz.ntmps115
    go_wp2
    go_ret
    exact ⟨ret_int (by simp <;> omega), rfl⟩
theorem weekday_any (A : Int) (h0 : 0 ≤ A) (h1 : A < 1152921504606846976) (w : World) :
    Calls Tryz.prog 95 #[.int .u64 A] w fun e w' => e = .returned (.int .i64 ((A + 3) % 7)) ∧ w = w' := by
  go_enter Tryz.func95, Tryz.ntmps95
  go_wp2
  go_ret
  exact ⟨ret_int (by omega), rfl⟩
set_option maxHeartbeats 800000 in
theorem split_any (A : Int) (h0 : 0 ≤ A) (h1 : A < 1152921504606846976) (w : World) :
    Calls Tryz.prog 90 #[.int .u64 A] w fun e w' => e = .returned (.tuple #[.int .u64 (gCen A), .int .i64 (gCy A), .int .i64 (gYd A)]) ∧ w = w' := by
  obtain ⟨hd0, hd1, _, _, _, _, _⟩ := gbounds A h0
  have hor := or3 ((4 * A + 3) % 146097) (by omega) (by omega)
  have hcd : (4 * A + 3) % 146097 / 4 * 4 + 3 = 4 * gCd A + 3 := by unfold gCd; omega
  obtain ⟨q1, q2⟩ := quick1461 (gCd A) hd0 hd1
  have hy : gCy A = (4 * gCd A + 3) / 1461 := rfl
  have hyd : gYd A = (4 * gCd A + 3) % 1461 / 4 := rfl
  rw [hcd] at hor
  rw [← hy] at q1
  rw [← hyd] at q2
  have HM := Lib.hid (fun w => mul32_any 2939745 (4 * gCd A + 3) (by omega) (by omega) (by omega) (by omega) w)
  have hcen : (4 * A + 3) / 146097 = gCen A := rfl
  rw [← hcen]
  generalize gCd A = c at hd0 hd1 hor q1 q2 HM
  generalize gCy A = cy at q1 ⊢
  generalize gYd A = yd at q2 ⊢
  clear hy hyd hcd hcen
  have H1 := Lib.hid q1
  have H2 := Lib.hid q2
  have b1 : 0 ≤ cy ∧ cy ≤ 99 := by omega
  have b2 : 0 ≤ yd ∧ yd < 366 := by omega
  clear q1 q2
  go_enter Tryz.func90, Tryz.ntmps90
  go_wp2_with fail
  refine (HM.out _).mono ?_
  rintro e w1 ⟨rfl, rfl⟩
  go_wp2_with fail
  go_ret3
  exact ⟨ret_three rfl (by have := H1.out; omega) (by have := H2.out; omega), rfl⟩

/-- A time over UTC: u seconds of the unix count, n nanoseconds. -/
def tmV (u n : Int) : Value := .agg #[.int .u64 n, .int .i64 (u + 62135596800), .pointer none]
set_option maxHeartbeats 800000 in
theorem absSec_any (u n : Int) (hn0 : 0 ≤ n) (hn1 : n < 1073741824) (hu0 : -4398046511104 ≤ u) (hu1 : u ≤ 4398046511104) (w : World) :
    Calls Tryz.prog 88 #[tmV u n] w fun e w' => e = .returned (.int .u64 (u + 9223372028741760000)) ∧ Below w.heap.size w w' := by
  have hb := and_high n hn0 (by omega)
  unfold tmV
  go_enter Tryz.func88, Tryz.ntmps88
  go_wp2
  go_ret
  exact ⟨ret_int (by simp only [wrap64, IntKind.wrap_u64, IntKind.wrap_i64]; omega), by go_grown⟩

section
variable (u n : Int) (hn0 : 0 ≤ n) (hn1 : n < 1073741824) (hu0 : -4398046511104 ≤ u) (hu1 : u ≤ 4398046511104) (w : World)
include hn0 hn1 hu0 hu1

set_option maxHeartbeats 1600000 in
theorem year_any : Calls Tryz.prog 59 #[tmV u n] w fun e w' => e = .returned (.int .i64 (gY ((u + 9223372028741760000) / 86400))) ∧ Below w.heap.size w w' := by
  obtain ⟨A, hA⟩ : ∃ A, (u + 9223372028741760000) / 86400 = A := ⟨_, rfl⟩
  have hA0 : 0 ≤ A ∧ A < 1000000000000000 := by omega
  obtain ⟨_, _, hc0, hc1, hd0, hd1, he0⟩ := gbounds A hA0.1
  have he1 : gCen A < 9007199254740992 := by unfold gCen; omega
  have hjb : 0 ≤ gJf A ∧ gJf A ≤ 1 := by unfold gJf; split <;> omega
  have HS := Lib.hid (fun w => absSec_any u n hn0 hn1 hu0 hu1 w)
  have HD := Lib.hid (fun w => days_any (u + 9223372028741760000) (by omega) (by omega) w)
  have HP := Lib.hid (fun w => split_any A hA0.1 (by omega) w)
  have HJ := Lib.hid (fun w => janFeb_any (gYd A) hd0 hd1 w)
  have HY := Lib.hid (fun w => cyear_any (gCen A) (gCy A) (gJf A) he0 he1 hc0 hc1 hjb.1 hjb.2 w)
  rw [hA] at HD ⊢
  have hjf : (if 306 ≤ gYd A then (1 : Int) else 0) = gJf A := rfl
  rw [hjf] at HJ
  have hy : gCen A * 100 - 292277022400 + gCy A + gJf A = gY A := rfl
  rw [hy] at HY
  generalize gY A = y at HY ⊢
  generalize gCen A = cen at he0 he1 HP HY
  generalize gCy A = cy at hc0 hc1 HP HY
  generalize gYd A = yd at hd0 hd1 HP HJ hjf
  generalize gJf A = jf at hjb HJ HY hjf
  clear hy hjf hA
  unfold tmV at HS ⊢
  go_enter Tryz.func59, Tryz.ntmps59
  go_wp2_with fail
  refine (HS.out _).mono ?_
  rintro e w1 ⟨rfl, hb1⟩
  go_wp2_with fail
  refine (HD.out _).mono ?_
  rintro e w2 ⟨rfl, rfl⟩
  go_wp2_with fail
  refine (HP.out _).mono ?_
  rintro e w3 ⟨rfl, rfl⟩
  go_wp2_with fail
  refine (HJ.out _).mono ?_
  rintro e w4 ⟨rfl, rfl⟩
  go_wp2_with fail
  refine (HY.out _).mono ?_
  rintro e w5 ⟨rfl, rfl⟩
  go_wp2_with fail
  go_ret
  exact ⟨rfl, by first | exact below_alloc (by assumption) | go_grown⟩

set_option maxHeartbeats 1600000 in
theorem tmonth_any : Calls Tryz.prog 60 #[tmV u n] w fun e w' => e = .returned (.int .i64 (gM ((u + 9223372028741760000) / 86400))) ∧ Below w.heap.size w w' := by
  obtain ⟨A, hA⟩ : ∃ A, (u + 9223372028741760000) / 86400 = A := ⟨_, rfl⟩
  have hA0 : 0 ≤ A ∧ A < 1000000000000000 := by omega
  obtain ⟨_, _, hc0, hc1, hd0, hd1, he0⟩ := gbounds A hA0.1
  have hjb : 0 ≤ gJf A ∧ gJf A ≤ 1 := by unfold gJf; split <;> omega
  have HS := Lib.hid (fun w => absSec_any u n hn0 hn1 hu0 hu1 w)
  have HD := Lib.hid (fun w => days_any (u + 9223372028741760000) (by omega) (by omega) w)
  have HP := Lib.hid (fun w => split_any A hA0.1 (by omega) w)
  have HJ := Lib.hid (fun w => janFeb_any (gYd A) hd0 hd1 w)
  have HX := Lib.hid (fun w => ydsplit_any (gYd A) hd0 hd1 w)
  have HY := Lib.hid (fun w => month_any ((2141 * gYd A + 197913) / 65536) (gJf A) (by omega) (by omega) hjb.1 hjb.2 w)
  rw [hA] at HD ⊢
  have hjf : (if 306 ≤ gYd A then (1 : Int) else 0) = gJf A := rfl
  rw [hjf] at HJ
  have hy : (2141 * gYd A + 197913) / 65536 - 12 * gJf A = gM A := rfl
  rw [hy] at HY
  generalize gM A = m at HY ⊢
  generalize gCen A = cen at HP
  generalize gCy A = cy at HP
  generalize gYd A = yd at hd0 hd1 HP HJ HX HY hjf
  generalize gJf A = jf at hjb HJ HY hjf
  generalize (2141 * yd + 197913) / 65536 = m0 at HX HY
  generalize 1 + (2141 * yd + 197913) % 65536 / 2141 = d0 at HX
  clear hy hjf hA
  unfold tmV at HS ⊢
  go_enter Tryz.func60, Tryz.ntmps60
  go_wp2_with fail
  refine (HS.out _).mono ?_
  rintro e w1 ⟨rfl, hb1⟩
  go_wp2_with fail
  refine (HD.out _).mono ?_
  rintro e w2 ⟨rfl, rfl⟩
  go_wp2_with fail
  refine (HP.out _).mono ?_
  rintro e w3 ⟨rfl, rfl⟩
  go_wp2_with fail
  refine (HX.out _).mono ?_
  rintro e w4 ⟨rfl, rfl⟩
  go_wp2_with fail
  refine (HJ.out _).mono ?_
  rintro e w5 ⟨rfl, rfl⟩
  go_wp2_with fail
  refine (HY.out _).mono ?_
  rintro e w6 ⟨rfl, rfl⟩
  go_wp2_with fail
  go_ret
  exact ⟨rfl, by first | exact below_alloc (by assumption) | go_grown⟩

set_option maxHeartbeats 1600000 in
theorem day_any : Calls Tryz.prog 61 #[tmV u n] w fun e w' => e = .returned (.int .i64 (gD ((u + 9223372028741760000) / 86400))) ∧ Below w.heap.size w w' := by
  obtain ⟨A, hA⟩ : ∃ A, (u + 9223372028741760000) / 86400 = A := ⟨_, rfl⟩
  have hA0 : 0 ≤ A ∧ A < 1000000000000000 := by omega
  obtain ⟨_, _, hc0, hc1, hd0, hd1, he0⟩ := gbounds A hA0.1
  have HS := Lib.hid (fun w => absSec_any u n hn0 hn1 hu0 hu1 w)
  have HD := Lib.hid (fun w => days_any (u + 9223372028741760000) (by omega) (by omega) w)
  have HP := Lib.hid (fun w => split_any A hA0.1 (by omega) w)
  have HX := Lib.hid (fun w => ydsplit_any (gYd A) hd0 hd1 w)
  rw [hA] at HD ⊢
  have hy : 1 + (2141 * gYd A + 197913) % 65536 / 2141 = gD A := rfl
  rw [hy] at HX
  generalize gD A = d at HX ⊢
  generalize gCen A = cen at HP
  generalize gCy A = cy at HP
  generalize gYd A = yd at hd0 hd1 HP HX
  generalize (2141 * yd + 197913) / 65536 = m0 at HX
  clear hy hA
  unfold tmV at HS ⊢
  go_enter Tryz.func61, Tryz.ntmps61
  go_wp2_with fail
  refine (HS.out _).mono ?_
  rintro e w1 ⟨rfl, hb1⟩
  go_wp2_with fail
  refine (HD.out _).mono ?_
  rintro e w2 ⟨rfl, rfl⟩
  go_wp2_with fail
  refine (HP.out _).mono ?_
  rintro e w3 ⟨rfl, rfl⟩
  go_wp2_with fail
  refine (HX.out _).mono ?_
  rintro e w4 ⟨rfl, rfl⟩
  go_wp2_with fail
  go_ret
  exact ⟨rfl, by first | exact below_alloc (by assumption) | go_grown⟩

set_option maxHeartbeats 1600000 in
theorem hour_any : Calls Tryz.prog 62 #[tmV u n] w fun e w' => e = .returned (.int .i64 ((u + 9223372028741760000) % 86400 / 3600)) ∧ Below w.heap.size w w' := by
  have HS := Lib.hid (fun w => absSec_any u n hn0 hn1 hu0 hu1 w)
  obtain ⟨a, ha⟩ : ∃ a, u + 9223372028741760000 = a := ⟨_, rfl⟩
  have hab : 0 ≤ a ∧ a < 18446744073709551616 := by omega
  rw [ha] at HS ⊢
  clear ha
  unfold tmV at HS ⊢
  go_enter Tryz.func62, Tryz.ntmps62
  go_wp2_with fail
  refine (HS.out _).mono ?_
  rintro e w1 ⟨rfl, hb1⟩
  go_wp2_with fail
  go_ret
  exact ⟨ret_int (by omega), by first | exact below_alloc (by assumption) | go_grown⟩
set_option maxHeartbeats 1600000 in
theorem minute_any : Calls Tryz.prog 63 #[tmV u n] w fun e w' => e = .returned (.int .i64 ((u + 9223372028741760000) % 3600 / 60)) ∧ Below w.heap.size w w' := by
  have HS := Lib.hid (fun w => absSec_any u n hn0 hn1 hu0 hu1 w)
  obtain ⟨a, ha⟩ : ∃ a, u + 9223372028741760000 = a := ⟨_, rfl⟩
  have hab : 0 ≤ a ∧ a < 18446744073709551616 := by omega
  rw [ha] at HS ⊢
  clear ha
  unfold tmV at HS ⊢
  go_enter Tryz.func63, Tryz.ntmps63
  go_wp2_with fail
  refine (HS.out _).mono ?_
  rintro e w1 ⟨rfl, hb1⟩
  go_wp2_with fail
  go_ret
  exact ⟨ret_int (by omega), by first | exact below_alloc (by assumption) | go_grown⟩
set_option maxHeartbeats 1600000 in
theorem second_any : Calls Tryz.prog 64 #[tmV u n] w fun e w' => e = .returned (.int .i64 ((u + 9223372028741760000) % 60)) ∧ Below w.heap.size w w' := by
  have HS := Lib.hid (fun w => absSec_any u n hn0 hn1 hu0 hu1 w)
  obtain ⟨a, ha⟩ : ∃ a, u + 9223372028741760000 = a := ⟨_, rfl⟩
  have hab : 0 ≤ a ∧ a < 18446744073709551616 := by omega
  rw [ha] at HS ⊢
  clear ha
  unfold tmV at HS ⊢
  go_enter Tryz.func64, Tryz.ntmps64
  go_wp2_with fail
  refine (HS.out _).mono ?_
  rintro e w1 ⟨rfl, hb1⟩
  go_wp2_with fail
  go_ret
  exact ⟨ret_int (by omega), by first | exact below_alloc (by assumption) | go_grown⟩
omit hu0 hu1 in
set_option maxHeartbeats 1600000 in
theorem nano_any : Calls Tryz.prog 55 #[tmV u n] w fun e w' => e = .returned (.int .i64 n) ∧ Below w.heap.size w w' := by
  have hb := and_low30 n hn0 (by omega)
  have hm : n % 1073741824 = n := by omega
  rw [hm] at hb
  clear hm
  unfold tmV
  go_enter Tryz.func55, Tryz.ntmps55
  go_wp2
  go_ret
  exact ⟨ret_int (by omega), by first | exact below_alloc (by assumption) | go_grown⟩
set_option maxHeartbeats 1600000 in
theorem tweekday_any : Calls Tryz.prog 65 #[tmV u n] w fun e w' => e = .returned (.int .i64 (((u + 9223372028741760000) / 86400 + 3) % 7)) ∧ Below w.heap.size w w' := by
  obtain ⟨A, hA⟩ : ∃ A, (u + 9223372028741760000) / 86400 = A := ⟨_, rfl⟩
  have hA0 : 0 ≤ A ∧ A < 1000000000000000 := by omega
  have HS := Lib.hid (fun w => absSec_any u n hn0 hn1 hu0 hu1 w)
  have HD := Lib.hid (fun w => days_any (u + 9223372028741760000) (by omega) (by omega) w)
  have HP := Lib.hid (fun w => weekday_any A hA0.1 (by omega) w)
  rw [hA] at HD ⊢
  clear hA
  unfold tmV at HS ⊢
  go_enter Tryz.func65, Tryz.ntmps65
  go_wp2_with fail
  refine (HS.out _).mono ?_
  rintro e w1 ⟨rfl, hb1⟩
  go_wp2_with fail
  refine (HD.out _).mono ?_
  rintro e w2 ⟨rfl, rfl⟩
  go_wp2_with fail
  refine (HP.out _).mono ?_
  rintro e w3 ⟨rfl, rfl⟩
  go_wp2_with fail
  go_ret
  exact ⟨rfl, by first | exact below_alloc (by assumption) | go_grown⟩
omit hn0 hn1 hu0 hu1 in
set_option maxHeartbeats 1600000 in
theorem yearYday_any (A : Int) (hA0 : 0 ≤ A) (hA1 : A < 1000000000000000) :
    Calls Tryz.prog 96 #[.int .u64 A] w fun e w' => e = .returned (.tuple #[.int .i64 (gY A), .int .i64 (gYday A)]) ∧ w = w' := by
  obtain ⟨_, _, hc0, hc1, hd0, hd1, he0⟩ := gbounds A hA0
  have he1 : gCen A < 9007199254740992 := by unfold gCen; omega
  have hj : gJf A = 0 ∨ gJf A = 1 := by unfold gJf; split <;> omega
  have hjb : 0 ≤ gJf A ∧ gJf A ≤ 1 := by omega
  have hlp : gLeap A = 0 ∨ gLeap A = 1 := by unfold gLeap; split <;> omega
  have HP := Lib.hid (fun w => split_any A hA0 (by omega) w)
  have HJ := Lib.hid (fun w => janFeb_any (gYd A) hd0 hd1 w)
  have HY := Lib.hid (fun w => cyear_any (gCen A) (gCy A) (gJf A) he0 he1 hc0 hc1 hjb.1 hjb.2 w)
  have HL := Lib.hid (fun w => leap_any A hA0 w)
  have HZ := Lib.hid (fun w => yday_any (gYd A) (gJf A) (gLeap A) hd0 hd1 hj hlp w)
  have hjf : (if 306 ≤ gYd A then (1 : Int) else 0) = gJf A := rfl
  rw [hjf] at HJ
  have hy : gCen A * 100 - 292277022400 + gCy A + gJf A = gY A := rfl
  rw [hy] at HY
  have hz : gYd A + 60 + (if gJf A = 0 then gLeap A else 0) - 365 * gJf A = gYday A := rfl
  rw [hz] at HZ
  generalize gYday A = yy at HZ ⊢
  generalize gLeap A = lp at hlp HL HZ
  generalize gY A = y at HY ⊢
  generalize gCen A = cen at he0 he1 HP HY HL
  generalize gCy A = cy at hc0 hc1 HP HY HL
  generalize gYd A = yd at hd0 hd1 HP HJ HZ hjf
  generalize gJf A = jf at hj hjb HJ HY HZ hjf
  clear hy hjf hz hj hlp
  go_enter Tryz.func96, Tryz.ntmps96
  go_wp2_with fail
  refine (HP.out _).mono ?_
  rintro e w3 ⟨rfl, rfl⟩
  go_wp2_with fail
  refine (HJ.out _).mono ?_
  rintro e w5 ⟨rfl, rfl⟩
  go_wp2_with fail
  refine (HY.out _).mono ?_
  rintro e w6 ⟨rfl, rfl⟩
  go_wp2_with fail
  refine (HL.out _).mono ?_
  rintro e w7 ⟨rfl, rfl⟩
  go_wp2_with fail
  refine (HZ.out _).mono ?_
  rintro e w8 ⟨rfl, rfl⟩
  go_wp2_with fail
  go_ret2
  exact ⟨rfl, rfl⟩
set_option maxHeartbeats 1600000 in
theorem yearDay_any : Calls Tryz.prog 66 #[tmV u n] w fun e w' => e = .returned (.int .i64 (gYday ((u + 9223372028741760000) / 86400))) ∧ Below w.heap.size w w' := by
  obtain ⟨A, hA⟩ : ∃ A, (u + 9223372028741760000) / 86400 = A := ⟨_, rfl⟩
  have hA0 : 0 ≤ A ∧ A < 1000000000000000 := by omega
  have HS := Lib.hid (fun w => absSec_any u n hn0 hn1 hu0 hu1 w)
  have HD := Lib.hid (fun w => days_any (u + 9223372028741760000) (by omega) (by omega) w)
  have HP := Lib.hid (fun w => yearYday_any w A hA0.1 hA0.2)
  rw [hA] at HD ⊢
  clear hA
  unfold tmV at HS ⊢
  go_enter Tryz.func66, Tryz.ntmps66
  go_wp2_with fail
  refine (HS.out _).mono ?_
  rintro e w1 ⟨rfl, hb1⟩
  go_wp2_with fail
  refine (HD.out _).mono ?_
  rintro e w2 ⟨rfl, rfl⟩
  go_wp2_with fail
  refine (HP.out _).mono ?_
  rintro e w3 ⟨rfl, rfl⟩
  go_wp2_with fail
  go_ret
  exact ⟨rfl, by first | exact below_alloc (by assumption) | go_grown⟩
end
end Go.Proofs.YtmbegjbhmeihiaaGreatDoor
