/-
  The library's fast scaling of a decimal number to a float (internal/strconv.parseFloat64), walked.
-/
import Derived.Test.YtdbbmknjldapbaaGreatDoorUw
namespace Go.Proofs.YtdbbmknjldapbaaGreatDoor
set_option linter.unusedVariables false
set_option linter.unusedSimpArgs false
open Go.RowKit Go.Lib Go.Sort

set_option maxRecDepth 100000 in
set_option maxHeartbeats 1600000 in
theorem pf64 (n d b p lp T : Nat) (sg : Nat) (hs : sg = 0 ∨ sg = 9223372036854775808) (hb0 : 1 ≤ b) (hb : b ≤ 64) (h0 : 2 ^ (b - 1) ≤ d) (h1 : d < 2 ^ b) (hp : p ≤ 22) (hlp : p * 108853 / 32768 = lp) (hB : 53 ≤ b + lp)
    (hT0 : 9223372036854775808 ≤ T) (hT1 : T < 18446744073709551616) (hT2 : T % 2 = 0) (hTd : d * 2 ^ (64 - b) * T < 340282366920938444573908675953187356672) (hn : n * 2 ^ 127 = d * 2 ^ (64 - b) * T * 2 ^ (b + lp)) (w : World)
    (ht0 : w.cell? ⟨14, (p + 348) * 2, none⟩ = some (.int .u64 (T : Int))) (ht1 : w.cell? ⟨14, (p + 348) * 2 + 1, none⟩ = some (.int .u64 0)) :
    Calls Tryz.prog 84 #[.int .u64 (d : Int), .int .i64 (p : Int), .int .u64 (sg : Int)] w fun r w' => r = .returned (.tuple #[.float .f64 (sg + rung n), .nilIface]) ∧ Below w.heap.size w w' := by
  have hd : d < 18446744073709551616 := Nat.lt_of_lt_of_le h1 (Nat.pow_le_pow_right (by omega) hb)
  have HL := Lib.hid (fun w => Tryz.bits_Len64 (d : Int) w (by omega) (by omega))
  rw [Int.toNat_natCast, blen_of d b hb0 hb h0 h1] at HL
  have x0 : 9223372036854775808 ≤ d * 2 ^ (64 - b) := by
    have := Nat.mul_le_mul_right (2 ^ (64 - b)) h0
    rw [← Nat.pow_add, show b - 1 + (64 - b) = 63 by omega] at this
    exact this
  have x1 : d * 2 ^ (64 - b) < 18446744073709551616 := by
    have := (Nat.mul_lt_mul_right (Nat.two_pow_pos (64 - b))).2 h1
    rw [← Nat.pow_add, show b + (64 - b) = 64 by omega] at this
    exact this
  have gx : IntKind.u64.wrap ((d : Int) * 2 ^ (64 - b)) = ((d * 2 ^ (64 - b) : Nat) : Int) := by
    have : (d : Int) * 2 ^ (64 - b) = ((d * 2 ^ (64 - b) : Nat) : Int) := by push_cast; rfl
    rw [this, IntKind.wrap_u64]
    omega
  generalize d * 2 ^ (64 - b) = X at *
  have hP0 : 85070591730234615865843651857942052864 ≤ X * T := Nat.mul_le_mul x0 hT0
  have HU := Lib.hid (fun (bl : Nat) (w : World) => uscale_any X T bl x1 hT1 hT2 w)
  have hr := rung_of_product n (X * T) (b + lp) hB (by omega) hP0 (Nat.lt_trans hTd (by decide)) hn
  obtain ⟨c1, c2, c3⟩ := rnd_bounds (X * T) hP0 hTd
  generalize usc (X * T) = U at *
  have g1 : (p : Int) * 108853 / 32768 = (lp : Int) := by omega
  have g2 : min (1074 : Int) (53 - (b : Int) - (lp : Int)) = 53 - (b : Int) - (lp : Int) := by omega
  have g3 : (0 : Int) ≤ (p : Int) * 108853 := by omega
  have g4 : (p : Int) * 108853 ≤ 2394766 := by omega
  have g5 := lt_of_cell' ht0
  have g6 : -(53 - (b : Int) - (lp : Int) - (64 - (b : Int)) + (lp : Int) + 3) = 8 := by omega
  have hl : (lp : Int) ≤ 73 := by omega
  have hg : (sg : Int) ≤ 9223372036854775808 := by omega
  have a1 := and_one U (by omega)
  clear hd hlp hT0 hT1 hT2 hTd hn x0 x1 hP0 h0 h1
  by_cases hU : 36028797018963966 ≤ U
  · rw [if_pos hU] at hr
    obtain ⟨m0, m1⟩ := c1 hU
    have o1 := half_or U (by omega)
    have hh : half U < 72057594037927936 := by unfold half; split <;> omega
    have s1 := sign_or sg (rnd (half U)) hs (by omega)
    have HP := Lib.hid (fun w => pack_any sg (rnd (half U)) (1023 + b + lp) (-(53 - (b : Int) - (lp : Int) - 1)) hs m0 m1 (by omega) (by omega) w)
    have hres : sg + (1023 + b + lp) * 4503599627370496 + (rnd (half U) - 4503599627370496) = sg + rung n := by rw [hr]; omega
    rw [hres] at HP
    rw [show ((U / 2 : Nat) : Int) = (U : Int) / 2 by omega] at o1
    have u1 : (36028797018963966 : Int) ≤ (U : Int) := by omega
    have HR := Lib.hid (fun w => round_any (half U) hh w)
    generalize half U = H at *
    generalize rnd H = M at *
    generalize rung n = RR at *
    have u2 : (U : Int) < 72057594037927936 := by omega
    clear hres hr c1 c2 c3 hU hs
    go_enter Tryz.func84, Tryz.ntmps84
    go_wp2_with fail
    refine (HL.out _).mono ?_
    rintro e w1 ⟨rfl, rfl⟩
    go_wp2_with (first | (go_at_call 104; go_in) | (go_at_call 105; go_in))
    refine (HU.out _ _ (by go_simp) (by go_simp) (by go_simp)).mono ?_
    rintro e w2 ⟨rfl, hb2⟩
    have HB2 := Lib.hid hb2
    clear hb2 g1 g2 g3 g4 g5 g6 gx ht0 ht1 HU HL
    go_wp2_with fail
    refine (unmin53 _).mono ?_
    rintro e w3 ⟨rfl, rfl⟩
    go_wp2_with fail
    refine (two_int_t _).mono ?_
    rintro e w4 ⟨rfl, rfl⟩
    have OO := Lib.hid (show bits .or .u64 ((U : Int) / 2) (bits .and .u64 (U : Int) 1) = (H : Int) by rw [a1, o1])
    have SS := Lib.hid s1
    clear o1 s1 m0 m1 hh u2 u1 a1
    go_wp2_with fail
    rw [OO.out]
    refine (HR.out _).mono ?_
    rintro e w5 ⟨rfl, rfl⟩
    go_wp2_with fail
    rw [SS.out]
    refine (HP.out _).mono ?_
    rintro e w6 ⟨rfl, rfl⟩
    go_wp2_with fail
    go_ret2
    refine ⟨rfl, ?_⟩
    have hx := HB2.out
    exact Below.trans (by go_grown) (below_of hx (by simp))
  · rw [if_neg hU] at hr
    obtain ⟨m0, m1⟩ := c2 hU
    have o1 := same_or U (by omega)
    have s1 := sign_or sg (rnd U) hs (by omega)
    have HP := Lib.hid (fun w => pack_any sg (rnd U) (1022 + b + lp) (-(53 - (b : Int) - (lp : Int))) hs m0 m1 (by omega) (by omega) w)
    have hres : sg + (1022 + b + lp) * 4503599627370496 + (rnd U - 4503599627370496) = sg + rung n := by rw [hr]; omega
    rw [hres] at HP
    have u1 : decide ((36028797018963966 : Int) ≤ (U : Int)) = false := decide_eq_false (by omega)
    have HR := Lib.hid (fun w => round_any U (by omega) w)
    generalize rnd U = M at *
    generalize rung n = RR at *
    clear hres hr c1 c2 c3 hU hs
    go_enter Tryz.func84, Tryz.ntmps84
    go_wp2_with fail
    refine (HL.out _).mono ?_
    rintro e w1 ⟨rfl, rfl⟩
    go_wp2_with (first | (go_at_call 104; go_in) | (go_at_call 105; go_in))
    refine (HU.out _ _ (by go_simp) (by go_simp) (by go_simp)).mono ?_
    rintro e w2 ⟨rfl, hb2⟩
    have HB2 := Lib.hid hb2
    clear hb2 g1 g2 g3 g4 g5 g6 gx ht0 ht1 HU HL
    go_wp2_with fail
    refine (unmin53 _).mono ?_
    rintro e w3 ⟨rfl, rfl⟩
    go_wp2_with fail
    refine (two_int_f _).mono ?_
    rintro e w4 ⟨rfl, rfl⟩
    have OO := Lib.hid (show bits .or .u64 (U : Int) (bits .and .u64 (U : Int) 1) = (U : Int) by rw [a1, o1])
    have SS := Lib.hid s1
    clear o1 s1 m0 m1 u1 a1
    go_wp2_with fail
    rw [OO.out]
    refine (HR.out _).mono ?_
    rintro e w5 ⟨rfl, rfl⟩
    go_wp2_with fail
    rw [SS.out]
    refine (HP.out _).mono ?_
    rintro e w6 ⟨rfl, rfl⟩
    go_wp2_with fail
    go_ret2
    refine ⟨rfl, ?_⟩
    have hx := HB2.out
    exact Below.trans (by go_grown) (below_of hx (by simp))
end Go.Proofs.YtdbbmknjldapbaaGreatDoor
