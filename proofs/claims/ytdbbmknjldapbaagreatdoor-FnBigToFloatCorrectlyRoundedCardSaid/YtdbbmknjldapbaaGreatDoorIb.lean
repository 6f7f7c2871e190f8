/-
  What nat.itoa calls (package bigall): maxPow, divisors, bitLen, set; walked.
-/
import Derived.Test.YtdbbmknjldapbaaGreatDoorCw
import Derived.Test.YtdbbmknjldapbaaGreatDoorCpy
import Derived.Test.YtdbbmknjldapbaaGreatDoorMk
import Derived.Laws.BitsAllLaws
import Derived.Test.YtdbbmknjldapbaaGreatDoorAid
import Derived.Test.YtdbbmknjldapbaaGreatDoorSays
import Derived.Laws.Externs
import Derived.WalkSpells
import Derived.Handy
import Derived.Lib.Hide
import Derived.Laws.FloatArith
import Derived.Test.YtdbbmknjldapbaaGreatDoorDc
namespace Go.Proofs.YtdbbmknjldapbaaGreatDoor
set_option linter.unusedVariables false
set_option linter.unusedSimpArgs false
open Go.RowKit Go.Lib

set_option maxRecDepth 100000 in
set_option maxHeartbeats 1600000 in
theorem maxPow_ten (w : World) : Calls Tryz.prog 69 #[.int .u64 10] w fun e w' => e = .returned (.tuple #[.int .u64 10000000000000000000, .int .i64 19]) ∧ w' = w := by
  go_enter Tryz.func69, Tryz.ntmps69
  go_wp2_with fail
  refine wp_loop_rounds 20 ?_
  iterate 19
    rw [rounds_succ]
    go_wp2_with fail
  go_ret2
  exact ⟨rfl, rfl⟩
theorem divisors_nil (stk : Value) (m : Nat) (hm : m ≤ 2) (w : World) (h8 : w.cell? ⟨6, 0, none⟩ = some (.int .i64 8)) :
    Calls Tryz.prog 70 #[stk, .int .i64 (m : Int), .int .u64 10, .int .i64 19, .int .u64 10000000000000000000] w fun e w' => e = .returned (.slice none 0 0) ∧ w' = w := by
  have h1 : (m : Int) ≤ 8 := by omega
  go_enter Tryz.func70, Tryz.ntmps70
  go_wp2_with fail
  go_ret
  exact ⟨rfl, rfl⟩
/-- The top word with its lower bits filled keeps its length. -/
theorem smear (t b k : Nat) (hb : b ≤ 64) (h0 : 2 ^ (b - 1) ≤ t) (h1 : t < 2 ^ b) : 2 ^ (b - 1) ≤ t ||| t / 2 ^ k ∧ t ||| t / 2 ^ k < 2 ^ b :=
  ⟨Nat.le_trans h0 Nat.left_le_or, Nat.or_lt_two_pow h1 (Nat.lt_of_le_of_lt (Nat.div_le_self _ _) h1)⟩
theorem smear_bits (t b k : Nat) (hb : b ≤ 64) (h0 : 2 ^ (b - 1) ≤ t) (h1 : t < 2 ^ b) : ∃ t' : Nat, bits .or .u64 (t : Int) ((t / 2 ^ k : Nat) : Int) = (t' : Int) ∧ 2 ^ (b - 1) ≤ t' ∧ t' < 2 ^ b := by
  have h64 : 2 ^ b ≤ 18446744073709551616 := Nat.pow_le_pow_right (by decide) hb
  obtain ⟨a, c⟩ := smear t b k hb h0 h1
  exact ⟨t ||| t / 2 ^ k, u64_or_nat _ _ (by omega) (by have := Nat.div_le_self t (2 ^ k); omega), a, c⟩
set_option maxRecDepth 100000 in
set_option maxHeartbeats 1600000 in
theorem bitLen_top (G c i t b : Nat) (hi : i ≤ 1) (hb0 : 1 ≤ b) (hb : b ≤ 64) (h0 : 2 ^ (b - 1) ≤ t) (h1 : t < 2 ^ b) (w : World) (hc : w.cell? ⟨G, i, none⟩ = some (.int .u64 (t : Int))) :
    Calls Tryz.prog 64 #[.slice (some ⟨G, 0, none⟩) (i + 1) c] w fun e w' => e = .returned (.int .i64 ((i * 64 + b : Nat) : Int)) ∧ w' = w := by
  obtain ⟨t1, e1, a1, b1⟩ := smear_bits t b 1 hb h0 h1
  obtain ⟨t2, e2, a2, b2⟩ := smear_bits t1 b 2 hb a1 b1
  obtain ⟨t3, e3, a3, b3⟩ := smear_bits t2 b 4 hb a2 b2
  obtain ⟨t4, e4, a4, b4⟩ := smear_bits t3 b 8 hb a3 b3
  obtain ⟨t5, e5, a5, b5⟩ := smear_bits t4 b 16 hb a4 b4
  obtain ⟨t6, e6, a6, b6⟩ := smear_bits t5 b 32 hb a5 b5
  have h64 : 2 ^ b ≤ 18446744073709551616 := Nat.pow_le_pow_right (by decide) hb
  have HL := Lib.hid (fun w => bits_len t6 b (by omega) (blen_of t6 b hb0 hb a6 b6) w)
  rw [show ((t / 2 ^ 1 : Nat) : Int) = (t : Int) / 2 by omega] at e1
  rw [show ((t1 / 2 ^ 2 : Nat) : Int) = (t1 : Int) / 4 by omega] at e2
  rw [show ((t2 / 2 ^ 4 : Nat) : Int) = (t2 : Int) / 16 by omega] at e3
  rw [show ((t3 / 2 ^ 8 : Nat) : Int) = (t3 : Int) / 256 by omega] at e4
  rw [show ((t4 / 2 ^ 16 : Nat) : Int) = (t4 : Int) / 65536 by omega] at e5
  rw [show ((t5 / 2 ^ 32 : Nat) : Int) = (t5 : Int) / 65536 / 65536 by omega] at e6
  have w0 : IntKind.u64.wrap (t : Int) = (t : Int) := by rw [IntKind.wrap_u64]; omega
  have w6 : IntKind.u64.wrap (t6 : Int) = (t6 : Int) := by rw [IntKind.wrap_u64]; omega
  have hbI : (b : Int) ≤ 64 := by omega
  clear h0 h1 h64 a1 a2 a3 a4 a5 a6 b1 b2 b3 b4 b5 b6 hb hb0
  have hi' : i = 0 ∨ i = 1 := by omega
  rcases hi' with rfl | rfl
  all_goals
    go_enter Tryz.func64, Tryz.ntmps64
    go_wp2_with fail
    refine (HL.out _).mono ?_
    rintro e w1 ⟨rfl, rfl⟩
    go_wp2_with fail
    go_ret
    exact ⟨by simp, rfl⟩
end Go.Proofs.YtdbbmknjldapbaaGreatDoor
/-
  math.Log2(10), walked.
-/
namespace Go.Proofs.YtdbbmknjldapbaaGreatDoor
set_option linter.unusedVariables false
set_option linter.unusedSimpArgs false
open Go.RowKit Go.Lib

theorem bits_run (n : Nat) (w : World) : (callFunc 167 #[.float .f64 n]).run Tryz.prog w = .ok (.value (.int .u64 (n : Int))) w := by
  rw [run_callFunc_extern Tryz.func167 (by kernel_rfl) (by kernel_rfl) (by kernel_rfl) (e := Extern.MathFloatBits.float64bits) (by kernel_rfl)]
  rfl
theorem from_run (n : Nat) (w : World) : (callFunc 43 #[.int .u64 (n : Int)]).run Tryz.prog w = .ok (.value (.float .f64 n)) w := by
  rw [run_callFunc_extern Tryz.func43 (by kernel_rfl) (by kernel_rfl) (by kernel_rfl) (e := Extern.MathFloatBits.float64frombits) (by kernel_rfl)]
  rfl
theorem log_run (w : World) : (callFunc 136 #[.float .f64 4603804719079489536]).run Tryz.prog w = .ok (.value (.float .f64 13825510489450817230)) w := by
  rw [run_callFunc_extern Tryz.func136 (by kernel_rfl) (by kernel_rfl) (by kernel_rfl) (e := Extern.MathLog.archLog) (by kernel_rfl)]
  kernel_rfl
set_option maxRecDepth 100000 in
theorem abs_ten (w : World) : Calls Tryz.prog 188 #[.float .f64 4621819117588971520] w fun e w' => e = .returned (.float .f64 4621819117588971520) ∧ w' = w := by
  have H1 := Lib.hid (fun w => bits_run 4621819117588971520 w)
  have H2 := Lib.hid (fun w => from_run 4621819117588971520 w)
  have b1 : bits .andNot .u64 4621819117588971520 9223372036854775808 = 4621819117588971520 := by decide
  go_enter Tryz.func188, Tryz.ntmps188
  go_wp2_with fail
  rw [H1.out, Oper.upon_value]
  rw [show ((4621819117588971520 : Nat) : Int) = 4621819117588971520 from rfl]
  go_wp2_with fail
  rw [show (4621819117588971520 : Int) = ((4621819117588971520 : Nat) : Int) from rfl, H2.out, Oper.upon_value]
  go_wp2_with fail
  go_ret
  exact ⟨rfl, rfl⟩
set_option maxRecDepth 100000 in
theorem inf_ten (w : World) : Calls Tryz.prog 164 #[.float .f64 4621819117588971520, .int .i64 0] w fun e w' => e = .returned (.bool false) ∧ w' = w := by
  have H1 := Lib.hid abs_ten
  have b1 : (FloatKind.f64.format.order 4621819117588971520 9218868437227405311 == some Ordering.gt) = false := by decide
  go_enter Tryz.func164, Tryz.ntmps164
  go_wp2_with fail
  refine (H1.out _).mono ?_
  rintro e w1 ⟨rfl, rfl⟩
  go_wp2_with fail
  go_ret
  exact ⟨rfl, rfl⟩
set_option maxRecDepth 100000 in
theorem nan_ten (w : World) : Calls Tryz.prog 165 #[.float .f64 4621819117588971520] w fun e w' => e = .returned (.bool false) ∧ w' = w := by
  have b1 : (FloatKind.f64.format.order 4621819117588971520 4621819117588971520 != some Ordering.eq) = false := by decide
  have b2 : (FloatKind.f64.format.order 4621819117588971520 4621819117588971520 == some Ordering.eq) = true := by decide
  go_enter Tryz.func165, Tryz.ntmps165
  go_wp2_with fail
  go_ret
  exact ⟨rfl, rfl⟩
set_option maxRecDepth 100000 in
theorem norm_ten (w : World) : Calls Tryz.prog 166 #[.float .f64 4621819117588971520] w fun e w' => e = .returned (.tuple #[.float .f64 4621819117588971520, .int .i64 0]) ∧ w' = w := by
  have H1 := Lib.hid abs_ten
  have b1 : (FloatKind.f64.format.order 4621819117588971520 4503599627370496 == some Ordering.lt) = false := by decide
  go_enter Tryz.func166, Tryz.ntmps166
  go_wp2_with fail
  refine (H1.out _).mono ?_
  rintro e w1 ⟨rfl, rfl⟩
  go_wp2_with fail
  go_ret2
  exact ⟨rfl, rfl⟩
set_option maxRecDepth 100000 in
set_option maxHeartbeats 800000 in
theorem frexp_ten (w : World) : Calls Tryz.prog 135 #[.float .f64 4621819117588971520] w fun e w' => e = .returned (.tuple #[.float .f64 4603804719079489536, .int .i64 4]) ∧ w' = w := by
  have H1 := Lib.hid inf_ten
  have H2 := Lib.hid nan_ten
  have H3 := Lib.hid norm_ten
  have H4 := Lib.hid (fun w => bits_run 4621819117588971520 w)
  have H5 := Lib.hid (fun w => from_run 4603804719079489536 w)
  have b1 : (FloatKind.f64.format.order 4621819117588971520 0 == some Ordering.eq) = false := by decide
  have b2 : bits .and .u64 1026 2047 = 1026 := by decide
  have b3 : bits .andNot .u64 4621819117588971520 9218868437227405312 = 1125899906842624 := by decide
  have b4 : bits .or .u64 1125899906842624 4602678819172646912 = 4603804719079489536 := by decide
  go_enter Tryz.func135, Tryz.ntmps135
  go_wp2_with fail
  refine (H1.out _).mono ?_
  rintro e w1 ⟨rfl, rfl⟩
  go_wp2_with fail
  refine (H2.out _).mono ?_
  rintro e w1 ⟨rfl, rfl⟩
  go_wp2_with fail
  refine (H3.out _).mono ?_
  rintro e w1 ⟨rfl, rfl⟩
  go_wp2_with fail
  rw [H4.out, Oper.upon_value]
  rw [show ((4621819117588971520 : Nat) : Int) = 4621819117588971520 from rfl]
  go_wp2_with fail
  rw [show (4603804719079489536 : Int) = ((4603804719079489536 : Nat) : Int) from rfl, H5.out, Oper.upon_value]
  go_wp2_with fail
  go_ret2
  exact ⟨rfl, rfl⟩
set_option maxRecDepth 100000 in
theorem frexp_ten' (w : World) : Calls Tryz.prog 116 #[.float .f64 4621819117588971520] w fun e w' => e = .returned (.tuple #[.float .f64 4603804719079489536, .int .i64 4]) ∧ w' = w := by
  have H1 := Lib.hid frexp_ten
  go_enter Tryz.func116, Tryz.ntmps116
  go_wp2_with fail
  refine (H1.out _).mono ?_
  rintro e w1 ⟨rfl, rfl⟩
  go_wp2_with fail
  go_ret2
  exact ⟨rfl, rfl⟩
set_option maxRecDepth 100000 in
theorem log_at (w : World) : Calls Tryz.prog 117 #[.float .f64 4603804719079489536] w fun e w' => e = .returned (.float .f64 13825510489450817230) ∧ w' = w := by
  have H1 := Lib.hid log_run
  go_enter Tryz.func117, Tryz.ntmps117
  go_wp2_with fail
  rw [H1.out, Oper.upon_value]
  go_wp2_with fail
  go_ret
  exact ⟨rfl, rfl⟩
set_option maxRecDepth 100000 in
theorem log2_ten (w : World) : Calls Tryz.prog 88 #[.float .f64 4621819117588971520] w fun e w' => e = .returned (.float .f64 4614662735865160561) ∧ w' = w := by
  have H1 := Lib.hid frexp_ten'
  have H2 := Lib.hid log_at
  have b1 : (FloatKind.f64.format.order 4603804719079489536 4602678819172646912 == some Ordering.eq) = false := by decide
  have b2 : floatBits .mul .f64 13825510489450817230 4609176140021203710 = some 13827654785158443579 := by kernel_rfl
  have b3 : floatBits .add .f64 13827654785158443579 4616189618054758400 = some 4614662735865160561 := by kernel_rfl
  have b4 : floatOfInt .f64 4 = 4616189618054758400 := by kernel_rfl
  have a2 : ∀ wx : World, (binOp .mul 23 (.float .f64 13825510489450817230) (.float .f64 4609176140021203710)).run Tryz.prog wx = .ok (.float .f64 13827654785158443579) wx := fun wx => run_float_arith wx _ _ _ _ _ _ b2
  have a3 : ∀ wx : World, (binOp .add 23 (.float .f64 13827654785158443579) (.float .f64 4616189618054758400)).run Tryz.prog wx = .ok (.float .f64 4614662735865160561) wx := fun wx => run_float_arith wx _ _ _ _ _ _ b3
  go_enter Tryz.func88, Tryz.ntmps88
  go_wp2_with fail
  refine (H1.out _).mono ?_
  rintro e w1 ⟨rfl, rfl⟩
  go_wp2_with fail
  refine (H2.out _).mono ?_
  rintro e w1 ⟨rfl, rfl⟩
  go_wp2_with fail
  go_ret
  exact ⟨rfl, rfl⟩
set_option maxRecDepth 100000 in
theorem log2_ten' (w : World) : Calls Tryz.prog 65 #[.float .f64 4621819117588971520] w fun e w' => e = .returned (.float .f64 4614662735865160561) ∧ w' = w := by
  have H1 := Lib.hid log2_ten
  go_enter Tryz.func65, Tryz.ntmps65
  go_wp2_with fail
  refine (H1.out _).mono ?_
  rintro e w1 ⟨rfl, rfl⟩
  go_wp2_with fail
  go_ret
  exact ⟨rfl, rfl⟩
end Go.Proofs.YtdbbmknjldapbaaGreatDoor
/-
  What itoa has written: the digits' value; the estimate of their number. No program in this text but the types' numbers.
-/
namespace Go.Proofs.YtdbbmknjldapbaaGreatDoor
set_option linter.unusedVariables false
set_option linter.unusedSimpArgs false
open Go.RowKit Go.Lib

theorem ofNat_dig (d : Nat) (h : d < 10) : (UInt8.ofNat (48 + d)).toNat = 48 + d := by rw [UInt8.toNat_ofNat']; omega
theorem Dd.val : ∀ (N x : Nat) (L : List UInt8), Dd x N N L → valD L = x % 10 ^ N
  | 0, x, L, h => by
    have := h.len
    obtain rfl : L = [] := List.eq_nil_of_length_eq_zero this
    rw [Nat.pow_zero, Nat.mod_one]
    rfl
  | N + 1, x, L, h => by
    have hl := h.len
    have hN : N < L.length := by omega
    have h0 := h.dig 0 (by omega)
    rw [show N + 1 - 1 - 0 = N by omega, List.getElem?_eq_getElem hN, Nat.pow_zero, Nat.div_one] at h0
    have h1 := Option.some.inj h0
    have ih := Dd.val N (x / 10) (L.take N) ⟨by rw [List.length_take]; omega, fun j hj => by
      rw [List.getElem?_take_of_lt (by omega)]
      have := h.dig (j + 1) (by omega)
      rw [show N + 1 - 1 - (j + 1) = N - 1 - j by omega, Nat.pow_succ', ← Nat.div_div_eq_div_mul] at this
      exact this⟩
    have hs := valD_step L N hN
    rw [show L.take (N + 1) = L from List.take_of_length_le (by omega), ih, h1, ofNat_dig _ (Nat.mod_lt _ (by decide))] at hs
    rw [hs, Nat.pow_succ', Nat.mod_mul]
    omega
theorem Dd.digs {x N : Nat} {L : List UInt8} (h : Dd x N N L) : Digs L := fun b hb => by
  obtain ⟨i, hi, rfl⟩ := List.mem_iff_getElem.1 hb
  have hl := h.len
  have hd := h.dig (N - 1 - i) (by omega)
  rw [show N - 1 - (N - 1 - i) = i by omega, List.getElem?_eq_getElem hi] at hd
  rw [Option.some.inj hd, ofNat_dig _ (Nat.mod_lt _ (by decide))]
  have := Nat.mod_lt (x / 10 ^ (N - 1 - i)) (show 0 < 10 by decide)
  omega
/-- How many digits the library makes room for. -/
def estN (B : Nat) : Nat := B * 30103 / 100000
def estOk (B : Nat) : Bool :=
  match floatBits .quo .f64 (floatOfInt .f64 (B : Int)) 4614662735865160561 with
  | some r => (match floatToIntVal .f64 r .i64 with | some n => n == (estN B : Int) | none => false) && decide (2 ^ B ≤ 10 ^ (estN B + 1))
  | none => false
theorem est_all : (List.range 65).all (fun i => estOk (64 + i)) = true := by kernel_rfl
theorem est_at (B : Nat) (h0 : 64 ≤ B) (h1 : B ≤ 128) : ∃ r, floatBits .quo .f64 (floatOfInt .f64 (B : Int)) 4614662735865160561 = some r ∧ floatToIntVal .f64 r .i64 = some (estN B : Int) ∧ 2 ^ B ≤ 10 ^ (estN B + 1) ∧ estN B ≤ 38 := by
  have h := List.all_eq_true.1 est_all (B - 64) (List.mem_range.2 (by omega))
  rw [show 64 + (B - 64) = B by omega] at h
  unfold estOk at h
  cases hq : floatBits .quo .f64 (floatOfInt .f64 (B : Int)) 4614662735865160561 with
  | none => rw [hq] at h; cases h
  | some r =>
    rw [hq] at h
    simp only [Bool.and_eq_true] at h
    obtain ⟨ha, hb⟩ := h
    refine ⟨r, rfl, ?_, of_decide_eq_true hb, by unfold estN; omega⟩
    cases hn : floatToIntVal .f64 r .i64 with
    | none => rw [hn] at ha; cases ha
    | some n => rw [hn] at ha; rw [eq_of_beq ha]
end Go.Proofs.YtdbbmknjldapbaaGreatDoor
