/-
  The library's fast scaling of a decimal number to a float (internal/strconv.parseFloat64 and what it calls), walked.
-/
import Derived.Test.YtdbbmknjldapbaaGreatDoorSpec
import Derived.Test.YtdbbmknjldapbaaGreatDoorNegF
import Derived.Test.YtdbbmknjldapbaaGreatDoorUb
import Derived.Test.YtdbbmknjldapbaaGreatDoorShelf
import Derived.Shelf.Strconv.Itoa0
import Derived.Lib.Mul64
import Derived.Deep.QuietTactic
import Derived.BigQuiet
import Derived.Shelf.Bits.Mul64
namespace Go.Proofs.YtdbbmknjldapbaaGreatDoor
set_option linter.unusedVariables false
set_option linter.unusedSimpArgs false
open Go.RowKit Go.Lib Go.Sort

set_option maxHeartbeats 1600000 in
theorem bits_mul64 (x y : Nat) (hx : x < 18446744073709551616) (hy : y < 18446744073709551616) (w : World) :
    Calls Tryz.prog 126 #[.int .u64 x, .int .u64 y] w fun e w' => e = .returned (.tuple #[.int .u64 ((x * y / 18446744073709551616 : Nat) : Int), .int .u64 ((x * y % 18446744073709551616 : Nat) : Int)]) ∧ w' = w := by
  obtain ⟨bd, bt, bw, hhi⟩ := Lib.mul64_hi x y hx hy
  have ba := Lib.half_mul_le (a := x / 4294967296) (b := y / 4294967296) (by omega) (by omega)
  have bb := Lib.half_mul_le (a := x / 4294967296) (b := y % 4294967296) (by omega) (by omega)
  have bc := Lib.half_mul_le (a := x % 4294967296) (b := y / 4294967296) (by omega) (by omega)
  have ba' : x / 4294967296 * (y / 4294967296) < 18446744073709551616 := by omega
  have bb' : x / 4294967296 * (y % 4294967296) < 18446744073709551616 := by omega
  have bc' : x % 4294967296 * (y / 4294967296) < 18446744073709551616 := by omega
  have bh1 : x / 4294967296 * (y / 4294967296) + (x / 4294967296 * (y % 4294967296) + x % 4294967296 * (y % 4294967296) / 4294967296) / 4294967296 < 18446744073709551616 := by omega
  have bh : x / 4294967296 * (y / 4294967296) + (x / 4294967296 * (y % 4294967296) + x % 4294967296 * (y % 4294967296) / 4294967296) / 4294967296 + ((x / 4294967296 * (y % 4294967296) + x % 4294967296 * (y % 4294967296) / 4294967296) % 4294967296 + x % 4294967296 * (y / 4294967296)) / 4294967296 < 18446744073709551616 := by omega
  go_enter Tryz.func126, Tryz.ntmps126
  go_wp2
  simp only [Mul64.maskN x hx, Mul64.maskN y hy, Mul64.divN, Mul64.mulN, Mul64.addN, Mul64.wrapN _ bd, Mul64.wrapN _ bb', Mul64.wrapN _ bt, Mul64.maskN _ bt, Mul64.wrapN _ bc', Mul64.wrapN _ bw, Mul64.wrapN _ ba', Mul64.wrapN _ bh1, Mul64.wrapN _ bh, Mul64.wrapM (x * y)]
  rw [hhi]
  go_ret2
  exact ⟨rfl, rfl⟩
theorem frombits_run (n : Nat) (w : World) : (callFunc 82 #[.int .u64 (n : Int)]).run Tryz.prog w = .ok (.value (.float .f64 n)) w := by
  rw [run_callFunc_extern Tryz.func82 (by kernel_rfl) (by kernel_rfl) (by kernel_rfl) (e := Extern.MathFloatBits.float64frombits) (by kernel_rfl)]
  rfl
set_option maxRecDepth 100000 in
set_option maxHeartbeats 1600000 in
/-- pack64 over a sign, 53 bits and an exponent. -/
theorem pack_any (sg m E : Nat) (e : Int) (hs : sg = 0 ∨ sg = 9223372036854775808) (h0 : 4503599627370496 ≤ m) (h1 : m < 9007199254740992) (he : e + 1075 = (E : Int)) (hE : E < 2047) (w : World) :
    Calls Tryz.prog 113 #[.int .u64 ((sg + m : Nat) : Int), .int .i64 e] w fun r w' => r = .returned (.tuple #[.float .f64 (sg + E * 4503599627370496 + (m - 4503599627370496)), .nilIface]) ∧ w' = w := by
  have e1 := pk_bit sg m hs h0 h1
  have e2 := pk_off sg m hs h0 h1
  have e3 := pk_or sg (m - 4503599627370496) E hs (by omega) (by omega)
  rw [show sg + (m - 4503599627370496) = sg + m - 4503599627370496 by omega] at e3
  have hr := frombits_run (sg + E * 4503599627370496 + (m - 4503599627370496)) w
  have q1 : ¬ (972 : Int) ≤ e := by omega
  have q5 : (1075 + e) * 4503599627370496 = ((E * 4503599627370496 : Nat) : Int) := by omega
  have q6 : 0 ≤ 1075 + e := by omega
  have q7 : 1075 + e < 2047 := by omega
  generalize ((sg + m - 4503599627370496 : Nat) : Int) = Y at *
  generalize ((E * 4503599627370496 : Nat) : Int) = Z at *
  generalize sg + E * 4503599627370496 + (m - 4503599627370496) = R at *
  generalize ((sg + m : Nat) : Int) = X at *
  have HR := Lib.hid hr
  clear hr hE h0 h1 hs he
  go_enter Tryz.func113, Tryz.ntmps113
  go_wp2_with fail
  rw [HR.out, Oper.upon_value]
  go_wp2_with fail
  go_ret2
  exact ⟨rfl, rfl⟩
theorem two_u64 (b : Bool) (w : World) : Calls Tryz.prog 81 #[.bool b] w fun e w' => e = .returned (.int .u64 (if b then 1 else 0)) ∧ w' = w := by
  cases b
  all_goals
    go_enter Tryz.func81, Tryz.ntmps81
    go_wp2
    go_ret
    exact ⟨rfl, rfl⟩
set_option maxRecDepth 100000 in
set_option maxHeartbeats 1600000 in
/-- uscale by a scaler without a second word, shift 8. -/
theorem uscale_any (x T b : Nat) (hx : x < 18446744073709551616) (hT : T < 18446744073709551616) (hT2 : T % 2 = 0) (w : World)
    (hc0 : w.cell? ⟨b, 0, none⟩ = some (.int .u64 (T : Int))) (hc1 : w.cell? ⟨b, 1, none⟩ = some (.int .u64 0)) (hc2 : w.cell? ⟨b, 2, none⟩ = some (.int .i64 8)) :
    Calls Tryz.prog 106 #[.int .u64 (x : Int), .pointer (some ⟨b, 0, none⟩)] w fun r w' => r = .returned (.int .u64 ((usc (x * T) : Nat) : Int)) ∧ Below w.heap.size w w' := by
  have HM := Lib.hid (fun w => bits_mul64 x T hx hT w)
  have HM0 := Lib.hid (fun w => bits_mul64 x 0 hx (by omega) w)
  have hev : x * T % 2 = 0 := by rw [Nat.mul_mod, hT2, Nat.mul_zero]
  have hP : x * T < 18446744073709551616 * 18446744073709551616 := Nat.mul_lt_mul'' hx hT
  generalize hPe : x * T = P at *
  have hu : usc P = if P / 18446744073709551616 % 256 ≠ 0 then P / 18446744073709551616 / 256 / 2 * 2 + 1 else if 1 < P % 18446744073709551616 then P / 18446744073709551616 / 256 / 2 * 2 + 1 else P / 18446744073709551616 / 256 := by
    unfold usc
    split <;> split <;> (try split) <;> omega
  rw [hu]
  obtain ⟨hi, hhi⟩ : ∃ hi, P / 18446744073709551616 = hi := ⟨_, rfl⟩
  obtain ⟨lo, hlo⟩ : ∃ lo, P % 18446744073709551616 = lo := ⟨_, rfl⟩
  rw [hhi, hlo] at HM
  rw [hhi, hlo]
  have b1 : hi < 18446744073709551616 := by omega
  have b2 : lo < 18446744073709551616 := by omega
  clear hu hPe hhi hlo hev hP hx hT hT2
  have e8 : bits .and .i64 8 63 = 8 := by decide
  have o1 := or_one (hi / 256) (by omega)
  have o0 := or_zero (hi / 256) (by omega)
  rw [show ((hi / 256 : Nat) : Int) = (hi : Int) / 256 by omega] at o1 o0
  have ez : x * 0 = 0 := Nat.mul_zero x
  rw [ez, show 0 / 18446744073709551616 = 0 by decide, show 0 % 18446744073709551616 = 0 by decide] at HM0
  by_cases h : hi % 256 ≠ 0
  · rw [if_pos h]
    have k1 : ((hi : Int) / 256 * 256 != (hi : Int)) = true := by rw [bne_iff_ne]; omega
    go_enter Tryz.func106, Tryz.ntmps106
    go_wp2_with fail
    refine (HM.out _).mono ?_
    rintro e w1 ⟨rfl, rfl⟩
    go_wp2_with fail
    go_ret
    exact ⟨rfl, Below.refl _ _⟩
  · rw [if_neg h]
    have k1 : ((hi : Int) / 256 * 256 != (hi : Int)) = false := by rw [bne_eq_false_iff_eq]; omega
    have k2 : ¬ (lo : Int) < 0 := by omega
    by_cases h2 : 1 < lo
    · rw [if_pos h2]
      have k3 : (1 : Int) < (lo : Int) := by omega
      go_enter Tryz.func106, Tryz.ntmps106
      go_wp2_with fail
      refine (HM.out _).mono ?_
      rintro e w1 ⟨rfl, rfl⟩
      go_wp2_with (first | (go_at_call 126; refine (HM0.out _).mono ?_; rintro e w2 ⟨rfl, rfl⟩) | go_in)
      go_quiet ((go_at_call 81; exact Calls.quiet_of_same (two_u64 _ _)))
      go_wp2_with fail
      go_ret
      exact ⟨rfl, ⟨rfl, rfl, rfl, Nat.le_refl _, fun _ _ => rfl⟩⟩
    · rw [if_neg h2]
      have k3 : decide ((1 : Int) < (lo : Int)) = false := decide_eq_false (by omega)
      go_enter Tryz.func106, Tryz.ntmps106
      go_wp2_with fail
      refine (HM.out _).mono ?_
      rintro e w1 ⟨rfl, rfl⟩
      go_wp2_with (first | (go_at_call 126; refine (HM0.out _).mono ?_; rintro e w2 ⟨rfl, rfl⟩) | go_in)
      go_quiet ((go_at_call 81; exact Calls.quiet_of_same (two_u64 _ _)))
      go_wp2_with fail
      go_ret
      exact ⟨rfl, ⟨rfl, rfl, rfl, Nat.le_refl _, fun _ _ => rfl⟩⟩
theorem lt_of_cell' {w : World} {b o : Nat} {u : Value} (h : w.cell? ⟨b, o, none⟩ = some u) : b < w.heap.size := by
  refine Decidable.byContradiction fun hn => ?_
  have hnone : w.heap[b]? = none := Array.getElem?_eq_none (by omega)
  have : w.cell? ⟨b, o, none⟩ = none := by simp [World.cell?, hnone]
  rw [this] at h
  cases h
theorem two_int (b : Bool) (w : World) : Calls Tryz.prog 107 #[.bool b] w fun e w' => e = .returned (.int .i64 (if b then 1 else 0)) ∧ w' = w := by
  cases b
  all_goals
    go_enter Tryz.func107, Tryz.ntmps107
    go_wp2
    go_ret
    exact ⟨rfl, rfl⟩
theorem two_int_t (w : World) : Calls Tryz.prog 107 #[.bool true] w fun e w' => e = .returned (.int .i64 1) ∧ w' = w := two_int true w
theorem two_int_f (w : World) : Calls Tryz.prog 107 #[.bool false] w fun e w' => e = .returned (.int .i64 0) ∧ w' = w := two_int false w
theorem unmin53 (w : World) : Calls Tryz.prog 108 #[.int .u64 9007199254740992] w fun e w' => e = .returned (.int .u64 36028797018963966) ∧ w' = w := by
  go_enter Tryz.func108, Tryz.ntmps108
  go_wp2
  go_ret
  exact ⟨rfl, rfl⟩
theorem round_any (u : Nat) (hu : u < 72057594037927936) (w : World) : Calls Tryz.prog 110 #[.int .u64 (u : Int)] w fun e w' => e = .returned (.int .u64 ((rnd u : Nat) : Int)) ∧ w' = w := by
  have a1 := and_one (u / 4) (by omega)
  rw [show ((u / 4 : Nat) : Int) = (u : Int) / 4 by omega] at a1
  have e1 : ((rnd u : Nat) : Int) = ((u : Int) + 1 + ((u / 4 % 2 : Nat) : Int)) / 4 := by unfold rnd; omega
  have b0 : (u : Int) < 72057594037927936 := by omega
  have b1 : ((u / 4 % 2 : Nat) : Int) < 2 := by omega
  have b2 : 0 ≤ ((u / 4 % 2 : Nat) : Int) := by omega
  rw [e1]
  generalize ((u / 4 % 2 : Nat) : Int) = r at *
  clear e1 hu
  go_enter Tryz.func110, Tryz.ntmps110
  go_wp2
  go_ret
  exact ⟨rfl, rfl⟩
end Go.Proofs.YtdbbmknjldapbaaGreatDoor
