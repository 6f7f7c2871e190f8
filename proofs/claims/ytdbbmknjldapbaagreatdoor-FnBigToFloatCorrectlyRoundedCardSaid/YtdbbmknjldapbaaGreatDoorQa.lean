/-
  Words divided by 10^19 (package bigall: reciprocalWord, divWW, bitsDiv), walked.
-/
import Derived.Test.YtdbbmknjldapbaaGreatDoorUw
import Derived.Test.YtdbbmknjldapbaaGreatDoorUb
import Derived.Laws.Externs
import Derived.RegionTactic
import Derived.Test.YtdbbmknjldapbaaGreatDoorAid
import Derived.Test.YtdbbmknjldapbaaGreatDoorSays
import Derived.WalkSpells
import Derived.Handy
import Derived.Lib.Hide
import Derived.Deep.QuietTactic
import Derived.BigQuiet
namespace Go.Proofs.YtdbbmknjldapbaaGreatDoor
set_option linter.unusedVariables false
set_option linter.unusedSimpArgs false
open Go.RowKit Go.Lib

theorem add64_run (x y c : Nat) (hc : c ≤ 1) (w : World) : (callFunc 58 #[.int .u64 (x : Int), .int .u64 (y : Int), .int .u64 (c : Int)]).run Tryz.prog w =
    .ok (.value (.tuple #[.int .u64 (((x + y + c) % 18446744073709551616 : Nat) : Int), .int .u64 (((x + y + c) / 18446744073709551616 : Nat) : Int)])) w := by
  rw [run_callFunc_extern Tryz.func58 (by kernel_rfl) (by kernel_rfl) (by kernel_rfl) (e := fun args => do
    let (x, y, c) ← Extern.MathBitsCarry.three "Add64" args
    pure (Extern.MathBitsCarry.pair ((x + y + c) % Extern.MathBitsCarry.m64) ((x + y + c) / Extern.MathBitsCarry.m64))) (by kernel_rfl)]
  have hc' : c = 0 ∨ c = 1 := by omega
  rcases hc' with rfl | rfl <;> rfl
theorem sub64_run (x y c : Nat) (hc : c ≤ 1) (w : World) : (callFunc 56 #[.int .u64 (x : Int), .int .u64 (y : Int), .int .u64 (c : Int)]).run Tryz.prog w =
    .ok (.value (.tuple #[.int .u64 (((x + 18446744073709551616 - y - c) % 18446744073709551616 : Nat) : Int), .int .u64 (((if x < y + c then 1 else 0) : Nat) : Int)])) w := by
  rw [run_callFunc_extern Tryz.func56 (by kernel_rfl) (by kernel_rfl) (by kernel_rfl) (e := fun args => do
    let (x, y, b) ← Extern.MathBitsCarry.three "Sub64" args
    pure (Extern.MathBitsCarry.pair ((x + Extern.MathBitsCarry.m64 - y - b) % Extern.MathBitsCarry.m64) (if x < y + b then 1 else 0))) (by kernel_rfl)]
  have hc' : c = 0 ∨ c = 1 := by omega
  rcases hc' with rfl | rfl <;> rfl
set_option maxRecDepth 100000 in
theorem bits_add (x y c s t : Nat) (hc : c ≤ 1) (hs : (x + y + c) % 18446744073709551616 = s) (ht : (x + y + c) / 18446744073709551616 = t) (w : World) :
    Calls Tryz.prog 48 #[.int .u64 (x : Int), .int .u64 (y : Int), .int .u64 (c : Int)] w fun e w' => e = .returned (.tuple #[.int .u64 (s : Int), .int .u64 (t : Int)]) ∧ w' = w := by
  have ha := Lib.hid (fun w => add64_run x y c hc w)
  rw [hs, ht] at ha
  clear hc hs ht
  go_enter Tryz.func48, Tryz.ntmps48
  go_wp2_with fail
  rw [ha.out]
  rw [Oper.upon_value]
  go_wp2_with fail
  go_ret2
  exact ⟨rfl, rfl⟩
set_option maxRecDepth 100000 in
theorem bits_sub (x y c s t : Nat) (hc : c ≤ 1) (hs : (x + 18446744073709551616 - y - c) % 18446744073709551616 = s) (ht : (if x < y + c then 1 else 0) = t) (w : World) :
    Calls Tryz.prog 46 #[.int .u64 (x : Int), .int .u64 (y : Int), .int .u64 (c : Int)] w fun e w' => e = .returned (.tuple #[.int .u64 (s : Int), .int .u64 (t : Int)]) ∧ w' = w := by
  have ha := Lib.hid (fun w => sub64_run x y c hc w)
  rw [hs, ht] at ha
  clear hc hs ht
  go_enter Tryz.func46, Tryz.ntmps46
  go_wp2_with fail
  rw [ha.out]
  rw [Oper.upon_value]
  go_wp2_with fail
  go_ret2
  exact ⟨rfl, rfl⟩
theorem bits_mul (x y h l : Nat) (hx : x < 18446744073709551616) (hy : y < 18446744073709551616) (hh : x * y / 18446744073709551616 = h) (hl : x * y % 18446744073709551616 = l) (w : World) :
    Calls Tryz.prog 145 #[.int .u64 x, .int .u64 y] w fun e w' => e = .returned (.tuple #[.int .u64 (h : Int), .int .u64 (l : Int)]) ∧ w' = w := by
  have H := Lib.hid (fun w => bits_mul64 x y hx hy w)
  rw [hh, hl] at H
  clear hx hy hh hl
  go_enter Tryz.func145, Tryz.ntmps145
  go_wp2_with fail
  refine (H.out _).mono ?_
  rintro e w1 ⟨rfl, rfl⟩
  go_wp2_with fail
  go_ret2
  exact ⟨rfl, rfl⟩
theorem bits_len (x n : Nat) (hx : x < 18446744073709551616) (hn : Lib.bitLen x = n) (w : World) :
    Calls Tryz.prog 86 #[.int .u64 (x : Int)] w fun e w' => e = .returned (.int .i64 (n : Int)) ∧ w' = w := by
  have HL := Lib.hid (fun w => Tryz.bits_Len64 (x : Int) w (by omega) (by omega))
  rw [Int.toNat_natCast, hn] at HL
  clear hx hn
  go_enter Tryz.func86, Tryz.ntmps86
  go_wp2_with fail
  refine (HL.out _).mono ?_
  rintro e w1 ⟨rfl, rfl⟩
  go_wp2_with fail
  go_ret
  exact ⟨rfl, rfl⟩
theorem lz_ten (w : World) : Calls Tryz.prog 175 #[.int .u64 10000000000000000000] w fun e w' => e = .returned (.int .i64 0) ∧ w' = w := by
  have HL := Lib.hid (fun w => bits_len 10000000000000000000 64 (by decide) (blen_of _ 64 (by decide) (by decide) (by decide) (by decide)) w)
  go_enter Tryz.func175, Tryz.ntmps175
  go_wp2_with fail
  refine (HL.out _).mono ?_
  rintro e w1 ⟨rfl, rfl⟩
  go_wp2_with fail
  go_ret
  exact ⟨rfl, rfl⟩
theorem lz64_ten (w : World) : Calls Tryz.prog 192 #[.int .u64 10000000000000000000] w fun e w' => e = .returned (.int .i64 0) ∧ w' = w := by
  have HL := Lib.hid (fun w => Tryz.bits_Len64 10000000000000000000 w (by decide) (by decide))
  rw [show Lib.bitLen (10000000000000000000 : Int).toNat = 64 from blen_of 10000000000000000000 64 (by decide) (by decide) (by decide) (by decide)] at HL
  go_enter Tryz.func192, Tryz.ntmps192
  go_wp2_with fail
  refine (HL.out _).mono ?_
  rintro e w1 ⟨rfl, rfl⟩
  go_wp2_with fail
  go_ret
  exact ⟨rfl, rfl⟩
theorem nlz_ten (w : World) : Calls Tryz.prog 143 #[.int .u64 10000000000000000000] w fun e w' => e = .returned (.int .u64 0) ∧ w' = w := by
  have HL := Lib.hid lz_ten
  go_enter Tryz.func143, Tryz.ntmps143
  go_wp2_with fail
  refine (HL.out _).mono ?_
  rintro e w1 ⟨rfl, rfl⟩
  go_wp2_with fail
  go_ret
  exact ⟨rfl, rfl⟩
set_option maxRecDepth 100000 in
set_option maxHeartbeats 1600000 in
theorem div64_ten (w : World) : Calls Tryz.prog 187 #[.int .u64 8446744073709551615, .int .u64 18446744073709551615, .int .u64 10000000000000000000] w fun e w' => ∃ r, e = .returned (.tuple #[.int .u64 15581492618384294730, .int .u64 r]) ∧ w' = w := by
  have HL := Lib.hid lz64_ten
  have b1 : bits .and .u64 10000000000000000000 4294967295 = 2313682944 := by decide
  have b2 : bits .or .u64 8446744073709551615 0 = 8446744073709551615 := by decide
  have b3 : bits .and .u64 18446744073709551615 4294967295 = 4294967295 := by decide
  go_enter Tryz.func187, Tryz.ntmps187
  go_wp2_with fail
  refine (HL.out _).mono ?_
  rintro e w1 ⟨rfl, rfl⟩
  go_wp2_with fail
  refine wp_loop_rounds 3 ?_
  rw [rounds_succ]
  go_wp2_with fail
  rw [rounds_succ]
  go_wp2_with fail
  refine wp_loop_rounds 3 ?_
  rw [rounds_succ]
  go_wp2_with fail
  go_ret2
  exact ⟨_, rfl, rfl⟩
theorem div_ten (w : World) : Calls Tryz.prog 157 #[.int .u64 8446744073709551615, .int .u64 18446744073709551615, .int .u64 10000000000000000000] w fun e w' => ∃ r, e = .returned (.tuple #[.int .u64 15581492618384294730, .int .u64 r]) ∧ w' = w := by
  have HL := Lib.hid div64_ten
  go_enter Tryz.func157, Tryz.ntmps157
  go_wp2_with fail
  refine (HL.out _).mono ?_
  rintro e w1 ⟨r, rfl, rfl⟩
  go_wp2_with fail
  go_ret2
  exact ⟨_, rfl, rfl⟩
theorem recip_ten (w : World) : Calls Tryz.prog 158 #[.int .u64 10000000000000000000] w fun e w' => e = .returned (.int .u64 15581492618384294730) ∧ w' = w := by
  have HL := Lib.hid div_ten
  have HN := Lib.hid nlz_ten
  go_enter Tryz.func158, Tryz.ntmps158
  go_wp2_with fail
  refine (HN.out _).mono ?_
  rintro e w1 ⟨rfl, rfl⟩
  go_wp2_with fail

  refine (HL.out _).mono ?_
  rintro e w1 ⟨r, rfl, rfl⟩
  go_wp2_with fail
  go_ret
  exact ⟨rfl, rfl⟩
/-- A word divided by 10^19. -/
theorem div64_word (x q r : Nat) (hx : x < 18446744073709551616) (hq : x / 10000000000000000000 = q) (hr : x % 10000000000000000000 = r) (w : World) : Calls Tryz.prog 187 #[.int .u64 0, .int .u64 (x : Int), .int .u64 10000000000000000000] w fun e w' => e = .returned (.tuple #[.int .u64 (q : Int), .int .u64 (r : Int)]) ∧ ∃ k, w' = w.drewN k := by
  have e1 : (x : Int).tdiv 10000000000000000000 = (q : Int) := by rw [Int.tdiv_eq_ediv_of_nonneg (by omega)]; omega
  have e2 : (x : Int).tmod 10000000000000000000 = (r : Int) := by rw [Int.tmod_eq_emod_of_nonneg (by omega)]; omega
  have e3 : (x : Int) / 10000000000000000000 = (q : Int) := by omega
  have e4 : (x : Int) % 10000000000000000000 = (r : Int) := by omega
  have e5 : IntKind.u64.wrap (q : Int) = (q : Int) := by rw [IntKind.wrap_u64]; omega
  have e6 : IntKind.u64.wrap (r : Int) = (r : Int) := by rw [IntKind.wrap_u64]; omega
  have e7 : IntKind.u64.wrap (x : Int) = (x : Int) := by rw [IntKind.wrap_u64]; omega
  clear hq hr hx
  go_enter Tryz.func187, Tryz.ntmps187
  go_wp2_with fail
  go_region
  go_wp2_with fail
  go_ret2
  exact ⟨rfl, 1, rfl⟩
theorem div_word (x q r : Nat) (hx : x < 18446744073709551616) (hq : x / 10000000000000000000 = q) (hr : x % 10000000000000000000 = r) (w : World) : Calls Tryz.prog 157 #[.int .u64 0, .int .u64 (x : Int), .int .u64 10000000000000000000] w fun e w' => e = .returned (.tuple #[.int .u64 (q : Int), .int .u64 (r : Int)]) ∧ ∃ k, w' = w.drewN k := by
  have H := Lib.hid (fun w => div64_word x q r hx hq hr w)
  clear hq hr hx
  go_enter Tryz.func157, Tryz.ntmps157
  go_wp2_with fail
  refine (H.out _).mono ?_
  rintro e w1 ⟨rfl, k, rfl⟩
  go_wp2_with fail
  go_ret2
  exact ⟨rfl, k, rfl⟩
theorem div_est (x1 x0 q : Nat) (h1 : x1 < 10000000000000000000) (h0 : x0 < 18446744073709551616) (hq : q = (x1 * 34028236692093846346 + x0) / 18446744073709551616) :
    q < 18446744073709551616 ∧ q * 10000000000000000000 ≤ x1 * 18446744073709551616 + x0 ∧ x1 * 18446744073709551616 + x0 < q * 10000000000000000000 + 28446744073709551616 := by
  omega
/-- The estimate's remainder. -/
theorem div_rest (x1 x0 t1 t0 s0 c qq dq1 dq0 r0 b r1 : Nat) (h1 : x1 < 10000000000000000000) (h0 : x0 < 18446744073709551616)
    (e1 : 15581492618384294730 * x1 / 18446744073709551616 = t1) (e2 : 15581492618384294730 * x1 % 18446744073709551616 = t0) (e3 : (t0 + x0 + 0) / 18446744073709551616 = c)
    (e4 : (t1 + x1 + c) % 18446744073709551616 = qq) (e5 : 10000000000000000000 * qq / 18446744073709551616 = dq1) (e6 : 10000000000000000000 * qq % 18446744073709551616 = dq0)
    (e7 : (x0 + 18446744073709551616 - dq0 - 0) % 18446744073709551616 = r0) (e8 : (if x0 < dq0 + 0 then 1 else 0) = b) (e9 : (x1 + 18446744073709551616 - dq1 - b) % 18446744073709551616 = r1) :
    qq * 10000000000000000000 + (r1 * 18446744073709551616 + r0) = x1 * 18446744073709551616 + x0 ∧ r1 ≤ 1 ∧ r1 * 18446744073709551616 + r0 < 28446744073709551616 ∧ r0 < 18446744073709551616 := by
  have hq : t1 + x1 + c = (x1 * 34028236692093846346 + x0) / 18446744073709551616 := by omega
  obtain ⟨d1, d2, d3⟩ := div_est x1 x0 _ h1 h0 hq
  have hq2 : t1 + x1 + c = qq := by omega
  rw [hq2] at d1 d2 d3
  clear hq hq2 e1 e2 e3 e4
  have hd : qq * 10000000000000000000 = dq1 * 18446744073709551616 + dq0 := by omega
  have hd0 : dq0 < 18446744073709551616 := by omega
  rw [hd] at d2 d3 ⊢
  clear e5 e6 hd d1
  split at e8
  · subst e8
    have a1 : r0 = x0 + 18446744073709551616 - dq0 := by omega
    have a2 : dq1 + 1 ≤ x1 := by omega
    have a3 : r1 = x1 - dq1 - 1 := by omega
    omega
  · subst e8
    have a1 : r0 = x0 - dq0 := by omega
    have a2 : dq1 ≤ x1 := by omega
    have a3 : r1 = x1 - dq1 := by omega
    omega
theorem ww_end (X qq R q r a : Nat) (hX : qq * 10000000000000000000 + R = X) (hq : X / 10000000000000000000 = q) (hr : X % 10000000000000000000 = r) (ha : a * 10000000000000000000 ≤ R) (hb : R < (a + 1) * 10000000000000000000) : q = qq + a ∧ r = R - a * 10000000000000000000 := by
  omega
end Go.Proofs.YtdbbmknjldapbaaGreatDoor
/-
  Two words divided by 10^19 (package bigall, divWW), walked.
-/
namespace Go.Proofs.YtdbbmknjldapbaaGreatDoor
set_option linter.unusedVariables false
set_option linter.unusedSimpArgs false
open Go.RowKit Go.Lib

set_option maxRecDepth 100000 in
set_option maxHeartbeats 3200000 in
theorem ww_ten (x1 x0 q r : Nat) (h1 : x1 < 10000000000000000000) (h0 : x0 < 18446744073709551616) (hq : (x1 * 18446744073709551616 + x0) / 10000000000000000000 = q) (hr : (x1 * 18446744073709551616 + x0) % 10000000000000000000 = r) (w : World) :
    Calls Tryz.prog 159 #[.int .u64 (x1 : Int), .int .u64 (x0 : Int), .int .u64 10000000000000000000, .int .u64 15581492618384294730] w fun e w' => e = .returned (.tuple #[.int .u64 (q : Int), .int .u64 (r : Int)]) ∧ w' = w := by
  obtain ⟨t1, e1⟩ : ∃ t1, 15581492618384294730 * x1 / 18446744073709551616 = t1 := ⟨_, rfl⟩
  obtain ⟨t0, e2⟩ : ∃ t0, 15581492618384294730 * x1 % 18446744073709551616 = t0 := ⟨_, rfl⟩
  obtain ⟨c, e3⟩ : ∃ c, (t0 + x0 + 0) / 18446744073709551616 = c := ⟨_, rfl⟩
  obtain ⟨s0, e3'⟩ : ∃ s0, (t0 + x0 + 0) % 18446744073709551616 = s0 := ⟨_, rfl⟩
  obtain ⟨qq, e4⟩ : ∃ qq, (t1 + x1 + c) % 18446744073709551616 = qq := ⟨_, rfl⟩
  obtain ⟨c2, e4'⟩ : ∃ c2, (t1 + x1 + c) / 18446744073709551616 = c2 := ⟨_, rfl⟩
  obtain ⟨dq1, e5⟩ : ∃ dq1, 10000000000000000000 * qq / 18446744073709551616 = dq1 := ⟨_, rfl⟩
  obtain ⟨dq0, e6⟩ : ∃ dq0, 10000000000000000000 * qq % 18446744073709551616 = dq0 := ⟨_, rfl⟩
  obtain ⟨r0, e7⟩ : ∃ r0, (x0 + 18446744073709551616 - dq0 - 0) % 18446744073709551616 = r0 := ⟨_, rfl⟩
  obtain ⟨b, e8⟩ : ∃ b, (if x0 < dq0 + 0 then 1 else 0) = b := ⟨_, rfl⟩
  obtain ⟨r1, e9⟩ : ∃ r1, (x1 + 18446744073709551616 - dq1 - b) % 18446744073709551616 = r1 := ⟨_, rfl⟩
  obtain ⟨b2, e9'⟩ : ∃ b2, (if x1 < dq1 + b then 1 else 0) = b2 := ⟨_, rfl⟩
  obtain ⟨k1, k2, k3, k4⟩ := div_rest x1 x0 t1 t0 s0 c qq dq1 dq0 r0 b r1 h1 h0 e1 e2 e3 e4 e5 e6 e7 e8 e9
  have HM1 := Lib.hid (fun w => bits_mul 15581492618384294730 x1 t1 t0 (by decide) (by omega) e1 e2 w)
  have HA1 := Lib.hid (fun w => bits_add t0 x0 0 s0 c (by decide) e3' e3 w)
  have HA2 := Lib.hid (fun w => bits_add t1 x1 c qq c2 (by omega) e4 e4' w)
  have HM2 := Lib.hid (fun w => bits_mul 10000000000000000000 qq dq1 dq0 (by decide) (by omega) e5 e6 w)
  have HS1 := Lib.hid (fun w => bits_sub x0 dq0 0 r0 b (by decide) e7 e8 w)
  have hb : b ≤ 1 := by split at e8 <;> omega
  have HS2 := Lib.hid (fun w => bits_sub x1 dq1 b r1 b2 hb e9 e9' w)
  have HN := Lib.hid nlz_ten
  have hqM : q < 18446744073709551616 := by omega
  have hrM : r < 10000000000000000000 := by omega
  have w1 : IntKind.u64.wrap (q : Int) = (q : Int) := by rw [IntKind.wrap_u64]; omega
  have w2 : IntKind.u64.wrap (r : Int) = (r : Int) := by rw [IntKind.wrap_u64]; omega
  have w3 : IntKind.u64.wrap (x1 : Int) = (x1 : Int) := by rw [IntKind.wrap_u64]; omega
  have w4 : IntKind.u64.wrap (x0 : Int) = (x0 : Int) := by rw [IntKind.wrap_u64]; omega
  clear e1 e2 e3 e3' e4 e4' e5 e6 e7 e8 e9 e9' hb
  have E : ∀ a : Nat, a * 10000000000000000000 ≤ r1 * 18446744073709551616 + r0 → r1 * 18446744073709551616 + r0 < (a + 1) * 10000000000000000000 → q = qq + a ∧ r = r1 * 18446744073709551616 + r0 - a * 10000000000000000000 :=
    fun a ha hb => ww_end _ qq _ q r a k1 hq hr ha hb
  clear hq hr h1 h0 k1
  have hr1 : r1 = 0 ∨ r1 = 1 := by omega
  rcases hr1 with hr1 | hr1
  · rw [hr1] at HS2
    rw [hr1, Nat.zero_mul, Nat.zero_add] at E k3
    clear k2 hr1
    by_cases hge : 10000000000000000000 ≤ r0
    · obtain ⟨f1, f2⟩ := E 1 (by omega) (by omega)
      have g0 : (10000000000000000000 : Int) ≤ (r0 : Int) := by omega
      have g1 : (qq : Int) + 1 = (q : Int) := by omega
      have g2 : (r0 : Int) - 10000000000000000000 = (r : Int) := by omega
      clear f1 f2 E hge k3 k4 hqM hrM
      go_enter Tryz.func159, Tryz.ntmps159
      go_wp2_with fail
      refine (HN.out _).mono ?_
      rintro e w1 ⟨rfl, rfl⟩
      clear HN
      go_wp2_with fail
      refine (HM1.out _).mono ?_
      rintro e w1 ⟨rfl, rfl⟩
      clear HM1
      go_wp2_with fail
      refine (HA1.out _).mono ?_
      rintro e w1 ⟨rfl, rfl⟩
      clear HA1
      go_wp2_with fail
      refine (HA2.out _).mono ?_
      rintro e w1 ⟨rfl, rfl⟩
      clear HA2
      go_wp2_with fail
      refine (HM2.out _).mono ?_
      rintro e w1 ⟨rfl, rfl⟩
      clear HM2
      go_wp2_with fail
      refine (HS1.out _).mono ?_
      rintro e w1 ⟨rfl, rfl⟩
      clear HS1
      go_wp2_with fail
      refine (HS2.out _).mono ?_
      rintro e w1 ⟨rfl, rfl⟩
      clear HS2
      go_wp2_with fail
      go_ret2
      exact ⟨rfl, rfl⟩
    · obtain ⟨f1, f2⟩ := E 0 (by omega) (by omega)
      have g0 : decide ((10000000000000000000 : Int) ≤ (r0 : Int)) = false := decide_eq_false (by omega)
      have g1 : q = qq := by omega
      have g2 : r = r0 := by omega
      subst g1 g2
      clear f1 f2 E hge k3 k4 hqM hrM
      go_enter Tryz.func159, Tryz.ntmps159
      go_wp2_with fail
      refine (HN.out _).mono ?_
      rintro e w1 ⟨rfl, rfl⟩
      clear HN
      go_wp2_with fail
      refine (HM1.out _).mono ?_
      rintro e w1 ⟨rfl, rfl⟩
      clear HM1
      go_wp2_with fail
      refine (HA1.out _).mono ?_
      rintro e w1 ⟨rfl, rfl⟩
      clear HA1
      go_wp2_with fail
      refine (HA2.out _).mono ?_
      rintro e w1 ⟨rfl, rfl⟩
      clear HA2
      go_wp2_with fail
      refine (HM2.out _).mono ?_
      rintro e w1 ⟨rfl, rfl⟩
      clear HM2
      go_wp2_with fail
      refine (HS1.out _).mono ?_
      rintro e w1 ⟨rfl, rfl⟩
      clear HS1
      go_wp2_with fail
      refine (HS2.out _).mono ?_
      rintro e w1 ⟨rfl, rfl⟩
      clear HS2
      go_wp2_with fail
      go_ret2
      exact ⟨rfl, rfl⟩
  · rw [hr1] at HS2
    rw [hr1, Nat.one_mul] at E k3
    clear k2 hr1
    obtain ⟨ra, hra⟩ : ∃ ra, 18446744073709551616 + r0 - 10000000000000000000 = ra := ⟨_, rfl⟩
    obtain ⟨qa, hqa⟩ : ∃ qa, qq + 1 = qa := ⟨_, rfl⟩
    have v1 : IntKind.u64.wrap ((r0 : Int) - 10000000000000000000) = (ra : Int) := by rw [IntKind.wrap_u64]; omega
    by_cases hge : 10000000000000000000 ≤ ra
    · obtain ⟨f1, f2⟩ := E 2 (by omega) (by omega)
      have v2 : IntKind.u64.wrap ((qq : Int) + 1) = (qa : Int) := by rw [IntKind.wrap_u64]; omega
      have g0 : (10000000000000000000 : Int) ≤ (ra : Int) := by omega
      have g1 : (qa : Int) + 1 = (q : Int) := by omega
      have g2 : (ra : Int) - 10000000000000000000 = (r : Int) := by omega
      clear f1 f2 E hge k3 k4 hqM hrM hra hqa
      go_enter Tryz.func159, Tryz.ntmps159
      go_wp2_with fail
      refine (HN.out _).mono ?_
      rintro e w1 ⟨rfl, rfl⟩
      clear HN
      go_wp2_with fail
      refine (HM1.out _).mono ?_
      rintro e w1 ⟨rfl, rfl⟩
      clear HM1
      go_wp2_with fail
      refine (HA1.out _).mono ?_
      rintro e w1 ⟨rfl, rfl⟩
      clear HA1
      go_wp2_with fail
      refine (HA2.out _).mono ?_
      rintro e w1 ⟨rfl, rfl⟩
      clear HA2
      go_wp2_with fail
      refine (HM2.out _).mono ?_
      rintro e w1 ⟨rfl, rfl⟩
      clear HM2
      go_wp2_with fail
      refine (HS1.out _).mono ?_
      rintro e w1 ⟨rfl, rfl⟩
      clear HS1
      go_wp2_with fail
      refine (HS2.out _).mono ?_
      rintro e w1 ⟨rfl, rfl⟩
      clear HS2
      go_wp2_with fail
      go_ret2
      exact ⟨rfl, rfl⟩
    · obtain ⟨f1, f2⟩ := E 1 (by omega) (by omega)
      have v2 : IntKind.u64.wrap ((qq : Int) + 1) = (qa : Int) := by rw [IntKind.wrap_u64]; omega
      have g0 : decide ((10000000000000000000 : Int) ≤ (ra : Int)) = false := decide_eq_false (by omega)
      have g1 : q = qa := by omega
      have g2 : r = ra := by omega
      subst g1 g2
      clear f1 f2 E hge k3 k4 hqM hrM hra hqa
      go_enter Tryz.func159, Tryz.ntmps159
      go_wp2_with fail
      refine (HN.out _).mono ?_
      rintro e w1 ⟨rfl, rfl⟩
      clear HN
      go_wp2_with fail
      refine (HM1.out _).mono ?_
      rintro e w1 ⟨rfl, rfl⟩
      clear HM1
      go_wp2_with fail
      refine (HA1.out _).mono ?_
      rintro e w1 ⟨rfl, rfl⟩
      clear HA1
      go_wp2_with fail
      refine (HA2.out _).mono ?_
      rintro e w1 ⟨rfl, rfl⟩
      clear HA2
      go_wp2_with fail
      refine (HM2.out _).mono ?_
      rintro e w1 ⟨rfl, rfl⟩
      clear HM2
      go_wp2_with fail
      refine (HS1.out _).mono ?_
      rintro e w1 ⟨rfl, rfl⟩
      clear HS1
      go_wp2_with fail
      refine (HS2.out _).mono ?_
      rintro e w1 ⟨rfl, rfl⟩
      clear HS2
      go_wp2_with fail
      go_ret2
      exact ⟨rfl, rfl⟩
end Go.Proofs.YtdbbmknjldapbaaGreatDoor
/-
  Natural numbers of one and two words divided by 10^19 in place (package bigall, divWVW, divW, norm), walked.
-/
namespace Go.Proofs.YtdbbmknjldapbaaGreatDoor
set_option linter.unusedVariables false
set_option linter.unusedSimpArgs false
open Go.RowKit Go.Lib

/-- One word in block G. -/
structure Wd1 (w0 w : World) (G lo : Nat) : Prop where
  only : Only (fun k => k = G) w0 w
  c0 : w.cell? ⟨G, 0, none⟩ = some (.int .u64 (lo : Int))
  free : ∀ j, w.frozen? ⟨G, j, none⟩ = false
/-- Two words in block G. -/
structure Wd2 (w0 w : World) (G lo hi : Nat) : Prop where
  one : Wd1 w0 w G lo
  c1 : w.cell? ⟨G, 1, none⟩ = some (.int .u64 (hi : Int))
theorem Wd1.here {w0 w : World} {G lo : Nat} (h : Wd1 w0 w G lo) : Wd1 w w G lo := ⟨Only.refl _ _, h.c0, h.free⟩
theorem Wd1.set {w0 w : World} {G lo : Nat} (h : Wd1 w0 w G lo) (n : Nat) : Wd1 w0 (w.setCell ⟨G, 0, none⟩ (.int .u64 (n : Int))) G n := by
  have h0 := h.c0
  have hf := h.free
  exact ⟨h.only.setCell rfl _, by rw [World.cell?_setCell_same _ _ _ h0], fun j => by have := hf j; go_simp⟩
theorem Wd1.drewN {w0 w : World} {G lo : Nat} (h : Wd1 w0 w G lo) (n : Nat) : Wd1 w0 (w.drewN n) G lo := ⟨h.only.drewN n, h.c0, h.free⟩
theorem Wd2.set {w0 w : World} {G lo hi : Nat} (h : Wd2 w0 w G lo hi) (m n : Nat) : Wd2 w0 ((w.setCell ⟨G, 1, none⟩ (.int .u64 (m : Int))).setCell ⟨G, 0, none⟩ (.int .u64 (n : Int))) G n m := by
  have h0 := h.one.c0
  have h1 := h.c1
  have hf := h.one.free
  refine ⟨⟨(h.one.only.setCell rfl _).setCell rfl _, ?_, fun j => ?_⟩, ?_⟩
  · rw [World.cell?_setCell_same _ _ _ (u := .int .u64 (lo : Int))]
    go_simp
  · have := hf j
    go_simp
  · go_simp
theorem natMake_fit (a : Addr) (l n c : Nat) (hn : n ≤ c) (w : World) :
    Calls Tryz.prog 29 #[.slice (some a) l c, .int .i64 (n : Int)] w fun e w' => e = .returned (.slice (some a) n c) ∧ w' = w := by
  have h1 : (n : Int) ≤ (c : Int) := by omega
  go_enter Tryz.func29, Tryz.ntmps29
  go_wp2_with fail
  go_ret
  exact ⟨rfl, rfl⟩
set_option maxRecDepth 100000 in
set_option maxHeartbeats 1600000 in
theorem wvw_one (G c cx lo q r : Nat) (hx : lo < 18446744073709551616) (hq : lo / 10000000000000000000 = q) (hr : lo % 10000000000000000000 = r) (w : World) (h : Wd1 w w G lo) :
    Calls Tryz.prog 125 #[.slice (some ⟨G, 0, none⟩) 1 c, .int .u64 0, .slice (some ⟨G, 0, none⟩) 1 cx, .int .u64 10000000000000000000] w fun e w' => e = .returned (.int .u64 (r : Int)) ∧ Wd1 w w' G q := by
  have H := Lib.hid (fun w => div_word lo q r hx hq hr w)
  have w1 : IntKind.u64.wrap (q : Int) = (q : Int) := by rw [IntKind.wrap_u64]; omega
  have w2 : IntKind.u64.wrap (r : Int) = (r : Int) := by rw [IntKind.wrap_u64]; omega
  have w3 : IntKind.u64.wrap (lo : Int) = (lo : Int) := by rw [IntKind.wrap_u64]; omega
  have c0 := h.c0
  have f0 := h.free 0
  have HW := Lib.hid h
  clear hx hq hr h
  go_enter Tryz.func125, Tryz.ntmps125
  go_wp2_with fail
  refine (H.out _).mono ?_
  rintro e w1 ⟨rfl, k, rfl⟩
  go_wp2_with fail
  go_ret
  exact ⟨rfl, by first | exact (HW.out.drewN k).set q | exact (HW.out.set q).drewN k⟩
set_option maxRecDepth 100000 in
set_option maxHeartbeats 1600000 in
theorem wvw_two (G c cx lo hi q1 r1 q0 r : Nat) (hl : lo < 18446744073709551616) (hh : hi < 18446744073709551616) (hq1 : (0 * 18446744073709551616 + hi) / 10000000000000000000 = q1) (hr1 : (0 * 18446744073709551616 + hi) % 10000000000000000000 = r1)
    (hq0 : (r1 * 18446744073709551616 + lo) / 10000000000000000000 = q0) (hr : (r1 * 18446744073709551616 + lo) % 10000000000000000000 = r) (w : World) (h : Wd2 w w G lo hi) :
    Calls Tryz.prog 125 #[.slice (some ⟨G, 0, none⟩) 2 c, .int .u64 0, .slice (some ⟨G, 0, none⟩) 2 cx, .int .u64 10000000000000000000] w fun e w' => e = .returned (.int .u64 (r : Int)) ∧ Wd2 w w' G q0 q1 := by
  have HN := Lib.hid recip_ten
  have HD1 := Lib.hid (fun w => ww_ten 0 hi q1 r1 (by decide) hh hq1 hr1 w)
  rw [show ((0 : Nat) : Int) = 0 from rfl] at HD1
  have HD0 := Lib.hid (fun w => ww_ten r1 lo q0 r (by omega) hl hq0 hr w)
  have c0 := h.one.c0
  have c1 := h.c1
  have f0 := h.one.free 0
  have f1 := h.one.free 1
  have HW := Lib.hid h
  clear hl hh hq1 hr1 hq0 hr h
  go_enter Tryz.func125, Tryz.ntmps125
  go_wp2_with fail
  refine (HN.out _).mono ?_
  rintro e w1 ⟨rfl, rfl⟩
  go_wp2_with fail
  refine wp_loop_rounds 3 ?_
  rw [rounds_succ]
  go_wp2_with fail
  refine (HD1.out _).mono ?_
  rintro e w2 ⟨rfl, rfl⟩
  go_wp2_with fail
  rw [rounds_succ]
  go_wp2_with fail
  refine (HD0.out _).mono ?_
  rintro e w3 ⟨rfl, rfl⟩
  go_wp2_with fail
  rw [rounds_succ]
  go_wp2_with fail
  go_ret
  exact ⟨rfl, HW.out.set q1 q0⟩
set_option maxHeartbeats 800000 in
/-- norm: the zeros at the top go. -/
theorem norm2_two (G c h : Nat) (w : World) (h1 : w.cell? ⟨G, 1, none⟩ = some (.int .u64 (h : Int))) (hh : ((h : Int) == 0) = false) (hc : 2 ≤ c) :
    Calls Tryz.prog 34 #[.slice (some ⟨G, 0, none⟩) 2 c] w fun e w' => e = .returned (.slice (some ⟨G, 0, none⟩) 2 c) ∧ w' = w := by
  have hq : (2 : Int) ≤ (c : Int) := by omega
  go_enter Tryz.func34, Tryz.ntmps34
  go_wp2_with fail
  refine wp_loop_rounds 3 ?_
  rw [rounds_succ]
  go_wp2_with fail
  go_ret
  exact ⟨rfl, rfl⟩
set_option maxHeartbeats 800000 in
theorem norm2_one (G c l : Nat) (w : World) (h0 : w.cell? ⟨G, 0, none⟩ = some (.int .u64 (l : Int))) (h1 : w.cell? ⟨G, 1, none⟩ = some (.int .u64 ((0 : Nat) : Int))) (hh : ((l : Int) == 0) = false) (hc : 2 ≤ c) :
    Calls Tryz.prog 34 #[.slice (some ⟨G, 0, none⟩) 2 c] w fun e w' => e = .returned (.slice (some ⟨G, 0, none⟩) 1 c) ∧ w' = w := by
  have hq : (2 : Int) ≤ (c : Int) := by omega
  rw [show ((0 : Nat) : Int) = 0 from rfl] at h1
  go_enter Tryz.func34, Tryz.ntmps34
  go_wp2_with fail
  refine wp_loop_rounds 3 ?_
  rw [rounds_succ]
  go_wp2_with fail
  rw [rounds_succ]
  go_wp2_with fail
  go_ret
  exact ⟨rfl, rfl⟩
set_option maxHeartbeats 800000 in
theorem norm1_one (G c l : Nat) (w : World) (h0 : w.cell? ⟨G, 0, none⟩ = some (.int .u64 (l : Int))) (hh : ((l : Int) == 0) = false) (hc : 1 ≤ c) :
    Calls Tryz.prog 34 #[.slice (some ⟨G, 0, none⟩) 1 c] w fun e w' => e = .returned (.slice (some ⟨G, 0, none⟩) 1 c) ∧ w' = w := by
  have hq : (1 : Int) ≤ (c : Int) := by omega
  go_enter Tryz.func34, Tryz.ntmps34
  go_wp2_with fail
  refine wp_loop_rounds 3 ?_
  rw [rounds_succ]
  go_wp2_with fail
  go_ret
  exact ⟨rfl, rfl⟩
set_option maxHeartbeats 800000 in
theorem norm1_zero (G c : Nat) (w : World) (h0 : w.cell? ⟨G, 0, none⟩ = some (.int .u64 ((0 : Nat) : Int))) (hc : 1 ≤ c) :
    Calls Tryz.prog 34 #[.slice (some ⟨G, 0, none⟩) 1 c] w fun e w' => e = .returned (.slice (some ⟨G, 0, none⟩) 0 c) ∧ w' = w := by
  have hq : (0 : Int) ≤ (c : Int) := by omega
  rw [show ((0 : Nat) : Int) = 0 from rfl] at h0
  go_enter Tryz.func34, Tryz.ntmps34
  go_wp2_with fail
  refine wp_loop_rounds 3 ?_
  rw [rounds_succ]
  go_wp2_with fail
  rw [rounds_succ]
  go_wp2_with fail
  go_ret
  exact ⟨rfl, rfl⟩
/-- norm of one word. -/
theorem norm1_any (G c l : Nat) (w : World) (h0 : w.cell? ⟨G, 0, none⟩ = some (.int .u64 (l : Int))) (hc : 1 ≤ c) :
    Calls Tryz.prog 34 #[.slice (some ⟨G, 0, none⟩) 1 c] w fun e w' => e = .returned (.slice (some ⟨G, 0, none⟩) (if l = 0 then 0 else 1) c) ∧ w' = w := by
  by_cases hl : l = 0
  · subst hl
    exact norm1_zero G c w h0 hc
  · rw [if_neg hl]
    exact norm1_one G c l w h0 (by rw [beq_eq_false_iff_ne]; omega) hc
/-- norm of two words, not both zero. -/
theorem norm2_any (G c l h : Nat) (w : World) (h0 : w.cell? ⟨G, 0, none⟩ = some (.int .u64 (l : Int))) (h1 : w.cell? ⟨G, 1, none⟩ = some (.int .u64 (h : Int))) (hn : l ≠ 0 ∨ h ≠ 0) (hc : 2 ≤ c) :
    Calls Tryz.prog 34 #[.slice (some ⟨G, 0, none⟩) 2 c] w fun e w' => e = .returned (.slice (some ⟨G, 0, none⟩) (if h = 0 then 1 else 2) c) ∧ w' = w := by
  by_cases hl : h = 0
  · subst hl
    exact norm2_one G c l w h0 h1 (by rw [beq_eq_false_iff_ne]; omega) hc
  · rw [if_neg hl]
    exact norm2_two G c h w h1 (by rw [beq_eq_false_iff_ne]; omega) hc
set_option maxRecDepth 100000 in
set_option maxHeartbeats 1600000 in
theorem divW_one (G c lo q r : Nat) (hc : 1 ≤ c) (hx : lo < 18446744073709551616) (hq : lo / 10000000000000000000 = q) (hr : lo % 10000000000000000000 = r) (w : World) (h : Wd1 w w G lo) :
    Calls Tryz.prog 97 #[.slice (some ⟨G, 0, none⟩) 1 c, .slice (some ⟨G, 0, none⟩) 1 c, .int .u64 10000000000000000000] w fun e w' => e = .returned (.tuple #[.slice (some ⟨G, 0, none⟩) (if q = 0 then 0 else 1) c, .int .u64 (r : Int)]) ∧ Wd1 w w' G q := by
  have HM := Lib.hid (fun w => natMake_fit ⟨G, 0, none⟩ 1 1 c hc w)
  rw [show ((1 : Nat) : Int) = 1 from rfl] at HM
  have HV := Lib.hid (wvw_one G c c lo q r hx hq hr w h)
  have HC := Lib.hid hc
  generalize hL : (if q = 0 then 0 else 1) = L
  have HL := Lib.hid hL
  clear hc hx hq hr h hL
  go_enter Tryz.func97, Tryz.ntmps97
  go_wp2_with fail
  refine (HM.out _).mono ?_
  rintro e w1 ⟨rfl, rfl⟩
  go_wp2_with fail
  refine HV.out.mono ?_
  rintro e w2 ⟨rfl, hW⟩
  have HW := Lib.hid hW
  clear hW
  go_wp2_with fail
  refine (norm1_any G c q _ HW.out.c0 HC.out).mono ?_
  rw [HL.out]
  rintro e w3 ⟨rfl, rfl⟩
  go_wp2_with fail
  go_ret2
  exact ⟨rfl, HW.out⟩
set_option maxRecDepth 100000 in
set_option maxHeartbeats 1600000 in
theorem divW_two (G c lo hi q1 r1 q0 r : Nat) (hc : 2 ≤ c) (hl : lo < 18446744073709551616) (hh : hi < 18446744073709551616) (hh0 : hi ≠ 0) (hq1 : (0 * 18446744073709551616 + hi) / 10000000000000000000 = q1) (hr1 : (0 * 18446744073709551616 + hi) % 10000000000000000000 = r1)
    (hq0 : (r1 * 18446744073709551616 + lo) / 10000000000000000000 = q0) (hr : (r1 * 18446744073709551616 + lo) % 10000000000000000000 = r) (w : World) (h : Wd2 w w G lo hi) :
    Calls Tryz.prog 97 #[.slice (some ⟨G, 0, none⟩) 2 c, .slice (some ⟨G, 0, none⟩) 2 c, .int .u64 10000000000000000000] w fun e w' => e = .returned (.tuple #[.slice (some ⟨G, 0, none⟩) (if q1 = 0 then 1 else 2) c, .int .u64 (r : Int)]) ∧ Wd2 w w' G q0 q1 := by
  have HM := Lib.hid (fun w => natMake_fit ⟨G, 0, none⟩ 2 2 c hc w)
  rw [show ((2 : Nat) : Int) = 2 from rfl] at HM
  have HV := Lib.hid (wvw_two G c c lo hi q1 r1 q0 r hl hh hq1 hr1 hq0 hr w h)
  have HN := Lib.hid (show q0 ≠ 0 ∨ q1 ≠ 0 by omega)
  have HC := Lib.hid hc
  generalize hL : (if q1 = 0 then 1 else 2) = L
  have HL := Lib.hid hL
  clear hc hl hh hh0 hq1 hr1 hq0 hr h hL
  go_enter Tryz.func97, Tryz.ntmps97
  go_wp2_with fail
  refine (HM.out _).mono ?_
  rintro e w1 ⟨rfl, rfl⟩
  go_wp2_with fail
  refine HV.out.mono ?_
  rintro e w2 ⟨rfl, hW⟩
  have HW := Lib.hid hW
  clear hW
  go_wp2_with fail
  refine (norm2_any G c q0 q1 _ HW.out.one.c0 HW.out.c1 HN.out HC.out).mono ?_
  rw [HL.out]
  rintro e w3 ⟨rfl, rfl⟩
  go_wp2_with fail
  go_ret2
  exact ⟨rfl, HW.out⟩
end Go.Proofs.YtdbbmknjldapbaaGreatDoor
/-
  A natural number of at most two words as a slice of words; divided by 10^19 (package bigall).
-/
namespace Go.Proofs.YtdbbmknjldapbaaGreatDoor
set_option linter.unusedVariables false
set_option linter.unusedSimpArgs false
open Go.RowKit Go.Lib

/-- How many words. -/
def nw (Q : Nat) : Nat := if Q = 0 then 0 else if Q < 18446744073709551616 then 1 else 2
/-- Q's words in block G. -/
structure QAt (w : World) (G c Q : Nat) : Prop where
  c0 : Q ≠ 0 → w.cell? ⟨G, 0, none⟩ = some (.int .u64 ((Q % 18446744073709551616 : Nat) : Int))
  c1 : 18446744073709551616 ≤ Q → 2 ≤ c ∧ w.cell? ⟨G, 1, none⟩ = some (.int .u64 ((Q / 18446744073709551616 : Nat) : Int))
  free : ∀ j, w.frozen? ⟨G, j, none⟩ = false
  cap : 1 ≤ c
  lt : Q < 340282366920938463463374607431768211456
theorem QAt.on {w w' : World} {G c Q : Nat} {S : Nat → Prop} (h : QAt w G c Q) (ho : Only S w w') (hS : ¬ S G) (hG : G < w.heap.size) : QAt w' G c Q :=
  ⟨fun hq => by rw [ho.cell (p := ⟨G, 0, none⟩) hG hS]; exact h.c0 hq, fun hq => ⟨(h.c1 hq).1, by rw [ho.cell (p := ⟨G, 1, none⟩) hG hS]; exact (h.c1 hq).2⟩,
    fun j => by
      have := h.free j
      unfold World.frozen? at this ⊢
      simp only [ho.block G hG hS]
      exact this, h.cap, h.lt⟩
theorem split_words (a b : Nat) (h : b < 18446744073709551616) : (a * 18446744073709551616 + b) % 18446744073709551616 = b ∧ (a * 18446744073709551616 + b) / 18446744073709551616 = a := by omega
theorem divW_any (G c Q : Nat) (hQ : Q ≠ 0) (w : World) (h : QAt w G c Q) :
    Calls Tryz.prog 97 #[.slice (some ⟨G, 0, none⟩) (nw Q) c, .slice (some ⟨G, 0, none⟩) (nw Q) c, .int .u64 10000000000000000000] w fun e w' => e = .returned (.tuple #[.slice (some ⟨G, 0, none⟩) (nw (Q / 10000000000000000000)) c, .int .u64 ((Q % 10000000000000000000 : Nat) : Int)]) ∧ QAt w' G c (Q / 10000000000000000000) ∧ Only (fun k => k = G) w w' := by
  have hlt := h.lt
  by_cases hM : Q < 18446744073709551616
  · have e0 : nw Q = 1 := by unfold nw; rw [if_neg hQ, if_pos hM]
    rw [e0]
    have h0 := h.c0 hQ
    rw [Nat.mod_eq_of_lt hM] at h0
    refine (divW_one G c Q _ _ h.cap hM rfl rfl w ⟨Only.refl _ _, h0, h.free⟩).mono ?_
    rintro e w' ⟨rfl, hW⟩
    have e1 : nw (Q / 10000000000000000000) = if Q / 10000000000000000000 = 0 then 0 else 1 := by
      unfold nw
      split
      · rfl
      · rw [if_pos (by omega)]
    refine ⟨by rw [e1], ⟨fun _ => ?_, fun hge => absurd hge (by omega), hW.free, h.cap, by omega⟩, hW.only⟩
    rw [Nat.mod_eq_of_lt (a := Q / 10000000000000000000) (by omega)]
    exact hW.c0
  · have hge : 18446744073709551616 ≤ Q := by omega
    have e0 : nw Q = 2 := by unfold nw; rw [if_neg hQ, if_neg hM]
    rw [e0]
    have h0 := h.c0 hQ
    obtain ⟨hc, h1⟩ := h.c1 hge
    obtain ⟨lo, hlo⟩ : ∃ lo, Q % 18446744073709551616 = lo := ⟨_, rfl⟩
    obtain ⟨hi, hhi⟩ : ∃ hi, Q / 18446744073709551616 = hi := ⟨_, rfl⟩
    rw [hlo] at h0
    rw [hhi] at h1
    have hf := h.free
    have hcap := h.cap
    obtain ⟨q1, g1⟩ : ∃ q1, (0 * 18446744073709551616 + hi) / 10000000000000000000 = q1 := ⟨_, rfl⟩
    obtain ⟨r1, g2⟩ : ∃ r1, (0 * 18446744073709551616 + hi) % 10000000000000000000 = r1 := ⟨_, rfl⟩
    obtain ⟨q0, g3⟩ : ∃ q0, (r1 * 18446744073709551616 + lo) / 10000000000000000000 = q0 := ⟨_, rfl⟩
    obtain ⟨r, g4⟩ : ∃ r, (r1 * 18446744073709551616 + lo) % 10000000000000000000 = r := ⟨_, rfl⟩
    refine (divW_two G c lo hi q1 r1 q0 r hc (by omega) (by omega) (by omega) g1 g2 g3 g4 w ⟨⟨Only.refl _ _, h0, h.free⟩, h1⟩).mono ?_
    rintro e w' ⟨rfl, hW⟩
    have f1 : Q / 10000000000000000000 = q1 * 18446744073709551616 + q0 := by omega
    have f2 : Q % 10000000000000000000 = r := by omega
    have f3 : q0 < 18446744073709551616 := by omega
    have f4 : q0 ≠ 0 ∨ q1 ≠ 0 := by omega
    rw [f1, f2]
    have e1 : nw (q1 * 18446744073709551616 + q0) = if q1 = 0 then 1 else 2 := by
      unfold nw
      rw [if_neg (by omega)]
      split <;> split <;> omega
    refine ⟨by rw [e1], ⟨fun _ => ?_, fun hge => ⟨hc, ?_⟩, hW.one.free, hcap, by omega⟩, hW.one.only⟩
    · rw [(split_words q1 q0 f3).1]
      exact hW.one.c0
    · rw [(split_words q1 q0 f3).2]
      exact hW.c1
/-- A digit of a number, counted from the last. -/
theorem digit_in (x K j : Nat) (hj : j < 19) : x / 10 ^ K % 10000000000000000000 / 10 ^ j % 10 = x / 10 ^ (K + j) % 10 := by
  have e : 10000000000000000000 = 10 ^ j * 10 ^ (19 - j) := by
    rw [← Nat.pow_add, show j + (19 - j) = 19 by omega]
  rw [e, Nat.mod_mul_right_div_self, Nat.div_div_eq_div_mul, ← Nat.pow_add]
  refine Nat.mod_mod_of_dvd _ ?_
  rw [show 19 - j = (18 - j) + 1 by omega, Nat.pow_succ]
  exact Nat.dvd_mul_left _ _
/-- The last k of N digits stand. -/
structure Dd (x N k : Nat) (L : List UInt8) : Prop where
  len : L.length = N
  dig : ∀ j, j < k → L[N - 1 - j]? = some (UInt8.ofNat (48 + x / 10 ^ j % 10))
theorem Dd.step {x N k : Nat} {L : List UInt8} (h : Dd x N k L) (hk : k < N) (c : UInt8) (hc : c = UInt8.ofNat (48 + x / 10 ^ k % 10)) : Dd x N (k + 1) (L.set (N - 1 - k) c) := by
  refine ⟨by rw [List.length_set]; exact h.len, fun j hj => ?_⟩
  by_cases e : j = k
  · subst e
    rw [List.getElem?_set_self (by rw [h.len]; omega), hc]
  · rw [List.getElem?_set_ne (by omega)]
    exact h.dig j (by omega)
end Go.Proofs.YtdbbmknjldapbaaGreatDoor
