/-
  The laws' own 128-bit arithmetic (package n001_19), walked.
-/
import Derived.Test.YtffiamchcadloaaGreatDoorSays
import Derived.Test.YtffiamchcadloaaGreatDoorWide
import Derived.Laws.BitsAllLaws
import Derived.Laws.BitsLemmas
import Derived.WalkSpells
import Derived.Handy
import Derived.Lib.Hide
namespace Go.Proofs.YtffiamchcadloaaGreatDoor
set_option linter.unusedVariables false
set_option linter.unusedSimpArgs false
open Go.RowKit Go.Lib

theorem ret_u2 {k k' : IntKind} {a b a' b' : Int} (h : a = b) (h' : a' = b') : Ending.returned (.tuple #[.int k a, .int k' a']) = .returned (.tuple #[.int k b, .int k' b']) := by rw [h, h']
theorem wide_any (x : Int) (h0 : -9223372036854775808 ≤ x) (h1 : x ≤ 9223372036854775807) (w : World) :
    Calls Tryz.prog 7 #[.int .i64 x] w fun e w' => e = .returned (.tuple #[.int .u64 (hi128 x), .int .u64 (lo128 x)]) ∧ w = w' := by
  have e1 := hi_small x (by omega) (by omega)
  have e2 := lo_small x (by omega) (by omega)
  by_cases hx : x < 0
  · rw [if_pos hx] at e1 e2
    rw [e1, e2]
    clear e1 e2
    have hw : IntKind.u64.wrap x = x + 18446744073709551616 := by rw [IntKind.wrap_u64]; omega
    go_enter Tryz.func7, Tryz.ntmps7
    go_wp2
    go_ret2
    exact ⟨rfl, rfl⟩
  · rw [if_neg hx] at e1 e2
    rw [e1, e2]
    clear e1 e2
    go_enter Tryz.func7, Tryz.ntmps7
    go_wp2
    go_ret2
    exact ⟨rfl, rfl⟩
theorem add128_any (a b : Int) (w : World) :
    Calls Tryz.prog 8 #[.int .u64 (hi128 a), .int .u64 (lo128 a), .int .u64 (hi128 b), .int .u64 (lo128 b)] w fun e w' => e = .returned (.tuple #[.int .u64 (hi128 (a + b)), .int .u64 (lo128 (a + b))]) ∧ w = w' := by
  have e1 := add_hi a b
  have e2 := add_lo a b
  have b1 := lo_bounds a
  have b2 := lo_bounds b
  have b3 := hi_bounds a
  have b4 := hi_bounds b
  rw [← e1, ← e2]
  clear e1 e2
  generalize hi128 a = ah at b3 ⊢
  generalize lo128 a = al at b1 ⊢
  generalize hi128 b = bh at b4 ⊢
  generalize lo128 b = bl at b2 ⊢
  have hw : IntKind.u64.wrap (al + bl) = (al + bl) % 18446744073709551616 := IntKind.wrap_u64 _
  obtain ⟨L, hL⟩ : ∃ L, (al + bl) % 18446744073709551616 = L := ⟨_, rfl⟩
  have bL : 0 ≤ L ∧ L < 18446744073709551616 := by omega
  rw [hL] at hw ⊢
  clear hL
  by_cases hc : L < al
  · rw [if_pos hc]
    go_enter Tryz.func8, Tryz.ntmps8
    go_wp2
    go_ret2
    exact ⟨ret_u2 (by simp only [IntKind.wrap_u64]; omega) rfl, rfl⟩
  · rw [if_neg hc]
    go_enter Tryz.func8, Tryz.ntmps8
    go_wp2
    go_ret2
    exact ⟨ret_u2 (by simp only [IntKind.wrap_u64]; omega) rfl, rfl⟩
theorem not_nat (a : Nat) (h : a < 2 ^ 64) : (18446744073709551615 : Nat) ^^^ a = 18446744073709551615 - a := by
  apply Nat.eq_of_testBit_eq
  intro i
  have e1 : (18446744073709551615 : Nat) = 2 ^ 64 - 1 := rfl
  have e2 : 18446744073709551615 - a = 2 ^ 64 - (a + 1) := by omega
  rw [Nat.testBit_xor, e2, Nat.testBit_two_pow_sub_succ h, e1, Nat.testBit_two_pow_sub_one]
  by_cases hi : i < 64
  · simp [hi]
  · have ht : a.testBit i = false := Nat.testBit_lt_two_pow (Nat.lt_of_lt_of_le h (Nat.pow_le_pow_right (by decide) (by omega)))
    simp [hi, ht]
theorem not_u64 (x : Int) (h0 : 0 ≤ x) (h1 : x < 18446744073709551616) : bits .xor .u64 IntKind.u64.max x = 18446744073709551615 - x := by
  obtain ⟨a, rfl⟩ : ∃ a : Nat, x = a := ⟨x.toNat, by omega⟩
  have h := u64_xor_nat 18446744073709551615 a (by omega) (by omega)
  rw [not_nat a (by omega)] at h
  have hm : IntKind.u64.max = ((18446744073709551615 : Nat) : Int) := rfl
  rw [hm, h]
  omega
set_option maxRecDepth 100000 in
theorem neg128_any (a : Int) (w : World) :
    Calls Tryz.prog 13 #[.int .u64 (hi128 a), .int .u64 (lo128 a)] w fun e w' => e = .returned (.tuple #[.int .u64 (hi128 (-a)), .int .u64 (lo128 (-a))]) ∧ w = w' := by
  have H := Lib.hid (fun w => add128_any (-1 - a) 1 w)
  have e1 := neg_lo a
  have e2 := neg_hi a
  have b1 := lo_bounds a
  have b3 := hi_bounds a
  rw [e1, e2, show -1 - a + 1 = -a by omega, show hi128 1 = 0 from rfl, show lo128 1 = 1 from rfl] at H
  generalize hi128 (-a) = rh at H ⊢
  generalize lo128 (-a) = rl at H ⊢
  generalize hi128 a = ah at b3 H ⊢
  generalize lo128 a = al at b1 H ⊢
  clear e1 e2
  have x1 := not_u64 ah b3.1 b3.2
  have x2 := not_u64 al b1.1 b1.2
  go_enter Tryz.func13, Tryz.ntmps13
  go_wp2_with fail
  refine (H.out _).mono ?_
  rintro e w1 ⟨rfl, rfl⟩
  go_wp2_with fail
  go_ret2
  exact ⟨rfl, rfl⟩
end Go.Proofs.YtffiamchcadloaaGreatDoor
