/-
  The laws' own test of a big result against a 128-bit integer (package n001_19), walked.
-/
import Derived.Test.YtffiamchcadloaaGreatDoorKind
import Derived.Test.YtffiamchcadloaaGreatDoorTwosM
namespace Go.Proofs.YtffiamchcadloaaGreatDoor
set_option linter.unusedVariables false
set_option linter.unusedSimpArgs false
open Go.RowKit Go.Lib

/-- Outside an int: not the two's complement of an int. -/
theorem fits_not (S : Int) (h0 : S < -9223372036854775808 ∨ 9223372036854775807 < S) (h1 : -170141183460469231731687303715884105728 < S) (h2 : S < 170141183460469231731687303715884105728) (w : World) :
    Calls Tryz.prog 23 #[.int .u64 (hi128 S), .int .u64 (lo128 S)] w fun e w' => e = .returned (.bool false) ∧ w = w' := by
  have b1 := lo_bounds S
  have b2 := hi_bounds S
  have hz : lo128 S / 9223372036854775808 = 0 → hi128 S ≠ 0 := by unfold lo128 hi128 at *; omega
  have hm : lo128 S / 9223372036854775808 = 1 → hi128 S ≠ 18446744073709551615 := by unfold lo128 hi128 at *; omega
  generalize hi128 S = h at b2 hz hm ⊢
  generalize lo128 S = l at b1 hz hm ⊢
  clear h0 h1 h2
  rcases (by omega : l / 9223372036854775808 = 0 ∨ l / 9223372036854775808 = 1) with hq | hq
  · have hh := beq_eq_false_iff_ne.2 (hz hq)
    clear hz hm
    go_enter Tryz.func23, Tryz.ntmps23
    go_wp2
    go_ret
    exact ⟨rfl, rfl⟩
  · have hh := beq_eq_false_iff_ne.2 (hm hq)
    clear hz hm
    go_enter Tryz.func23, Tryz.ntmps23
    go_wp2
    go_ret
    exact ⟨rfl, rfl⟩
/-- The words of a number below 2^127, read by the two's complement. -/
theorem words_lo (M : Int) (h0 : 0 < M) (h1 : M < 18446744073709551616) : wordsOf M.natAbs = [.int .u64 (lo128 M)] ∧ hi128 M = 0 := by
  have e : lo128 M = (M.natAbs : Int) := by unfold lo128; omega
  refine ⟨?_, by unfold hi128; omega⟩
  unfold wordsOf
  rw [if_neg (by omega), if_pos (by omega), e]
theorem words_hi (M : Int) (h0 : 18446744073709551616 ≤ M) (h1 : M < 170141183460469231731687303715884105728) : wordsOf M.natAbs = [.int .u64 (lo128 M), .int .u64 (hi128 M)] ∧ hi128 M ≠ 0 := by
  have e : lo128 M = ((M.natAbs % 18446744073709551616 : Nat) : Int) := by unfold lo128; omega
  have e2 : hi128 M = ((M.natAbs / 18446744073709551616 : Nat) : Int) := by unfold hi128; omega
  refine ⟨?_, by unfold hi128; omega⟩
  unfold wordsOf
  rw [if_neg (by omega), if_neg (by omega), e, e2]
set_option maxRecDepth 100000 in
set_option maxHeartbeats 1600000 in
/-- Outside an int: kind 3, the sign, the words. -/
theorem matches_big (S : Int) (h0 : S < -9223372036854775808 ∨ 9223372036854775807 < S) (h1 : -170141183460469231731687303715884105728 < S) (h2 : S < 170141183460469231731687303715884105728) (g c : Nat) (w : World) (hr : Row w g 25 (wordsOf S.natAbs)) :
    Calls Tryz.prog 9 #[.int .i64 3, .int .i64 0, .bool (decide (S < 0)), .slice (some ⟨g, 0, none⟩) (wordsOf S.natAbs).length c, .int .u64 (hi128 S), .int .u64 (lo128 S)] w fun e w' => e = .returned (.bool true) ∧ w = w' := by
  have HF := Lib.hid (fun w => fits_not S h0 h1 h2 w)
  have HN := Lib.hid (fun w => neg128_any S w)
  have b1 := lo_bounds S
  have b2 := hi_bounds S
  by_cases hs : S < 0
  · have hq : hi128 S / 9223372036854775808 = 1 := by unfold hi128; omega
    have hd : decide (S < 0) = true := decide_eq_true hs
    rw [hd]
    have hna : S.natAbs = (-S).natAbs := by omega
    rw [hna] at hr ⊢
    by_cases hM : -S < 18446744073709551616
    · obtain ⟨e1, e2⟩ := words_lo (-S) (by omega) hM
      rw [e1] at hr ⊢
      rw [e2] at HN
      have c0 := hr.cell 0 (by simp)
      simp at c0
      clear hr e1 e2 hna hd
      generalize lo128 (-S) = lm at HN c0 ⊢
      generalize hi128 S = h at *
      generalize lo128 S = l at *
      clear h0 h1 h2 hs hM
      go_enter Tryz.func9, Tryz.ntmps9
      go_wp2_with fail
      refine (HF.out _).mono ?_
      rintro e w1 ⟨rfl, rfl⟩
      go_wp2_with fail
      refine (HN.out _).mono ?_
      rintro e w1 ⟨rfl, rfl⟩
      go_wp2_with fail
      go_ret
      exact ⟨rfl, rfl⟩
    · obtain ⟨e1, e2⟩ := words_hi (-S) (by omega) (by omega)
      rw [e1] at hr ⊢
      have c0 := hr.cell 0 (by simp)
      have c1 := hr.cell 1 (by simp)
      simp at c0 c1
      have hh := beq_eq_false_iff_ne.2 e2
      clear hr e1 e2 hna hd
      generalize lo128 (-S) = lm at HN c0 ⊢
      generalize hi128 (-S) = hm at HN c1 hh ⊢
      generalize hi128 S = h at *
      generalize lo128 S = l at *
      clear h0 h1 h2 hs hM
      go_enter Tryz.func9, Tryz.ntmps9
      go_wp2_with fail
      refine (HF.out _).mono ?_
      rintro e w1 ⟨rfl, rfl⟩
      go_wp2_with fail
      refine (HN.out _).mono ?_
      rintro e w1 ⟨rfl, rfl⟩
      go_wp2_with fail
      go_ret
      exact ⟨rfl, rfl⟩
  · have hq : hi128 S / 9223372036854775808 = 0 := by unfold hi128; omega
    have hd : decide (S < 0) = false := decide_eq_false hs
    rw [hd]
    by_cases hM : S < 18446744073709551616
    · obtain ⟨e1, e2⟩ := words_lo S (by omega) hM
      rw [e1] at hr ⊢
      rw [e2] at HF hq b2 ⊢
      have c0 := hr.cell 0 (by simp)
      simp at c0
      clear hr e1 e2 HN hd
      generalize lo128 S = l at *
      clear h0 h1 h2 hs hM
      go_enter Tryz.func9, Tryz.ntmps9
      go_wp2_with fail
      refine (HF.out _).mono ?_
      rintro e w1 ⟨rfl, rfl⟩
      go_wp2_with fail
      go_ret
      exact ⟨rfl, rfl⟩
    · obtain ⟨e1, e2⟩ := words_hi S (by omega) (by omega)
      rw [e1] at hr ⊢
      have c0 := hr.cell 0 (by simp)
      have c1 := hr.cell 1 (by simp)
      simp at c0 c1
      have hh := beq_eq_false_iff_ne.2 e2
      clear hr e1 e2 HN hd
      generalize lo128 S = l at *
      generalize hi128 S = h at *
      clear h0 h1 h2 hs hM
      go_enter Tryz.func9, Tryz.ntmps9
      go_wp2_with fail
      refine (HF.out _).mono ?_
      rintro e w1 ⟨rfl, rfl⟩
      go_wp2_with fail
      go_ret
      exact ⟨rfl, rfl⟩
end Go.Proofs.YtffiamchcadloaaGreatDoor
