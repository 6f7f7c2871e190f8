/-
  The laws' own length of a rune is the decoder's. No program in this text.
-/
import Derived.Test.YtcajagjgbalakaaGreatFmtRune
namespace Go.Proofs.YtcajagjgbalakaaGreatFmt
set_option linter.unusedVariables false
set_option linter.unusedSimpArgs false

/-- The laws' own length of the rune that begins with these bytes, n bytes being left: 0 where none does. -/
def lenZ (n b0 b1 b2 b3 : Nat) : Nat :=
  if b0 < 128 then 1
  else if 194 ≤ b0 ∧ b0 ≤ 223 then (if 1 < n ∧ 128 ≤ b1 ∧ b1 ≤ 191 then 2 else 0)
  else if 224 ≤ b0 ∧ b0 ≤ 239 then (if 2 < n ∧ (if b0 = 224 then 160 else 128) ≤ b1 ∧ b1 ≤ (if b0 = 237 then 159 else 191) ∧ b2 / 64 = 2 then 3 else 0)
  else if 240 ≤ b0 ∧ b0 ≤ 244 then (if 3 < n ∧ (if b0 = 240 then 144 else 128) ≤ b1 ∧ b1 ≤ (if b0 = 244 then 143 else 191) ∧ b2 / 64 = 2 ∧ b3 / 64 = 2 then 4 else 0)
  else 0

set_option maxRecDepth 100000 in
set_option maxHeartbeats 4000000 in
theorem lenZ_eq (n b0 b1 b2 b3 : Nat) (h0 : b0 < 256) (h1 : b1 < 256) (h2 : b2 < 256) (h3 : b3 < 256) :
    lenZ n b0 b1 b2 b3 = if b0 < 128 then 1 else if (Lib.decodeN n b0 b1 b2 b3).2 = 1 then 0 else (Lib.decodeN n b0 b1 b2 b3).2 := by
  unfold lenZ
  by_cases c1 : b0 < 128
  · rw [if_pos c1, if_pos c1]
  rw [if_neg c1, if_neg c1]
  unfold Lib.decodeN
  rw [if_neg c1]
  by_cases c2 : b0 / 32 = 6
  · have e3 : ¬ (224 ≤ b0 ∧ b0 ≤ 239) := by omega
    have e4 : ¬ (240 ≤ b0 ∧ b0 ≤ 244) := by omega
    have e5 : ¬ b0 / 16 = 14 := by omega
    have e6 : ¬ b0 / 8 = 30 := by omega
    simp only [c2, e3, e4, e5, e6, true_and, false_and, if_false]
    repeat' split
    all_goals first | rfl | (exfalso; omega) | (simp at *; omega)
  by_cases c3 : b0 / 16 = 14
  · have e2 : ¬ (194 ≤ b0 ∧ b0 ≤ 223) := by omega
    have e3 : 224 ≤ b0 ∧ b0 ≤ 239 := by omega
    have e6 : ¬ b0 / 8 = 30 := by omega
    simp only [c2, c3, e2, e3, e6, true_and, false_and, if_false, and_self, if_true]
    repeat' split
    all_goals first | rfl | (exfalso; omega) | (simp at *; omega)
  by_cases c4 : b0 / 8 = 30
  · have e2 : ¬ (194 ≤ b0 ∧ b0 ≤ 223) := by omega
    have e3 : ¬ (224 ≤ b0 ∧ b0 ≤ 239) := by omega
    simp only [c2, c3, c4, e2, e3, true_and, false_and, if_false]
    repeat' split
    all_goals first | rfl | (exfalso; omega) | (simp at *; omega)
  · have e2 : ¬ (194 ≤ b0 ∧ b0 ≤ 223) := by omega
    have e3 : ¬ (224 ≤ b0 ∧ b0 ≤ 239) := by omega
    have e4 : ¬ (240 ≤ b0 ∧ b0 ≤ 244) := by omega
    simp only [c2, c3, c4, e2, e3, e4, false_and, if_false]
    rfl
end Go.Proofs.YtcajagjgbalakaaGreatFmt
