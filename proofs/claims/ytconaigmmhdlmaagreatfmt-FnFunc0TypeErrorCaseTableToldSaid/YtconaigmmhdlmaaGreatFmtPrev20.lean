/-
  The laws' own preview of a safe string, walked (package n001_20).
-/
import Derived.Test.YtconaigmmhdlmaaGreatFmtEscB
import Derived.Test.YtconaigmmhdlmaaGreatFmtTep
namespace Go.Proofs.YtconaigmmhdlmaaGreatFmt
set_option linter.unusedVariables false
set_option linter.unusedSimpArgs false
open Go.RowKit Go.Lib Go.Sort

theorem slice24 (s : ByteArray) (h : (24 : Int) ≤ (s.size : Int)) (wx : World) : (Instr.slice 9 (.string s) none (some (.int .i64 24)) none).run Tryz.prog wx = .ok (.string (s.extract 0 24)) wx :=
  run_slice_string_h (P := Tryz.prog) wx 9 s Tryz.underlying9 .i64 24 (by omega) h
theorem ext24 (s : ByteArray) : (s.extract 0 24).data.toList = s.data.toList.take 24 := by rw [Lib.extract_data]; simp
set_option maxRecDepth 100000 in
set_option maxHeartbeats 800000 in
theorem prevSafe20_any (s : ByteArray) (hs : s.size ≤ 140737488351232) (w : World) : Calls Tryz.prog 33 #[.string s] w (Says w (prevSafe s.data.toList)) := by
  have hl : s.data.toList.length = s.size := by rw [Array.length_toList]; rfl
  by_cases h28 : s.size ≤ 28
  · have q2 : (s.size : Int) + 2 ≤ 30 := by omega
    have z1 : ¬ 9223372036854775807 < 1 + s.size := by omega
    have z2 : ¬ 9223372036854775807 < 1 + s.size + 1 := by omega
    have hp : prevSafe s.data.toList = 34 :: (s.data.toList ++ [34]) := by unfold prevSafe; rw [if_pos (by omega)]
    rw [hp]
    clear hp hl
    go_enter Tryz.func33, Tryz.ntmps33
    go_wp2_with fail
    go_ret
    refine ⟨says_str ?_, by go_grown⟩
    simp
  · have q2 : ¬ (s.size : Int) + 2 ≤ 30 := by omega
    have q3 : (24 : Int) ≤ (s.size : Int) := by omega
    have hsl := slice24 s q3
    have z0 : (s.extract 0 24).size ≤ 24 := by rw [ByteArray.size_extract]; omega
    have z1 : ¬ 9223372036854775807 < 1 + (s.extract 0 24).size := by omega
    have z2 : ¬ 9223372036854775807 < 1 + (s.extract 0 24).size + 5 := by omega
    have hp : prevSafe s.data.toList = 34 :: (s.data.toList.take 24 ++ dots) := by unfold prevSafe; rw [if_neg (by omega)]
    rw [hp, ← ext24]
    clear hp hl
    go_enter Tryz.func33, Tryz.ntmps33
    go_wp2_with fail
    go_ret
    refine ⟨says_str ?_, by go_grown⟩
    simp [dots]
end Go.Proofs.YtconaigmmhdlmaaGreatFmt
