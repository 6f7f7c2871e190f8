/-
  The walk of the law FnTypeErrorPreviewPlainString.
-/
import Derived.Test.YtogpfacfifajgaaGreatFmtPrevStr
import Derived.Test.YtogpfacfifajgaaGreatFmtPlain30
import Derived.Deep.RegionWith
namespace Go.Proofs.YtogpfacfifajgaaGreatFmt
set_option linter.unusedVariables false
set_option linter.unusedSimpArgs false
open Go.RowKit Go.Lib Go.Sort

set_option maxHeartbeats 400000 in
theorem bytes_PlainString (s0 : ByteArray) (w : World) (h0 : s0.size ≤ 140737488351232) :
    Calls Tryz.prog 15 #[.string s0] w fun e w' => (∃ b, e = .returned (.bool b)) ∧ Below w.heap.size w w' := by
  go_enter Tryz.func15, Tryz.ntmps15
  go_wp2
  repeat (any_goals go_region; any_goals go_wp2)
  all_goals (go_ret; exact ⟨⟨_, rfl⟩, by go_grown⟩)

set_option maxRecDepth 100000 in
set_option maxHeartbeats 1600000 in
theorem zztep_str (s : ByteArray) (hs : s.size ≤ 2097152) (w : World) (hT : Tabs w) :
    Calls Tryz.prog 17 #[.string s] w (Says w (tepStr s)) := by
  have HP := Lib.hid (tep_str s hs w hT)
  clear hT
  go_enter Tryz.func17, Tryz.ntmps17
  go_wp2_with (go_at_call 31; refine HP.out.mono ?_; rintro e w1 ⟨rfl, hb1⟩)
  go_ret
  exact ⟨rfl, hb1⟩

theorem tepStr_safe (s : ByteArray) (h : s.data.toList.all plainB = true) : tepStr s = sString ++ ([32, 40] ++ (prevSafe s.data.toList ++ [41])) := by
  unfold tepStr
  rw [preview_safe _ (fun b hb => List.all_eq_true.1 h b hb)]
set_option maxRecDepth 100000 in
set_option maxHeartbeats 1600000 in
theorem walk_FnTypeErrorPreviewPlainString (s : ByteArray) (W : World) (ws : s.size ≤ 140737488351232) (hD : Tabs W) :
    Calls Tryz.prog 5 #[.string s] W fun e w' => e = .returned (.bool true) ∧ Below W.heap.size W w' := by
  have HB := Lib.hid (bytes_PlainString s W ws)
  have HD := Lib.hid hD
  clear hD
  by_cases hbig : 65536 < s.size
  · have q1 : (65536 : Int) < (s.size : Int) := by omega
    go_enter Tryz.func5, Tryz.ntmps5
    go_wp2_with fail
    refine HB.out.mono ?_
    rintro e w1 ⟨⟨b, rfl⟩, hb1⟩
    cases b
    · go_wp2_with fail
      go_ret
      exact ⟨rfl, hb1⟩
    · go_wp2_with fail
      go_ret
      exact ⟨rfl, hb1⟩
  · have q1 : (s.size : Int) ≤ 65536 := by omega
    have HP := Lib.hid (says_from (zztep_str s (by omega)) HD.out)
    have HA := Lib.hid (fun w => plain30_any s (by omega) w)
    go_enter Tryz.func5, Tryz.ntmps5
    go_wp2_with fail
    refine HB.out.mono ?_
    rintro e w1 ⟨⟨b, rfl⟩, hb1⟩
    cases b
    · go_wp2_with fail
      go_ret
      exact ⟨rfl, hb1⟩
    · go_wp2_with fail
      refine (HA.out w1).mono ?_
      rintro e w2 ⟨rfl, hb2'⟩
      have hb2 := hb1.trans (below_of hb2' hb1.size)
      clear hb2'
      cases hall : s.data.toList.all plainB
      · go_wp2_with fail
        go_ret
        exact ⟨rfl, hb2⟩
      · have hl40 : ((tepStr s).length : Int) ≤ 40 := by have := tepStr_le s; omega
        have hsafe := tepStr_safe s hall
        go_wp2_with fail
        refine (HP.out _ hb2).mono ?_
        rintro e w3 ⟨rfl, hb3⟩
        by_cases h28 : s.size ≤ 28
        · have q2 : (s.size : Int) ≤ 28 := by omega
          have z1 : ¬ 9223372036854775807 < 9 + s.size := by omega
          have z2 : ¬ 9223372036854775807 < 9 + s.size + 2 := by omega
          have hE : (tepStr s == (⟨#[115, 116, 114, 105, 110, 103, 32, 40, 34]⟩ ++ s ++ ⟨#[34, 41]⟩ : ByteArray).toList) = true := eq_text (by
            rw [hsafe]
            have hl : s.data.toList.length ≤ 28 := by rw [Array.length_toList]; exact h28
            unfold prevSafe
            rw [if_pos hl]
            simp [sString])
          clear hsafe
          have hX : (((⟨#[115, 116, 114, 105, 110, 103, 32, 40, 34]⟩ ++ s ++ ⟨#[34, 41]⟩ : ByteArray).toList.length : Nat) : Int) ≤ 40 := by rw [← beq_iff_eq.1 hE]; exact hl40
          go_wp2_with fail
          go_ret
          exact ⟨rfl, hb3⟩
        · have q2 : ¬ (s.size : Int) ≤ 28 := by omega
          have q3 : (24 : Int) ≤ (s.size : Int) := by omega
          have z1 : ¬ 9223372036854775807 < 9 + (s.extract 0 24).size := by rw [ByteArray.size_extract]; omega
          have z2 : ¬ 9223372036854775807 < 9 + (s.extract 0 24).size + 6 := by rw [ByteArray.size_extract]; omega
          have hsl : ∀ wx, (Instr.slice 9 (.string s) none (some (.int .i64 24)) none).run Tryz.prog wx = .ok (.string (s.extract 0 24)) wx := fun wx =>
            run_slice_string_h (P := Tryz.prog) wx 9 s Tryz.underlying9 .i64 24 (by omega) q3
          have hE : (tepStr s == (⟨#[115, 116, 114, 105, 110, 103, 32, 40, 34]⟩ ++ s.extract 0 24 ++ ⟨#[32, 46, 46, 46, 34, 41]⟩ : ByteArray).toList) = true := eq_text (by
            rw [hsafe]
            have hl : ¬ s.data.toList.length ≤ 28 := by rw [Array.length_toList]; exact h28
            unfold prevSafe
            rw [if_neg hl]
            have he : (s.extract 0 24).data.toList = s.data.toList.take 24 := by rw [Lib.extract_data]; simp
            simp [sString, dots, he])
          clear hsafe
          have hX : (((⟨#[115, 116, 114, 105, 110, 103, 32, 40, 34]⟩ ++ s.extract 0 24 ++ ⟨#[32, 46, 46, 46, 34, 41]⟩ : ByteArray).toList.length : Nat) : Int) ≤ 40 := by rw [← beq_iff_eq.1 hE]; exact hl40
          go_wp2_with fail
          go_ret
          exact ⟨rfl, hb3⟩
end Go.Proofs.YtogpfacfifajgaaGreatFmt
