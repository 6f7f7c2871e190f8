/-
  The walk of the law FnFunc0TypeErrorCaseTable.
-/
import Derived.Test.YtconaigmmhdlmaaGreatFmtFunc0
import Derived.Test.YtconaigmmhdlmaaGreatFmtPlain20
import Derived.Test.YtconaigmmhdlmaaGreatFmtPrev20
import Derived.Test.YtconaigmmhdlmaaGreatFmtItoa20
namespace Go.Proofs.YtconaigmmhdlmaaGreatFmt
set_option linter.unusedVariables false
set_option linter.unusedSimpArgs false
open Go.RowKit Go.Lib Go.Sort

set_option maxRecDepth 100000 in
theorem boolText20 (b : Bool) (w : World) : Calls Tryz.prog 32 #[.bool b] w (Says w (boolText b)) := by
  cases b
  · go_enter Tryz.func32, Tryz.ntmps32
    go_wp2
    go_ret
    exact ⟨rfl, by go_grown⟩
  · go_enter Tryz.func32, Tryz.ntmps32
    go_wp2
    go_ret
    exact ⟨rfl, by go_grown⟩
theorem boolText_le (b : Bool) : (boolText b).length ≤ 5 := by cases b <;> decide
theorem tepStr_safe20 (s : ByteArray) (h : s.data.toList.all plainB = true) : tepStr s = sString ++ ([32, 40] ++ (prevSafe s.data.toList ++ [41])) := by
  unfold tepStr
  rw [preview_safe _ (fun b hb => List.all_eq_true.1 h b hb)]
set_option maxHeartbeats 1600000 in
theorem bytes_FnFunc0TypeErrorCaseTable (name : ByteArray) (kind n : Int) (b : Bool) (s : ByteArray) (hname : name.size ≤ 140737488351232) (hs : s.size ≤ 140737488351232) (w : World) :
    Calls Tryz.prog 29 #[.string name, .int .i64 kind, .int .i64 n, .bool b, .string s] w fun e w' => (∃ b, e = .returned (.bool b)) ∧ Below w.heap.size w w' := by
  go_enter Tryz.func29, Tryz.ntmps29
  go_wp2
  repeat (any_goals go_region; any_goals go_wp2)
  all_goals (go_ret; exact ⟨⟨_, rfl⟩, by go_grown⟩)

set_option maxRecDepth 100000 in
set_option maxHeartbeats 1600000 in
theorem arm0_FnFunc0TypeErrorCaseTable (name : ByteArray) (n : Int) (b : Bool) (s : ByteArray) (W : World) (wname : name.size ≤ 140737488351232) (wn : (Lit.int .i64 n).wf = true) (ws : s.size ≤ 140737488351232) (hD : Tabs W) (qs : (s.size : Int) ≤ 1048576) :
    Calls Tryz.prog 7 #[.string name, .int .i64 0, .int .i64 n, .bool b, .string s] W fun e w' => e = .returned (.bool true) ∧ Below W.heap.size W w' := by
  have HZ := Lib.hid (bytes_FnFunc0TypeErrorCaseTable name 0 n b s wname ws W)
  have HD := Lib.hid hD
  have bn := bounds_int wn
  have yn := itoa_length_le n bn.1 bn.2
  have yb := boolText_le b
  have yp := prevSafe_length s.data.toList
  have HF := Lib.hid (fun w1 (hb : Below W.heap.size W w1) => func0_any name 0 (by omega) n b s wname bn.1 bn.2 (by omega) w1 (HD.out.on hb))
  have HI := Lib.hid (says_from (fun w _ => itoa20_any n bn.1 bn.2 w) HD.out)
  have HB := Lib.hid (says_from (fun w _ => boolText20 b w) HD.out)
  have HA := Lib.hid (fun w => plain20_any s (by omega) w)
  have HP := Lib.hid (says_from (fun w _ => prevSafe20_any s ws w) HD.out)
  clear hD
  have z2 : ¬ 9223372036854775807 < name.size + 23 := by omega
  have z3 : ¬ 9223372036854775807 < name.size + 23 + (4) := by omega
  have hE : (txtFunc0 name (tailOf 0 n b s) == (name ++ ⟨#[32, 99, 97, 110, 110, 111, 116, 32, 98, 101, 32, 97, 112, 112, 108, 105, 101, 100, 32, 116, 111, 58, 32]⟩ ++ ⟨#[110, 117, 108, 108]⟩ : ByteArray).toList) = true := eq_text (by simp [txtFunc0, tailOf])
  go_enter Tryz.func7, Tryz.ntmps7
  go_wp2_with fail
  refine HZ.out.mono ?_
  rintro e w0 ⟨⟨bb, rfl⟩, hb0⟩
  cases bb
  · go_wp2_with fail
    go_ret
    exact ⟨rfl, hb0⟩
  go_wp2_with fail
  all_goals (try (go_ret; exact ⟨rfl, hb0⟩))
  refine (HF.out _ hb0).mono ?_
  rintro e wf ⟨rfl, hbf'⟩
  have hbf := hb0.trans (below_of hbf' hb0.size)
  go_wp2_with fail
  go_ret
  exact ⟨rfl, hbf⟩
set_option maxRecDepth 100000 in
set_option maxHeartbeats 1600000 in
theorem arm1_FnFunc0TypeErrorCaseTable (name : ByteArray) (n : Int) (b : Bool) (s : ByteArray) (W : World) (wname : name.size ≤ 140737488351232) (wn : (Lit.int .i64 n).wf = true) (ws : s.size ≤ 140737488351232) (hD : Tabs W) (qs : (s.size : Int) ≤ 1048576) :
    Calls Tryz.prog 7 #[.string name, .int .i64 1, .int .i64 n, .bool b, .string s] W fun e w' => e = .returned (.bool true) ∧ Below W.heap.size W w' := by
  have HZ := Lib.hid (bytes_FnFunc0TypeErrorCaseTable name 1 n b s wname ws W)
  have HD := Lib.hid hD
  have bn := bounds_int wn
  have yn := itoa_length_le n bn.1 bn.2
  have yb := boolText_le b
  have yp := prevSafe_length s.data.toList
  have HF := Lib.hid (fun w1 (hb : Below W.heap.size W w1) => func0_any name 1 (by omega) n b s wname bn.1 bn.2 (by omega) w1 (HD.out.on hb))
  have HI := Lib.hid (says_from (fun w _ => itoa20_any n bn.1 bn.2 w) HD.out)
  have HB := Lib.hid (says_from (fun w _ => boolText20 b w) HD.out)
  have HA := Lib.hid (fun w => plain20_any s (by omega) w)
  have HP := Lib.hid (says_from (fun w _ => prevSafe20_any s ws w) HD.out)
  clear hD
  have y2 : ¬ 9223372036854775807 < 8 + (itoa n).length := by omega
  have y3 : ¬ 9223372036854775807 < 8 + (itoa n).length + 1 := by omega
  have z2 : ¬ 9223372036854775807 < name.size + 23 := by omega
  have z3 : ¬ 9223372036854775807 < name.size + 23 + (8 + (itoa n).length + 1) := by omega
  have hE : (txtFunc0 name (tailOf 1 n b s) == (name ++ ⟨#[32, 99, 97, 110, 110, 111, 116, 32, 98, 101, 32, 97, 112, 112, 108, 105, 101, 100, 32, 116, 111, 58, 32]⟩ ++ (⟨#[110, 117, 109, 98, 101, 114, 32, 40]⟩ ++ ⟨(itoa n).toArray⟩ ++ ⟨#[41]⟩) : ByteArray).toList) = true := eq_text (by simp [txtFunc0, tailOf, tepInt, sNumber])
  go_enter Tryz.func7, Tryz.ntmps7
  go_wp2_with fail
  refine HZ.out.mono ?_
  rintro e w0 ⟨⟨bb, rfl⟩, hb0⟩
  cases bb
  · go_wp2_with fail
    go_ret
    exact ⟨rfl, hb0⟩
  go_wp2_with fail
  all_goals (try (go_ret; exact ⟨rfl, hb0⟩))
  refine (HI.out _ hb0).mono ?_
  rintro e w1 ⟨rfl, hb1⟩
  go_wp2_with fail
  refine (HF.out _ hb1).mono ?_
  rintro e wf ⟨rfl, hbf'⟩
  have hbf := hb1.trans (below_of hbf' hb1.size)
  go_wp2_with fail
  go_ret
  exact ⟨rfl, hbf⟩
set_option maxRecDepth 100000 in
set_option maxHeartbeats 1600000 in
theorem arm2_FnFunc0TypeErrorCaseTable (name : ByteArray) (n : Int) (b : Bool) (s : ByteArray) (W : World) (wname : name.size ≤ 140737488351232) (wn : (Lit.int .i64 n).wf = true) (ws : s.size ≤ 140737488351232) (hD : Tabs W) (qs : (s.size : Int) ≤ 1048576) :
    Calls Tryz.prog 7 #[.string name, .int .i64 2, .int .i64 n, .bool b, .string s] W fun e w' => e = .returned (.bool true) ∧ Below W.heap.size W w' := by
  have HZ := Lib.hid (bytes_FnFunc0TypeErrorCaseTable name 2 n b s wname ws W)
  have HD := Lib.hid hD
  have bn := bounds_int wn
  have yn := itoa_length_le n bn.1 bn.2
  have yb := boolText_le b
  have yp := prevSafe_length s.data.toList
  have HF := Lib.hid (fun w1 (hb : Below W.heap.size W w1) => func0_any name 2 (by omega) n b s wname bn.1 bn.2 (by omega) w1 (HD.out.on hb))
  have HI := Lib.hid (says_from (fun w _ => itoa20_any n bn.1 bn.2 w) HD.out)
  have HB := Lib.hid (says_from (fun w _ => boolText20 b w) HD.out)
  have HA := Lib.hid (fun w => plain20_any s (by omega) w)
  have HP := Lib.hid (says_from (fun w _ => prevSafe20_any s ws w) HD.out)
  clear hD
  have y2 : ¬ 9223372036854775807 < 9 + (boolText b).length := by omega
  have y3 : ¬ 9223372036854775807 < 9 + (boolText b).length + 1 := by omega
  have z2 : ¬ 9223372036854775807 < name.size + 23 := by omega
  have z3 : ¬ 9223372036854775807 < name.size + 23 + (9 + (boolText b).length + 1) := by omega
  have hE : (txtFunc0 name (tailOf 2 n b s) == (name ++ ⟨#[32, 99, 97, 110, 110, 111, 116, 32, 98, 101, 32, 97, 112, 112, 108, 105, 101, 100, 32, 116, 111, 58, 32]⟩ ++ (⟨#[98, 111, 111, 108, 101, 97, 110, 32, 40]⟩ ++ ⟨(boolText b).toArray⟩ ++ ⟨#[41]⟩) : ByteArray).toList) = true := eq_text (by simp [txtFunc0, tailOf, tepBool, sBoolean])
  go_enter Tryz.func7, Tryz.ntmps7
  go_wp2_with fail
  refine HZ.out.mono ?_
  rintro e w0 ⟨⟨bb, rfl⟩, hb0⟩
  cases bb
  · go_wp2_with fail
    go_ret
    exact ⟨rfl, hb0⟩
  go_wp2_with fail
  all_goals (try (go_ret; exact ⟨rfl, hb0⟩))
  refine (HB.out _ hb0).mono ?_
  rintro e w1 ⟨rfl, hb1⟩
  go_wp2_with fail
  refine (HF.out _ hb1).mono ?_
  rintro e wf ⟨rfl, hbf'⟩
  have hbf := hb1.trans (below_of hbf' hb1.size)
  go_wp2_with fail
  go_ret
  exact ⟨rfl, hbf⟩
set_option maxRecDepth 100000 in
set_option maxHeartbeats 1600000 in
theorem arm3_FnFunc0TypeErrorCaseTable (name : ByteArray) (n : Int) (b : Bool) (s : ByteArray) (W : World) (wname : name.size ≤ 140737488351232) (wn : (Lit.int .i64 n).wf = true) (ws : s.size ≤ 140737488351232) (hD : Tabs W) (qs : (s.size : Int) ≤ 1048576) :
    Calls Tryz.prog 7 #[.string name, .int .i64 3, .int .i64 n, .bool b, .string s] W fun e w' => e = .returned (.bool true) ∧ Below W.heap.size W w' := by
  have HZ := Lib.hid (bytes_FnFunc0TypeErrorCaseTable name 3 n b s wname ws W)
  have HD := Lib.hid hD
  have bn := bounds_int wn
  have yn := itoa_length_le n bn.1 bn.2
  have yb := boolText_le b
  have yp := prevSafe_length s.data.toList
  have HF := Lib.hid (fun w1 (hb : Below W.heap.size W w1) => func0_any name 3 (by omega) n b s wname bn.1 bn.2 (by omega) w1 (HD.out.on hb))
  have HI := Lib.hid (says_from (fun w _ => itoa20_any n bn.1 bn.2 w) HD.out)
  have HB := Lib.hid (says_from (fun w _ => boolText20 b w) HD.out)
  have HA := Lib.hid (fun w => plain20_any s (by omega) w)
  have HP := Lib.hid (says_from (fun w _ => prevSafe20_any s ws w) HD.out)
  clear hD
  have y2 : ¬ 9223372036854775807 < 8 + (prevSafe s.data.toList).length := by omega
  have y3 : ¬ 9223372036854775807 < 8 + (prevSafe s.data.toList).length + 1 := by omega
  have z2 : ¬ 9223372036854775807 < name.size + 23 := by omega
  have z3 : ¬ 9223372036854775807 < name.size + 23 + (8 + (prevSafe s.data.toList).length + 1) := by omega
  go_enter Tryz.func7, Tryz.ntmps7
  go_wp2_with fail
  refine HZ.out.mono ?_
  rintro e w0 ⟨⟨bb, rfl⟩, hb0⟩
  cases bb
  · go_wp2_with fail
    go_ret
    exact ⟨rfl, hb0⟩
  go_wp2_with fail
  all_goals (try (go_ret; exact ⟨rfl, hb0⟩))
  refine (HA.out _).mono ?_
  rintro e w1 ⟨rfl, hb1'⟩
  have hb1 := hb0.trans (below_of hb1' hb0.size)
  clear hb1'
  cases hall : s.data.toList.all plainB
  · go_wp2_with fail
    go_ret
    exact ⟨rfl, hb1⟩
  have hsafe := tepStr_safe20 s hall
  have hE : (txtFunc0 name (tailOf 3 n b s) == (name ++ ⟨#[32, 99, 97, 110, 110, 111, 116, 32, 98, 101, 32, 97, 112, 112, 108, 105, 101, 100, 32, 116, 111, 58, 32]⟩ ++ (⟨#[115, 116, 114, 105, 110, 103, 32, 40]⟩ ++ ⟨(prevSafe s.data.toList).toArray⟩ ++ ⟨#[41]⟩) : ByteArray).toList) = true := eq_text (by simp [txtFunc0, tailOf, hsafe, sString])
  clear hsafe
  go_wp2_with fail
  refine (HP.out _ hb1).mono ?_
  rintro e w2 ⟨rfl, hb2⟩
  go_wp2_with fail
  refine (HF.out _ hb2).mono ?_
  rintro e wf ⟨rfl, hbf'⟩
  have hbf := hb2.trans (below_of hbf' hb2.size)
  go_wp2_with fail
  go_ret
  exact ⟨rfl, hbf⟩
set_option maxRecDepth 100000 in
set_option maxHeartbeats 3200000 in
theorem walk_FnFunc0TypeErrorCaseTable (name : ByteArray) (kind n : Int) (b : Bool) (s : ByteArray) (W : World) (wname : name.size ≤ 140737488351232) (wk : (Lit.int .i64 kind).wf = true) (wn : (Lit.int .i64 n).wf = true) (ws : s.size ≤ 140737488351232) (hD : Tabs W) :
    Calls Tryz.prog 7 #[.string name, .int .i64 kind, .int .i64 n, .bool b, .string s] W fun e w' => e = .returned (.bool true) ∧ Below W.heap.size W w' := by
  have HZ := Lib.hid (bytes_FnFunc0TypeErrorCaseTable name kind n b s wname ws W)
  have HD := Lib.hid hD
  have bn := bounds_int wn
  have yn := itoa_length_le n bn.1 bn.2
  have yb := boolText_le b
  have yp := prevSafe_length s.data.toList
  clear hD
  by_cases g1 : kind < 0
  · go_enter Tryz.func7, Tryz.ntmps7
    go_wp2_with fail
    refine HZ.out.mono ?_
    rintro e w0 ⟨⟨bb, rfl⟩, hb0⟩
    cases bb
    · go_wp2_with fail
      go_ret
      exact ⟨rfl, hb0⟩
    go_wp2_with fail
    all_goals (try (go_ret; exact ⟨rfl, hb0⟩))
  by_cases g2 : 3 < kind
  · have g1' : ¬ kind < 0 := g1
    go_enter Tryz.func7, Tryz.ntmps7
    go_wp2_with fail
    refine HZ.out.mono ?_
    rintro e w0 ⟨⟨bb, rfl⟩, hb0⟩
    cases bb
    · go_wp2_with fail
      go_ret
      exact ⟨rfl, hb0⟩
    go_wp2_with fail
    all_goals (try (go_ret; exact ⟨rfl, hb0⟩))
  by_cases gs : 1048576 < s.size
  · have qs : (1048576 : Int) < (s.size : Int) := by omega
    go_enter Tryz.func7, Tryz.ntmps7
    go_wp2_with fail
    refine HZ.out.mono ?_
    rintro e w0 ⟨⟨bb, rfl⟩, hb0⟩
    cases bb
    · go_wp2_with fail
      go_ret
      exact ⟨rfl, hb0⟩
    go_wp2_with fail
    all_goals (try (go_ret; exact ⟨rfl, hb0⟩))
  have qs : (s.size : Int) ≤ 1048576 := by omega
  have h4 : kind = 0 ∨ kind = 1 ∨ kind = 2 ∨ kind = 3 := by omega
  rcases h4 with rfl | rfl | rfl | rfl
  · exact arm0_FnFunc0TypeErrorCaseTable name n b s W wname wn ws HD.out qs
  · exact arm1_FnFunc0TypeErrorCaseTable name n b s W wname wn ws HD.out qs
  · exact arm2_FnFunc0TypeErrorCaseTable name n b s W wname wn ws HD.out qs
  · exact arm3_FnFunc0TypeErrorCaseTable name n b s W wname wn ws HD.out qs
end Go.Proofs.YtconaigmmhdlmaaGreatFmt
