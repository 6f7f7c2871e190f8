/-
  The walk of the law FnFunc2TypeErrorCaseTable.
-/
import Derived.Test.YtconaigmmhdlmaaGreatFmtErrFunc2
import Derived.Test.YtconaigmmhdlmaaGreatFmtPrevStr
import Derived.Test.YtconaigmmhdlmaaGreatFmtPlain20
import Derived.Test.YtconaigmmhdlmaaGreatFmtPrev20
import Derived.Test.YtconaigmmhdlmaaGreatFmtItoa20
namespace Go.Proofs.YtconaigmmhdlmaaGreatFmt
set_option linter.unusedVariables false
set_option linter.unusedSimpArgs false
open Go.RowKit Go.Lib Go.Sort

set_option maxRecDepth 100000 in
set_option maxHeartbeats 1600000 in
theorem zz_FnFunc2TypeErrorCaseTable_ints (name : ByteArray) (v : Int) (u : Int) (x : Int) (hname : name.size ≤ 140737488351232) (hv0 : -9223372036854775808 ≤ v) (hv1 : v ≤ 9223372036854775807) (hu0 : -9223372036854775808 ≤ u) (hu1 : u ≤ 9223372036854775807) (hx0 : -9223372036854775808 ≤ x) (hx1 : x ≤ 9223372036854775807) (w : World) (hT : Tabs w) :
    Calls Tryz.prog 41 #[.string name, .int .i64 v, .int .i64 u, .int .i64 x] w (Says w (txtFunc2 name (itoa u) (itoa x) (tepInt v))) := by
  have hb : Below w.heap.size w (w.alloc (.cells #[.string name, .iface 3 (.int .i64 v), .iface 3 (.int .i64 u), .iface 3 (.int .i64 x)] 58)) := by go_grown
  have hl : w.heap.size < (w.alloc (.cells #[.string name, .iface 3 (.int .i64 v), .iface 3 (.int .i64 u), .iface 3 (.int .i64 x)] 58)).heap.size := by show w.heap.size < (w.heap.push _).size; simp
  have HP := Lib.hid (errFunc2 name (.iface 3 (.int .i64 u)) (itoa u) (.iface 3 (.int .i64 x)) (itoa x) (.iface 3 (.int .i64 v)) (tepInt v) hname (Nat.le_trans (itoa_length_le u hu0 hu1) (by omega)) (Nat.le_trans (itoa_length_le x hx0 hx1) (by omega)) (tepInt_le v hv0 hv1)
    (preview_int u hu0 hu1) (preview_int x hx0 hx1) (tep_int v hv0 hv1)
    (w.alloc (.cells #[.string name, .iface 3 (.int .i64 v), .iface 3 (.int .i64 u), .iface 3 (.int .i64 x)] 58)) (hT.on hb) w.heap.size hl (by go_simp) (by go_simp) (by go_simp) (by go_simp))
  have HB := Lib.hid hb
  clear hb hl hT
  go_enter Tryz.func41, Tryz.ntmps41
  go_wp2_with fail
  refine HP.out.mono ?_
  rintro e w1 ⟨rfl, hb1⟩
  have hb2 := HB.out.trans (below_of hb1 HB.out.size)
  go_wp2_with fail
  go_ret
  exact ⟨rfl, hb2⟩

set_option maxRecDepth 100000 in
set_option maxHeartbeats 1600000 in
theorem zz_FnFunc2TypeErrorCaseTable_strs (name : ByteArray) (sv : ByteArray) (su : ByteArray) (sx : ByteArray) (hname : name.size ≤ 140737488351232) (hsv : sv.size ≤ 2097152) (hsu : su.size ≤ 2097152) (hsx : sx.size ≤ 2097152) (w : World) (hT : Tabs w) :
    Calls Tryz.prog 42 #[.string name, .string sv, .string su, .string sx] w (Says w (txtFunc2 name (previewOf (quoted su.data.toList) dots) (previewOf (quoted sx.data.toList) dots) (tepStr sv))) := by
  have hb : Below w.heap.size w (w.alloc (.cells #[.string name, .iface 9 (.string sv), .iface 9 (.string su), .iface 9 (.string sx)] 58)) := by go_grown
  have hl : w.heap.size < (w.alloc (.cells #[.string name, .iface 9 (.string sv), .iface 9 (.string su), .iface 9 (.string sx)] 58)).heap.size := by show w.heap.size < (w.heap.push _).size; simp
  have HP := Lib.hid (errFunc2 name (.iface 9 (.string su)) (previewOf (quoted su.data.toList) dots) (.iface 9 (.string sx)) (previewOf (quoted sx.data.toList) dots) (.iface 9 (.string sv)) (tepStr sv) hname (Nat.le_trans (previewOf_le _) (by omega)) (Nat.le_trans (previewOf_le _) (by omega)) (Nat.le_trans (tepStr_le sv) (by omega))
    (preview_str su hsu) (preview_str sx hsx) (tep_str sv hsv)
    (w.alloc (.cells #[.string name, .iface 9 (.string sv), .iface 9 (.string su), .iface 9 (.string sx)] 58)) (hT.on hb) w.heap.size hl (by go_simp) (by go_simp) (by go_simp) (by go_simp))
  have HB := Lib.hid hb
  clear hb hl hT
  go_enter Tryz.func42, Tryz.ntmps42
  go_wp2_with fail
  refine HP.out.mono ?_
  rintro e w1 ⟨rfl, hb1⟩
  have hb2 := HB.out.trans (below_of hb1 HB.out.size)
  go_wp2_with fail
  go_ret
  exact ⟨rfl, hb2⟩

set_option maxHeartbeats 1600000 in
theorem bytes_FnFunc2TypeErrorCaseTable (name : ByteArray) (ints : Bool) (v : Int) (u : Int) (x : Int) (sv : ByteArray) (su : ByteArray) (sx : ByteArray) (hname : name.size ≤ 140737488351232) (hsv : sv.size ≤ 140737488351232) (hsu : su.size ≤ 140737488351232) (hsx : sx.size ≤ 140737488351232) (w : World) :
    Calls Tryz.prog 40 #[.string name, .bool ints, .int .i64 v, .int .i64 u, .int .i64 x, .string sv, .string su, .string sx] w fun e w' => (∃ b, e = .returned (.bool b)) ∧ Below w.heap.size w w' := by
  go_enter Tryz.func40, Tryz.ntmps40
  go_wp2
  repeat (any_goals go_region; any_goals go_wp2)
  all_goals (go_ret; exact ⟨⟨_, rfl⟩, by go_grown⟩)

theorem tepStr_safe20 (s : ByteArray) (h : s.data.toList.all plainB = true) : tepStr s = sString ++ ([32, 40] ++ (prevSafe s.data.toList ++ [41])) := by
  unfold tepStr
  rw [preview_safe _ (fun b hb => List.all_eq_true.1 h b hb)]

set_option maxRecDepth 100000 in
set_option maxHeartbeats 3200000 in
theorem walk_FnFunc2TypeErrorCaseTable (name : ByteArray) (ints : Bool) (v : Int) (u : Int) (x : Int) (sv : ByteArray) (su : ByteArray) (sx : ByteArray) (W : World) (wname : name.size ≤ 140737488351232) (wv : (Lit.int .i64 v).wf = true) (wu : (Lit.int .i64 u).wf = true) (wx : (Lit.int .i64 x).wf = true) (wsv : sv.size ≤ 140737488351232) (wsu : su.size ≤ 140737488351232) (wsx : sx.size ≤ 140737488351232) (hD : Tabs W) :
    Calls Tryz.prog 10 #[.string name, .bool ints, .int .i64 v, .int .i64 u, .int .i64 x, .string sv, .string su, .string sx] W fun e w' => e = .returned (.bool true) ∧ Below W.heap.size W w' := by
  have HZ := Lib.hid (bytes_FnFunc2TypeErrorCaseTable name ints v u x sv su sx wname wsv wsu wsx W)
  have HD := Lib.hid hD
  clear hD
  cases ints
  · by_cases gsv : 1048576 < sv.size
    · have qsv : (1048576 : Int) < (sv.size : Int) := by omega
      go_enter Tryz.func10, Tryz.ntmps10
      go_wp2_with fail
      refine HZ.out.mono ?_
      rintro e w0 ⟨⟨b, rfl⟩, hb0⟩
      cases b
      · go_wp2_with fail
        go_ret
        exact ⟨rfl, hb0⟩
      go_wp2_with fail
      all_goals (try (go_ret; exact ⟨rfl, hb0⟩))
    by_cases gsu : 1048576 < su.size
    · have qsu : (1048576 : Int) < (su.size : Int) := by omega
      go_enter Tryz.func10, Tryz.ntmps10
      go_wp2_with fail
      refine HZ.out.mono ?_
      rintro e w0 ⟨⟨b, rfl⟩, hb0⟩
      cases b
      · go_wp2_with fail
        go_ret
        exact ⟨rfl, hb0⟩
      go_wp2_with fail
      all_goals (try (go_ret; exact ⟨rfl, hb0⟩))
    by_cases gsx : 1048576 < sx.size
    · have qsx : (1048576 : Int) < (sx.size : Int) := by omega
      go_enter Tryz.func10, Tryz.ntmps10
      go_wp2_with fail
      refine HZ.out.mono ?_
      rintro e w0 ⟨⟨b, rfl⟩, hb0⟩
      cases b
      · go_wp2_with fail
        go_ret
        exact ⟨rfl, hb0⟩
      go_wp2_with fail
      all_goals (try (go_ret; exact ⟨rfl, hb0⟩))
    have qsv : (sv.size : Int) ≤ 1048576 := by omega
    have Asv := Lib.hid (fun w => plain20_any sv (by omega) w)
    have Isv := Lib.hid (says_from (fun w _ => prevSafe20_any sv wsv w) HD.out)
    have ysv := prevSafe_length sv.data.toList
    have qsu : (su.size : Int) ≤ 1048576 := by omega
    have Asu := Lib.hid (fun w => plain20_any su (by omega) w)
    have Isu := Lib.hid (says_from (fun w _ => prevSafe20_any su wsu w) HD.out)
    have ysu := prevSafe_length su.data.toList
    have qsx : (sx.size : Int) ≤ 1048576 := by omega
    have Asx := Lib.hid (fun w => plain20_any sx (by omega) w)
    have Isx := Lib.hid (says_from (fun w _ => prevSafe20_any sx wsx w) HD.out)
    have ysx := prevSafe_length sx.data.toList
    go_enter Tryz.func10, Tryz.ntmps10
    go_wp2_with fail
    refine HZ.out.mono ?_
    rintro e w0 ⟨⟨b, rfl⟩, hb0⟩
    cases b
    · go_wp2_with fail
      go_ret
      exact ⟨rfl, hb0⟩
    go_wp2_with fail
    all_goals (try (go_ret; exact ⟨rfl, hb0⟩))
    refine (Asv.out _).mono ?_
    rintro e a0 ⟨rfl, ha0'⟩
    have ha0 := hb0.trans (below_of ha0' hb0.size)
    clear ha0'
    cases hssv : sv.data.toList.all plainB
    · go_wp2_with fail
      go_ret
      exact ⟨rfl, ha0⟩
    go_wp2_with fail
    refine (Asu.out _).mono ?_
    rintro e a1 ⟨rfl, ha1'⟩
    have ha1 := ha0.trans (below_of ha1' ha0.size)
    clear ha1'
    cases hssu : su.data.toList.all plainB
    · go_wp2_with fail
      go_ret
      exact ⟨rfl, ha1⟩
    go_wp2_with fail
    refine (Asx.out _).mono ?_
    rintro e a2 ⟨rfl, ha2'⟩
    have ha2 := ha1.trans (below_of ha2' ha1.size)
    clear ha2'
    cases hssx : sx.data.toList.all plainB
    · go_wp2_with fail
      go_ret
      exact ⟨rfl, ha2⟩
    go_wp2_with fail
    have HP := says_from (zz_FnFunc2TypeErrorCaseTable_strs name sv su sx wname (by omega) (by omega) (by omega)) HD.out
    rw [tepStr_safe20 sv hssv, preview_safe su.data.toList (fun b hb => List.all_eq_true.1 hssu b hb), preview_safe sx.data.toList (fun b hb => List.all_eq_true.1 hssx b hb)] at HP
    have HP := Lib.hid HP
    have z2 : ¬ 9223372036854775807 < name.size + 1 := by omega
    have z3 : ¬ 9223372036854775807 < name.size + 1 + (prevSafe su.data.toList).length := by omega
    have z4 : ¬ 9223372036854775807 < name.size + 1 + (prevSafe su.data.toList).length + 2 := by omega
    have z5 : ¬ 9223372036854775807 < name.size + 1 + (prevSafe su.data.toList).length + 2 + (prevSafe sx.data.toList).length := by omega
    have z6 : ¬ 9223372036854775807 < name.size + 1 + (prevSafe su.data.toList).length + 2 + (prevSafe sx.data.toList).length + 1 := by omega
    have z7 : ¬ 9223372036854775807 < name.size + 1 + (prevSafe su.data.toList).length + 2 + (prevSafe sx.data.toList).length + 1 + 23 := by omega
    have z8 : ¬ 9223372036854775807 < name.size + 1 + (prevSafe su.data.toList).length + 2 + (prevSafe sx.data.toList).length + 1 + 23 + 8 := by omega
    have z9 : ¬ 9223372036854775807 < name.size + 1 + (prevSafe su.data.toList).length + 2 + (prevSafe sx.data.toList).length + 1 + 23 + 8 + (prevSafe sv.data.toList).length := by omega
    have z10 : ¬ 9223372036854775807 < name.size + 1 + (prevSafe su.data.toList).length + 2 + (prevSafe sx.data.toList).length + 1 + 23 + 8 + (prevSafe sv.data.toList).length + 1 := by omega
    have hE : ((txtFunc2 name (prevSafe su.data.toList) (prevSafe sx.data.toList) (sString ++ ([32, 40] ++ (prevSafe sv.data.toList ++ [41])))) == (name ++ ⟨#[40]⟩ ++ ⟨(prevSafe su.data.toList).toArray⟩ ++ ⟨#[59, 32]⟩ ++ ⟨(prevSafe sx.data.toList).toArray⟩ ++ ⟨#[41]⟩ ++ ⟨#[32, 99, 97, 110, 110, 111, 116, 32, 98, 101, 32, 97, 112, 112, 108, 105, 101, 100, 32, 116, 111, 58, 32]⟩ ++ ⟨#[115, 116, 114, 105, 110, 103, 32, 40]⟩ ++ ⟨(prevSafe sv.data.toList).toArray⟩ ++ ⟨#[41]⟩ : ByteArray).toList) = true := eq_text (by simp [txtFunc2, sString])
    refine (HP.out _ ha2).mono ?_
    rintro e w1 ⟨rfl, hb1⟩
    go_wp2_with fail
    refine (Isu.out _ hb1).mono ?_
    rintro e w2 ⟨rfl, hb2⟩
    go_wp2_with fail
    refine (Isx.out _ hb2).mono ?_
    rintro e w3 ⟨rfl, hb3⟩
    go_wp2_with fail
    refine (Isv.out _ hb3).mono ?_
    rintro e w4 ⟨rfl, hb4⟩
    go_wp2_with fail
    go_ret
    first | exact ⟨rfl, hb4⟩ | exact ⟨congrArg (fun b => Ending.returned (Value.bool b)) hE, hb4⟩
  · have bv := bounds_int wv
    have yv := itoa_length_le v bv.1 bv.2
    have Iv := Lib.hid (says_from (fun w _ => itoa20_any v bv.1 bv.2 w) HD.out)
    have bu := bounds_int wu
    have yu := itoa_length_le u bu.1 bu.2
    have Iu := Lib.hid (says_from (fun w _ => itoa20_any u bu.1 bu.2 w) HD.out)
    have bx := bounds_int wx
    have yx := itoa_length_le x bx.1 bx.2
    have Ix := Lib.hid (says_from (fun w _ => itoa20_any x bx.1 bx.2 w) HD.out)
    have HP := Lib.hid (says_from (zz_FnFunc2TypeErrorCaseTable_ints name v u x wname bv.1 bv.2 bu.1 bu.2 bx.1 bx.2) HD.out)
    have z2 : ¬ 9223372036854775807 < name.size + 1 := by omega
    have z3 : ¬ 9223372036854775807 < name.size + 1 + (itoa u).length := by omega
    have z4 : ¬ 9223372036854775807 < name.size + 1 + (itoa u).length + 2 := by omega
    have z5 : ¬ 9223372036854775807 < name.size + 1 + (itoa u).length + 2 + (itoa x).length := by omega
    have z6 : ¬ 9223372036854775807 < name.size + 1 + (itoa u).length + 2 + (itoa x).length + 1 := by omega
    have z7 : ¬ 9223372036854775807 < name.size + 1 + (itoa u).length + 2 + (itoa x).length + 1 + 23 := by omega
    have z8 : ¬ 9223372036854775807 < name.size + 1 + (itoa u).length + 2 + (itoa x).length + 1 + 23 + 8 := by omega
    have z9 : ¬ 9223372036854775807 < name.size + 1 + (itoa u).length + 2 + (itoa x).length + 1 + 23 + 8 + (itoa v).length := by omega
    have z10 : ¬ 9223372036854775807 < name.size + 1 + (itoa u).length + 2 + (itoa x).length + 1 + 23 + 8 + (itoa v).length + 1 := by omega
    have hE : ((txtFunc2 name (itoa u) (itoa x) (tepInt v)) == (name ++ ⟨#[40]⟩ ++ ⟨(itoa u).toArray⟩ ++ ⟨#[59, 32]⟩ ++ ⟨(itoa x).toArray⟩ ++ ⟨#[41]⟩ ++ ⟨#[32, 99, 97, 110, 110, 111, 116, 32, 98, 101, 32, 97, 112, 112, 108, 105, 101, 100, 32, 116, 111, 58, 32]⟩ ++ ⟨#[110, 117, 109, 98, 101, 114, 32, 40]⟩ ++ ⟨(itoa v).toArray⟩ ++ ⟨#[41]⟩ : ByteArray).toList) = true := eq_text (by simp [txtFunc2, tepInt, sNumber])
    go_enter Tryz.func10, Tryz.ntmps10
    go_wp2_with fail
    refine HZ.out.mono ?_
    rintro e w0 ⟨⟨b, rfl⟩, hb0⟩
    cases b
    · go_wp2_with fail
      go_ret
      exact ⟨rfl, hb0⟩
    go_wp2_with fail
    all_goals (try (go_ret; exact ⟨rfl, hb0⟩))
    refine (HP.out _ hb0).mono ?_
    rintro e w1 ⟨rfl, hb1⟩
    go_wp2_with fail
    refine (Iu.out _ hb1).mono ?_
    rintro e w2 ⟨rfl, hb2⟩
    go_wp2_with fail
    refine (Ix.out _ hb2).mono ?_
    rintro e w3 ⟨rfl, hb3⟩
    go_wp2_with fail
    refine (Iv.out _ hb3).mono ?_
    rintro e w4 ⟨rfl, hb4⟩
    go_wp2_with fail
    go_ret
    first | exact ⟨rfl, hb4⟩ | exact ⟨congrArg (fun b => Ending.returned (Value.bool b)) hE, hb4⟩
end Go.Proofs.YtconaigmmhdlmaaGreatFmt
