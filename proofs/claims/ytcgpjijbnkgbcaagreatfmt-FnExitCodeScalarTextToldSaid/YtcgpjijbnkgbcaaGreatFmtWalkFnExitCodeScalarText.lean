/-
  The walk of the law FnExitCodeScalarText.
-/
import Derived.Test.YtcgpjijbnkgbcaaGreatFmtExit
import Derived.Test.YtcgpjijbnkgbcaaGreatFmtItoa10
namespace Go.Proofs.YtcgpjijbnkgbcaaGreatFmt
set_option linter.unusedVariables false
set_option linter.unusedSimpArgs false
open Go.RowKit Go.Lib Go.Sort

set_option maxRecDepth 100000 in
set_option maxHeartbeats 800000 in
theorem zz_exitInt (n : Int) (code : Int) (h0 : -9223372036854775808 ≤ n) (h1 : n ≤ 9223372036854775807) (w : World) (hT : Tabs w) :
    Calls Tryz.prog 25 #[.int .i64 n, .int .i64 code] w (Says w (errT ++ (itoa n))) := by
  have hb : Below w.heap.size w (w.alloc (.cells #[.iface 3 (.int .i64 n), .int .i64 code] 60)) := by go_grown
  have HP := Lib.hid (exit_error (.iface 3 (.int .i64 n)) (itoa n) (Nat.le_trans (itoa_length_le n h0 h1) (by omega)) (fun w => asIntStr _ w) (fun w hT => jm_int n h0 h1 w hT) (w.alloc (.cells #[.iface 3 (.int .i64 n), .int .i64 code] 60)) (hT.on hb) w.heap.size (by go_simp))
  have HB := Lib.hid hb
  clear hb hT
  go_enter Tryz.func25, Tryz.ntmps25
  go_wp2_with fail
  refine HP.out.mono ?_
  rintro e w1 ⟨rfl, hb1⟩
  have hb2 := HB.out.trans (below_of hb1 HB.out.size)
  go_wp2_with fail
  go_ret
  exact ⟨rfl, hb2⟩

set_option maxRecDepth 100000 in
set_option maxHeartbeats 800000 in
theorem zz_exitBool (x : Bool) (code : Int) (w : World) (hT : Tabs w) :
    Calls Tryz.prog 26 #[.bool x, .int .i64 code] w (Says w (errT ++ (boolText x))) := by
  have hb : Below w.heap.size w (w.alloc (.cells #[.iface 4 (.bool x), .int .i64 code] 60)) := by go_grown
  have HP := Lib.hid (exit_error (.iface 4 (.bool x)) (boolText x) (by cases x <;> decide) (fun w => asBoolStr _ w) (fun w _ => jm_bool x w) (w.alloc (.cells #[.iface 4 (.bool x), .int .i64 code] 60)) (hT.on hb) w.heap.size (by go_simp))
  have HB := Lib.hid hb
  clear hb hT
  go_enter Tryz.func26, Tryz.ntmps26
  go_wp2_with fail
  refine HP.out.mono ?_
  rintro e w1 ⟨rfl, hb1⟩
  have hb2 := HB.out.trans (below_of hb1 HB.out.size)
  go_wp2_with fail
  go_ret
  exact ⟨rfl, hb2⟩

set_option maxRecDepth 100000 in
set_option maxHeartbeats 800000 in
theorem zz_exitNull (code : Int) (w : World) (hT : Tabs w) :
    Calls Tryz.prog 27 #[.int .i64 code] w (Says w (errT ++ sNull.data.toList)) := by
  have hb : Below w.heap.size w (w.alloc (.cells #[.nilIface, .int .i64 code] 60)) := by go_grown
  have HP := Lib.hid (exit_error (.nilIface) sNull.data.toList (by decide) asNilStr (fun w _ => jm_nil w) (w.alloc (.cells #[.nilIface, .int .i64 code] 60)) (hT.on hb) w.heap.size (by go_simp))
  have HB := Lib.hid hb
  clear hb hT
  go_enter Tryz.func27, Tryz.ntmps27
  go_wp2_with fail
  refine HP.out.mono ?_
  rintro e w1 ⟨rfl, hb1⟩
  have hb2 := HB.out.trans (below_of hb1 HB.out.size)
  go_wp2_with fail
  go_ret
  exact ⟨rfl, hb2⟩

set_option maxRecDepth 100000 in
set_option maxHeartbeats 1600000 in
theorem walk_FnExitCodeScalarText (n : Int) (x : Bool) (code : Int) (W : World) (wn : (Lit.int .i64 n).wf = true) (wc : (Lit.int .i64 code).wf = true) (hD : Tabs W) :
    Calls Tryz.prog 9 #[.int .i64 n, .bool x, .int .i64 code] W fun e w' => e = .returned (.bool true) ∧ Below W.heap.size W w' := by
  have b1 := bounds_int wn
  have H1 := Lib.hid (says_from (zz_exitInt n code b1.1 b1.2) hD)
  have H2 := Lib.hid (says_from (zz_exitInt n 0 b1.1 b1.2) hD)
  have HI := Lib.hid (says_from (fun w _ => itoa10_any n b1.1 b1.2 w) hD)
  have HX := Lib.hid (says_from (zz_exitBool x code) hD)
  have HN := Lib.hid (says_from (zz_exitNull code) hD)
  have yl := itoa_length_le n b1.1 b1.2
  have z1 : ¬ 9223372036854775807 < 7 + (itoa n).length := by omega
  have hE1 : ((errT ++ itoa n) == (⟨#[101, 114, 114, 111, 114, 58, 32]⟩ ++ ⟨(itoa n).toArray⟩ : ByteArray).toList) = true := eq_text (by simp [errT])
  have hN1 : ((errT ++ itoa n) != (⟨#[101, 114, 114, 111, 114, 58, 32]⟩ ++ ⟨(itoa n).toArray⟩ : ByteArray).toList) = false := by rw [bne, hE1]; rfl
  have hE2 : ((errT ++ itoa n) == (errT ++ itoa n)) = true := beq_self_eq_true _
  have hN2 : ((errT ++ itoa n) != (errT ++ itoa n)) = false := by rw [bne, hE2]; rfl
  have hEN : ((errT ++ sNull.data.toList) == (⟨#[101, 114, 114, 111, 114, 58, 32, 110, 117, 108, 108]⟩ : ByteArray).toList) = true := eq_text rfl
  clear hD
  cases x
  · have hEB : ((errT ++ boolText false) == (⟨#[101, 114, 114, 111, 114, 58, 32, 102, 97, 108, 115, 101]⟩ : ByteArray).toList) = true := eq_text rfl
    have hNB : ((errT ++ boolText false) != (⟨#[101, 114, 114, 111, 114, 58, 32, 102, 97, 108, 115, 101]⟩ : ByteArray).toList) = false := by rw [bne, hEB]; rfl
    go_enter Tryz.func9, Tryz.ntmps9
    go_wp2_with fail
    refine (H1.out _ (Below.refl _ _)).mono ?_
    rintro e w1 ⟨rfl, hb1⟩
    go_wp2_with fail
    refine (HI.out _ hb1).mono ?_
    rintro e w2 ⟨rfl, hb2⟩
    go_wp2_with fail
    refine (H2.out _ hb2).mono ?_
    rintro e w3 ⟨rfl, hb3⟩
    go_wp2_with fail
    refine (H1.out _ hb3).mono ?_
    rintro e w4 ⟨rfl, hb4⟩
    go_wp2_with fail
    refine (HX.out _ hb4).mono ?_
    rintro e w5 ⟨rfl, hb5⟩
    go_wp2_with fail
    refine (HN.out _ hb5).mono ?_
    rintro e w6 ⟨rfl, hb6⟩
    go_wp2_with fail
    go_ret
    exact ⟨rfl, hb6⟩
  · have hEB : ((errT ++ boolText true) == (⟨#[101, 114, 114, 111, 114, 58, 32, 116, 114, 117, 101]⟩ : ByteArray).toList) = true := eq_text rfl
    have hNB : ((errT ++ boolText true) != (⟨#[101, 114, 114, 111, 114, 58, 32, 116, 114, 117, 101]⟩ : ByteArray).toList) = false := by rw [bne, hEB]; rfl
    go_enter Tryz.func9, Tryz.ntmps9
    go_wp2_with fail
    refine (H1.out _ (Below.refl _ _)).mono ?_
    rintro e w1 ⟨rfl, hb1⟩
    go_wp2_with fail
    refine (HI.out _ hb1).mono ?_
    rintro e w2 ⟨rfl, hb2⟩
    go_wp2_with fail
    refine (H2.out _ hb2).mono ?_
    rintro e w3 ⟨rfl, hb3⟩
    go_wp2_with fail
    refine (H1.out _ hb3).mono ?_
    rintro e w4 ⟨rfl, hb4⟩
    go_wp2_with fail
    refine (HX.out _ hb4).mono ?_
    rintro e w5 ⟨rfl, hb5⟩
    go_wp2_with fail
    refine (HN.out _ hb5).mono ?_
    rintro e w6 ⟨rfl, hb6⟩
    go_wp2_with fail
    go_ret
    exact ⟨rfl, hb6⟩
end Go.Proofs.YtcgpjijbnkgbcaaGreatFmt
