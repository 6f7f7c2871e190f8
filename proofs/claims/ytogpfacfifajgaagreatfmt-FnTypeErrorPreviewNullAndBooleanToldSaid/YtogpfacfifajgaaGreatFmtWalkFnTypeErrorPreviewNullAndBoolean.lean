/-
  The walk of the law FnTypeErrorPreviewNullAndBoolean.
-/
import Derived.Test.YtogpfacfifajgaaGreatFmtTepAll
import Derived.Deep.RegionWith
namespace Go.Proofs.YtogpfacfifajgaaGreatFmt
set_option linter.unusedVariables false
set_option linter.unusedSimpArgs false
open Go.RowKit Go.Lib Go.Sort

set_option maxRecDepth 100000 in
set_option maxHeartbeats 1600000 in
theorem zztep_bool (b : Bool) (w : World) (hT : Tabs w) :
    Calls Tryz.prog 12 #[.bool b] w (Says w (tepBool b)) := by
  have HP := Lib.hid (tep_bool b w hT)
  clear hT
  go_enter Tryz.func12, Tryz.ntmps12
  go_wp2_with (go_at_call 31; refine HP.out.mono ?_; rintro e w1 ⟨rfl, hb1⟩)
  go_ret
  exact ⟨rfl, hb1⟩

set_option maxRecDepth 100000 in
set_option maxHeartbeats 1600000 in
theorem zztep_nil (w : World) :
    Calls Tryz.prog 11 #[] w (Says w [110, 117, 108, 108]) := by
  have HP := Lib.hid (tep_nil w)
  go_enter Tryz.func11, Tryz.ntmps11
  go_wp2_with (go_at_call 31; refine HP.out.mono ?_; rintro e w1 ⟨rfl, hb1⟩)
  go_ret
  exact ⟨rfl, hb1⟩

set_option maxRecDepth 100000 in
set_option maxHeartbeats 1600000 in
theorem walk_FnTypeErrorPreviewNullAndBoolean (b : Bool) (W : World) (hD : Tabs W) :
    Calls Tryz.prog 3 #[.bool b] W fun e w' => e = .returned (.bool true) ∧ Below W.heap.size W w' := by
  have HP := Lib.hid (says_from (zztep_bool b) hD)
  have HN := Lib.hid (says_from (fun w _ => zztep_nil w) hD)
  have hE1 : ([110, 117, 108, 108] == (⟨#[110, 117, 108, 108]⟩ : ByteArray).toList) = true := eq_text rfl
  clear hD
  cases b
  · have hE : (tepBool false == (⟨#[98, 111, 111, 108, 101, 97, 110, 32, 40, 102, 97, 108, 115, 101, 41]⟩ : ByteArray).toList) = true := eq_text rfl
    go_enter Tryz.func3, Tryz.ntmps3
    go_wp2_with (first
      | (go_at_call 12; refine (HP.out _ ?_).mono ?_; go_grown; rintro e w1 ⟨rfl, hb1⟩)
      | (go_at_call 11; refine (HN.out _ ?_).mono ?_; go_grown; rintro e w2 ⟨rfl, hb2⟩))
    go_ret
    exact ⟨rfl, hb1⟩
  · have hE : (tepBool true == (⟨#[98, 111, 111, 108, 101, 97, 110, 32, 40, 116, 114, 117, 101, 41]⟩ : ByteArray).toList) = true := eq_text rfl
    go_enter Tryz.func3, Tryz.ntmps3
    go_wp2_with (first
      | (go_at_call 12; refine (HP.out _ ?_).mono ?_; go_grown; rintro e w1 ⟨rfl, hb1⟩)
      | (go_at_call 11; refine (HN.out _ ?_).mono ?_; go_grown; rintro e w2 ⟨rfl, hb2⟩))
    go_ret
    exact ⟨rfl, hb1⟩
end Go.Proofs.YtogpfacfifajgaaGreatFmt
