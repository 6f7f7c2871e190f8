/-
  The walk of the law FnTypeErrorPreviewInt.
-/
import Derived.Test.YtogpfacfifajgaaGreatFmtTepAll
import Derived.Test.YtogpfacfifajgaaGreatFmtItoa30
import Derived.Deep.RegionWith
namespace Go.Proofs.YtogpfacfifajgaaGreatFmt
set_option linter.unusedVariables false
set_option linter.unusedSimpArgs false
open Go.RowKit Go.Lib Go.Sort

set_option maxRecDepth 100000 in
set_option maxHeartbeats 1600000 in
theorem zztep_int (n : Int) (h0 : -9223372036854775808 ≤ n) (h1 : n ≤ 9223372036854775807) (w : World) (hT : Tabs w) :
    Calls Tryz.prog 13 #[.int .i64 n] w (Says w (tepInt n)) := by
  have HP := Lib.hid (tep_int n h0 h1 w hT)
  clear hT
  go_enter Tryz.func13, Tryz.ntmps13
  go_wp2_with (go_at_call 31; refine HP.out.mono ?_; rintro e w1 ⟨rfl, hb1⟩)
  go_ret
  exact ⟨rfl, hb1⟩

set_option maxRecDepth 100000 in
set_option maxHeartbeats 1600000 in
theorem walk_FnTypeErrorPreviewInt (n : Int) (W : World) (wn : (Lit.int .i64 n).wf = true) (hD : Tabs W) :
    Calls Tryz.prog 4 #[.int .i64 n] W fun e w' => e = .returned (.bool true) ∧ Below W.heap.size W w' := by
  have b := bounds_int wn
  have HP := Lib.hid (says_from (zztep_int n b.1 b.2) hD)
  have HI := Lib.hid (says_from (fun w _ => itoa30_any n b.1 b.2 w) hD)
  have hlen := itoa_length_le n b.1 b.2
  have z1 : ¬ 9223372036854775807 < 8 + (itoa n).length := by omega
  have z2 : ¬ 9223372036854775807 < 8 + (itoa n).length + 1 := by omega
  have hE : (tepInt n == (⟨#[110, 117, 109, 98, 101, 114, 32, 40]⟩ ++ ⟨(itoa n).toArray⟩ ++ ⟨#[41]⟩ : ByteArray).toList) = true := eq_text (by simp [tepInt, sNumber])
  clear hD
  go_enter Tryz.func4, Tryz.ntmps4
  go_wp2_with (first
    | (go_at_call 13; refine (HP.out _ ?_).mono ?_; go_grown; rintro e w1 ⟨rfl, hb1⟩)
    | (go_at_call 14; refine (HI.out _ ?_).mono ?_; go_grown; rintro e w2 ⟨rfl, hb2⟩))
  go_ret
  exact ⟨rfl, hb2⟩
end Go.Proofs.YtogpfacfifajgaaGreatFmt
