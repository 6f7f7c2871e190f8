/-
  The walk of the law FnPreviewIntIsDecimal.
-/
import Derived.Test.YtogpfacfifajgaaGreatFmtPreview
import Derived.Test.YtogpfacfifajgaaGreatFmtItoa106
import Derived.Deep.RegionWith
namespace Go.Proofs.YtogpfacfifajgaaGreatFmt
set_option linter.unusedVariables false
set_option linter.unusedSimpArgs false
open Go.RowKit Go.Lib Go.Sort

set_option maxRecDepth 100000 in
set_option maxHeartbeats 1600000 in
theorem walk_FnPreviewIntIsDecimal (n : Int) (W : World) (wn : (Lit.int .i64 n).wf = true) (hD : Tabs W) :
    Calls Tryz.prog 10 #[.int .i64 n] W fun e w' => e = .returned (.bool true) ∧ Below W.heap.size W w' := by
  have b := bounds_int wn
  have HP := Lib.hid (says_from (preview_int n b.1 b.2) hD)
  have HI := Lib.hid (says_from (fun w _ => itoa106_any n b.1 b.2 w) hD)
  clear hD
  go_enter Tryz.func10, Tryz.ntmps10
  go_wp2_with (first
    | (go_at_call 29; refine (HP.out _ ?_).mono ?_; go_grown; rintro e w1 ⟨rfl, hb1⟩)
    | (go_at_call 30; refine (HI.out _ ?_).mono ?_; go_grown; rintro e w2 ⟨rfl, hb2⟩))

  go_ret
  exact ⟨rfl, hb2⟩
end Go.Proofs.YtogpfacfifajgaaGreatFmt
