/-
  The walk of the law FnToFloatNumberKindsAgree.
-/
import Derived.Test.YtnipnfopdneodaaGreatDoorAton
namespace Go.Proofs.YtnipnfopdneodaaGreatDoor
set_option linter.unusedVariables false
set_option linter.unusedSimpArgs false
open Go.RowKit Go.Lib Go.Sort

set_option maxRecDepth 100000 in
set_option maxHeartbeats 1600000 in
theorem walk_FnToFloatNumberKindsAgree (n : Int) (W : World) (wn : (Lit.int .i64 n).wf = true) (hD : TabF W) :
    Calls Tryz.prog 3 #[.int .i64 n] W fun e w' => e = .returned (.bool true) ∧ Below W.heap.size W w' := by
  have b := bounds_int wn
  have o1 := order_int n b.1 b.2
  have HI := Lib.hid (fun w => tofInt n w)
  have HB := Lib.hid (fun w => tofBig n b.1 b.2 w)
  have HZ := Lib.hid (fun w => itoa105_any n b.1 b.2 w)
  have HA := Lib.hid (fun w hT => tofNum ⟨(itoa n).toArray⟩ (floatOfInt .f64 n) (fun w hT => atof_itoa n b.1 b.2 w hT) w hT)
  have HT := Lib.hid hD
  obtain ⟨b1, b2⟩ := b
  clear hD wn
  generalize floatOfInt .f64 n = F at *
  generalize (itoa n) = L at *
  go_enter Tryz.func3, Tryz.ntmps3
  go_wp2_with fail
  refine (HI.out _).mono ?_
  rintro e w1 ⟨rfl, hb1⟩
  have HB1 := Lib.hid hb1
  clear hb1
  go_wp2_with fail
  refine (HB.out _).mono ?_
  rintro e w2 ⟨rfl, hb2⟩
  have HB2 := Lib.hid (HB1.out.trans (below_of hb2 HB1.out.size))
  clear hb2
  go_wp2_with fail
  refine (HZ.out _).mono ?_
  rintro e w3 ⟨rfl, hb3⟩
  have HB3 := Lib.hid (HB2.out.trans (below_of hb3 HB2.out.size))
  clear hb3
  go_wp2_with fail
  refine (HA.out _ (HT.out.on HB3.out)).mono ?_
  rintro e w4 ⟨rfl, hb4⟩
  have HB4 := Lib.hid (HB3.out.trans (below_of hb4 HB3.out.size))
  clear hb4
  go_wp2_with fail
  go_ret
  exact ⟨rfl, HB4.out⟩
end Go.Proofs.YtnipnfopdneodaaGreatDoor
