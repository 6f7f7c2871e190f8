/-
  The walk of the law FnZeroDivisionErrorIntsText.
-/
import Derived.Test.YtmhgefehklakmaaGreatFmtErrZeroDiv
import Derived.Test.YtmhgefehklakmaaGreatFmtTepAll
import Derived.Test.YtmhgefehklakmaaGreatFmtItoa13
namespace Go.Proofs.YtmhgefehklakmaaGreatFmt
set_option linter.unusedVariables false
set_option linter.unusedSimpArgs false
open Go.RowKit Go.Lib Go.Sort

set_option maxRecDepth 100000 in
set_option maxHeartbeats 1600000 in
theorem zz_FnZeroDivisionErrorIntsText (l : Int) (r : Int) (hl0 : -9223372036854775808 ≤ l) (hl1 : l ≤ 9223372036854775807) (hr0 : -9223372036854775808 ≤ r) (hr1 : r ≤ 9223372036854775807) (w : World) (hT : Tabs w) :
    Calls Tryz.prog 10 #[.int .i64 l, .int .i64 r] w (Says w (txtZeroDiv (tepInt l) (tepInt r))) := by
  have hb : Below w.heap.size w (w.alloc (.cells #[.iface 3 (.int .i64 l), .iface 3 (.int .i64 r)] 40)) := by go_grown
  have hl : w.heap.size < (w.alloc (.cells #[.iface 3 (.int .i64 l), .iface 3 (.int .i64 r)] 40)).heap.size := by show w.heap.size < (w.heap.push _).size; simp
  have HP := Lib.hid (errZeroDiv (.iface 3 (.int .i64 l)) (tepInt l) (.iface 3 (.int .i64 r)) (tepInt r)  (tepInt_le l hl0 hl1) (tepInt_le r hr0 hr1)
    (tep_int l hl0 hl1) (tep_int r hr0 hr1)
    (w.alloc (.cells #[.iface 3 (.int .i64 l), .iface 3 (.int .i64 r)] 40)) (hT.on hb) w.heap.size hl (by go_simp) (by go_simp))
  have HB := Lib.hid hb
  clear hb hl hT
  go_enter Tryz.func10, Tryz.ntmps10
  go_wp2_with fail
  refine HP.out.mono ?_
  rintro e w1 ⟨rfl, hb1⟩
  have hb2 := HB.out.trans (below_of hb1 HB.out.size)
  go_wp2_with fail
  go_ret
  exact ⟨rfl, hb2⟩

set_option maxRecDepth 100000 in
set_option maxHeartbeats 1600000 in
theorem walk_FnZeroDivisionErrorIntsText (l : Int) (r : Int) (W : World) (wl : (Lit.int .i64 l).wf = true) (wr : (Lit.int .i64 r).wf = true) (hD : Tabs W) :
    Calls Tryz.prog 4 #[.int .i64 l, .int .i64 r] W fun e w' => e = .returned (.bool true) ∧ Below W.heap.size W w' := by
  have bl := bounds_int wl
  have yl := itoa_length_le l bl.1 bl.2
  have Il := Lib.hid (says_from (fun w _ => itoa13_any l bl.1 bl.2 w) hD)
  have br := bounds_int wr
  have yr := itoa_length_le r br.1 br.2
  have Ir := Lib.hid (says_from (fun w _ => itoa13_any r br.1 br.2 w) hD)
  have HP := Lib.hid (says_from (zz_FnZeroDivisionErrorIntsText l r bl.1 bl.2 br.1 br.2) hD)
  have z2 : ¬ 9223372036854775807 < 22 + (itoa l).length := by omega
  have z3 : ¬ 9223372036854775807 < 22 + (itoa l).length + 14 := by omega
  have z4 : ¬ 9223372036854775807 < 22 + (itoa l).length + 14 + (itoa r).length := by omega
  have z5 : ¬ 9223372036854775807 < 22 + (itoa l).length + 14 + (itoa r).length + 1 := by omega
  have hE : ((txtZeroDiv (tepInt l) (tepInt r)) == (⟨#[99, 97, 110, 110, 111, 116, 32, 100, 105, 118, 105, 100, 101, 32, 110, 117, 109, 98, 101, 114, 32, 40]⟩ ++ ⟨(itoa l).toArray⟩ ++ ⟨#[41, 32, 98, 121, 58, 32, 110, 117, 109, 98, 101, 114, 32, 40]⟩ ++ ⟨(itoa r).toArray⟩ ++ ⟨#[41]⟩ : ByteArray).toList) = true := eq_text (by simp [txtZeroDiv, tepInt, sNumber])
  clear hD
  go_enter Tryz.func4, Tryz.ntmps4
  go_wp2_with fail
  refine (HP.out _ (Below.refl _ _)).mono ?_
  rintro e w1 ⟨rfl, hb1⟩
  go_wp2_with fail
  refine (Il.out _ hb1).mono ?_
  rintro e w2 ⟨rfl, hb2⟩
  go_wp2_with fail
  refine (Ir.out _ hb2).mono ?_
  rintro e w3 ⟨rfl, hb3⟩
  go_wp2_with fail
  go_ret
  exact ⟨rfl, hb3⟩
end Go.Proofs.YtmhgefehklakmaaGreatFmt
