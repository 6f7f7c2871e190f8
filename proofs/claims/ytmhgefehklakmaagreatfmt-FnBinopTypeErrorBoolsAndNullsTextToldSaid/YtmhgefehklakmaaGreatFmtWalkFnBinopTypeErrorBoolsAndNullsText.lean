/-
  The walk of the law FnBinopTypeErrorBoolsAndNullsText.
-/
import Derived.Test.YtmhgefehklakmaaGreatFmtErrBinop
import Derived.Test.YtmhgefehklakmaaGreatFmtTepAll
namespace Go.Proofs.YtmhgefehklakmaaGreatFmt
set_option linter.unusedVariables false
set_option linter.unusedSimpArgs false
open Go.RowKit Go.Lib Go.Sort

set_option maxRecDepth 100000 in
set_option maxHeartbeats 1600000 in
theorem zz_bools (name : ByteArray) (l : Bool) (r : Bool) (hname : name.size ≤ 140737488351232)   (w : World) (hT : Tabs w) :
    Calls Tryz.prog 12 #[.string name, .bool l, .bool r] w (Says w (txtBinop name (tepBool l) (tepBool r))) := by
  have hb : Below w.heap.size w (w.alloc (.cells #[.string name, .iface 4 (.bool l), .iface 4 (.bool r)] 43)) := by go_grown
  have hl : w.heap.size < (w.alloc (.cells #[.string name, .iface 4 (.bool l), .iface 4 (.bool r)] 43)).heap.size := by show w.heap.size < (w.heap.push _).size; simp
  have HP := Lib.hid (errBinop name (.iface 4 (.bool l)) (tepBool l) (.iface 4 (.bool r)) (tepBool r) hname (tepBool_le l) (tepBool_le r)
    (tep_bool l) (tep_bool r)
    (w.alloc (.cells #[.string name, .iface 4 (.bool l), .iface 4 (.bool r)] 43)) (hT.on hb) w.heap.size hl (by go_simp) (by go_simp) (by go_simp))
  have HB := Lib.hid hb
  clear hb hl hT
  go_enter Tryz.func12, Tryz.ntmps12
  go_wp2_with fail
  refine HP.out.mono ?_
  rintro e w1 ⟨rfl, hb1⟩
  have hb2 := HB.out.trans (below_of hb1 HB.out.size)
  go_wp2_with fail
  go_ret
  exact ⟨rfl, hb2⟩

set_option maxRecDepth 100000 in
set_option maxHeartbeats 1600000 in
theorem zz_nulls (name : ByteArray) (hname : name.size ≤ 140737488351232) (w : World) (hT : Tabs w) :
    Calls Tryz.prog 14 #[.string name] w (Says w (txtBinop name [110, 117, 108, 108] [110, 117, 108, 108])) := by
  have hb : Below w.heap.size w (w.alloc (.cells #[.string name, .nilIface, .nilIface] 43)) := by go_grown
  have hl : w.heap.size < (w.alloc (.cells #[.string name, .nilIface, .nilIface] 43)).heap.size := by show w.heap.size < (w.heap.push _).size; simp
  have HP := Lib.hid (errBinop name (.nilIface) [110, 117, 108, 108] (.nilIface) [110, 117, 108, 108] hname (by decide) (by decide)
    (fun w _ => tep_nil w) (fun w _ => tep_nil w)
    (w.alloc (.cells #[.string name, .nilIface, .nilIface] 43)) (hT.on hb) w.heap.size hl (by go_simp) (by go_simp) (by go_simp))
  have HB := Lib.hid hb
  clear hb hl hT
  go_enter Tryz.func14, Tryz.ntmps14
  go_wp2_with fail
  refine HP.out.mono ?_
  rintro e w1 ⟨rfl, hb1⟩
  have hb2 := HB.out.trans (below_of hb1 HB.out.size)
  go_wp2_with fail
  go_ret
  exact ⟨rfl, hb2⟩

set_option maxRecDepth 100000 in
theorem boolText13 (b : Bool) (w : World) : Calls Tryz.prog 13 #[.bool b] w (Says w (boolText b)) := by
  cases b
  · go_enter Tryz.func13, Tryz.ntmps13
    go_wp2
    go_ret
    exact ⟨rfl, by go_grown⟩
  · go_enter Tryz.func13, Tryz.ntmps13
    go_wp2
    go_ret
    exact ⟨rfl, by go_grown⟩
theorem boolText_le (b : Bool) : (boolText b).length ≤ 5 := by cases b <;> decide
set_option maxHeartbeats 400000 in
theorem bytes_FnBinopTypeErrorBoolsAndNullsText (name : ByteArray) (l : Bool) (r : Bool) (hname : name.size ≤ 140737488351232) (w : World) :
    Calls Tryz.prog 11 #[.string name, .bool l, .bool r] w fun e w' => (∃ b, e = .returned (.bool b)) ∧ Below w.heap.size w w' := by
  go_enter Tryz.func11, Tryz.ntmps11
  go_wp2
  repeat (any_goals go_region; any_goals go_wp2)
  all_goals (go_ret; exact ⟨⟨_, rfl⟩, by go_grown⟩)

set_option maxRecDepth 100000 in
set_option maxHeartbeats 1600000 in
theorem walk_FnBinopTypeErrorBoolsAndNullsText (name : ByteArray) (l r : Bool) (W : World) (wname : name.size ≤ 140737488351232) (hD : Tabs W) :
    Calls Tryz.prog 5 #[.string name, .bool l, .bool r] W fun e w' => e = .returned (.bool true) ∧ Below W.heap.size W w' := by
  have HZ := Lib.hid (bytes_FnBinopTypeErrorBoolsAndNullsText name l r wname W)
  have H1 := Lib.hid (says_from (zz_bools name l r wname) hD)
  have H2 := Lib.hid (says_from (zz_nulls name wname) hD)
  have Hl := Lib.hid (says_from (fun w _ => boolText13 l w) hD)
  have Hr := Lib.hid (says_from (fun w _ => boolText13 r w) hD)
  have yl := boolText_le l
  have yr := boolText_le r
  have z2 : ¬ 9223372036854775807 < 7 + name.size := by omega
  have z3 : ¬ 9223372036854775807 < 7 + name.size + 11 := by omega
  have z4 : ¬ 9223372036854775807 < 7 + name.size + 11 + (boolText l).length := by omega
  have z5 : ¬ 9223372036854775807 < 7 + name.size + 11 + (boolText l).length + 15 := by omega
  have z6 : ¬ 9223372036854775807 < 7 + name.size + 11 + (boolText l).length + 15 + (boolText r).length := by omega
  have z7 : ¬ 9223372036854775807 < 7 + name.size + 11 + (boolText l).length + 15 + (boolText r).length + 1 := by omega
  have z12 : ¬ 9223372036854775807 < 7 + name.size := by omega
  have z13 : ¬ 9223372036854775807 < 7 + name.size + 15 := by omega
  have hE1 : ((txtBinop name (tepBool l) (tepBool r)) == (⟨#[99, 97, 110, 110, 111, 116, 32]⟩ ++ name ++ ⟨#[58, 32, 98, 111, 111, 108, 101, 97, 110, 32, 40]⟩ ++ ⟨(boolText l).toArray⟩ ++ ⟨#[41, 32, 97, 110, 100, 32, 98, 111, 111, 108, 101, 97, 110, 32, 40]⟩ ++ ⟨(boolText r).toArray⟩ ++ ⟨#[41]⟩ : ByteArray).toList) = true := eq_text (by simp [txtBinop, tepBool, sBoolean])
  have hN1 : ((txtBinop name (tepBool l) (tepBool r)) != (⟨#[99, 97, 110, 110, 111, 116, 32]⟩ ++ name ++ ⟨#[58, 32, 98, 111, 111, 108, 101, 97, 110, 32, 40]⟩ ++ ⟨(boolText l).toArray⟩ ++ ⟨#[41, 32, 97, 110, 100, 32, 98, 111, 111, 108, 101, 97, 110, 32, 40]⟩ ++ ⟨(boolText r).toArray⟩ ++ ⟨#[41]⟩ : ByteArray).toList) = false := by rw [bne, hE1]; rfl
  have hE2 : ((txtBinop name [110, 117, 108, 108] [110, 117, 108, 108]) == (⟨#[99, 97, 110, 110, 111, 116, 32]⟩ ++ name ++ ⟨#[58, 32, 110, 117, 108, 108, 32, 97, 110, 100, 32, 110, 117, 108, 108]⟩ : ByteArray).toList) = true := eq_text (by simp [txtBinop])
  clear hD
  go_enter Tryz.func5, Tryz.ntmps5
  go_wp2_with fail
  refine HZ.out.mono ?_
  rintro e w0 ⟨⟨b, rfl⟩, hb0⟩
  cases b
  · go_wp2_with fail
    go_ret
    exact ⟨rfl, hb0⟩
  go_wp2_with fail
  all_goals (try (go_ret; exact ⟨rfl, hb0⟩))
  refine (H1.out _ hb0).mono ?_
  rintro e w1 ⟨rfl, hb1⟩
  go_wp2_with fail
  refine (Hl.out _ hb1).mono ?_
  rintro e w2 ⟨rfl, hb2⟩
  go_wp2_with fail
  refine (Hr.out _ hb2).mono ?_
  rintro e w3 ⟨rfl, hb3⟩
  go_wp2_with fail
  refine (H2.out _ hb3).mono ?_
  rintro e w4 ⟨rfl, hb4⟩
  go_wp2_with fail
  go_ret
  exact ⟨rfl, hb4⟩
end Go.Proofs.YtmhgefehklakmaaGreatFmt
