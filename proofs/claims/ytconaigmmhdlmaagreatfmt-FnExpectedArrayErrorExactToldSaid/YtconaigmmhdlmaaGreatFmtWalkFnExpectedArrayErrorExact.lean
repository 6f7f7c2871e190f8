/-
  The walk of the law FnExpectedArrayErrorExact.
-/
import Derived.Test.YtconaigmmhdlmaaGreatFmtErrExpArr
import Derived.Test.YtconaigmmhdlmaaGreatFmtCheckExact
namespace Go.Proofs.YtconaigmmhdlmaaGreatFmt
set_option linter.unusedVariables false
set_option linter.unusedSimpArgs false
open Go.RowKit Go.Lib Go.Sort

set_option maxRecDepth 100000 in
set_option maxHeartbeats 1600000 in
theorem zz_ExpArr_Nil   (w : World) (hT : Tabs w) :
    Calls Tryz.prog 18 #[] w (Says w (txtExpArr [110, 117, 108, 108])) := by
  have hb : Below w.heap.size w (w.alloc (.cells #[.nilIface] 44)) := by go_grown
  have hl : w.heap.size < (w.alloc (.cells #[.nilIface] 44)).heap.size := by show w.heap.size < (w.heap.push _).size; simp
  have HP := Lib.hid (errExpArr (.nilIface) [110, 117, 108, 108]  (by decide)
    (fun w _ => tep_nil w)
    (w.alloc (.cells #[.nilIface] 44)) (hT.on hb) w.heap.size hl (by go_simp))
  have HB := Lib.hid hb
  clear hb hl hT
  go_enter Tryz.func18, Tryz.ntmps18
  go_wp2_with fail
  refine HP.out.mono ?_
  rintro e w1 ⟨rfl, hb1⟩
  have hb2 := HB.out.trans (below_of hb1 HB.out.size)
  go_wp2_with fail
  go_ret
  exact ⟨rfl, hb2⟩

set_option maxRecDepth 100000 in
set_option maxHeartbeats 1600000 in
theorem zz_ExpArr_Bool (b : Bool)  (w : World) (hT : Tabs w) :
    Calls Tryz.prog 19 #[.bool b] w (Says w (txtExpArr (tepBool b))) := by
  have hb : Below w.heap.size w (w.alloc (.cells #[.iface 4 (.bool b)] 44)) := by go_grown
  have hl : w.heap.size < (w.alloc (.cells #[.iface 4 (.bool b)] 44)).heap.size := by show w.heap.size < (w.heap.push _).size; simp
  have HP := Lib.hid (errExpArr (.iface 4 (.bool b)) (tepBool b)  (tepBool_le b)
    (tep_bool b)
    (w.alloc (.cells #[.iface 4 (.bool b)] 44)) (hT.on hb) w.heap.size hl (by go_simp))
  have HB := Lib.hid hb
  clear hb hl hT
  go_enter Tryz.func19, Tryz.ntmps19
  go_wp2_with fail
  refine HP.out.mono ?_
  rintro e w1 ⟨rfl, hb1⟩
  have hb2 := HB.out.trans (below_of hb1 HB.out.size)
  go_wp2_with fail
  go_ret
  exact ⟨rfl, hb2⟩

set_option maxRecDepth 100000 in
set_option maxHeartbeats 1600000 in
theorem zz_ExpArr_Int (n : Int) (hn0 : -9223372036854775808 ≤ n) (hn1 : n ≤ 9223372036854775807) (w : World) (hT : Tabs w) :
    Calls Tryz.prog 20 #[.int .i64 n] w (Says w (txtExpArr (tepInt n))) := by
  have hb : Below w.heap.size w (w.alloc (.cells #[.iface 3 (.int .i64 n)] 44)) := by go_grown
  have hl : w.heap.size < (w.alloc (.cells #[.iface 3 (.int .i64 n)] 44)).heap.size := by show w.heap.size < (w.heap.push _).size; simp
  have HP := Lib.hid (errExpArr (.iface 3 (.int .i64 n)) (tepInt n)  (tepInt_le n hn0 hn1)
    (tep_int n hn0 hn1)
    (w.alloc (.cells #[.iface 3 (.int .i64 n)] 44)) (hT.on hb) w.heap.size hl (by go_simp))
  have HB := Lib.hid hb
  clear hb hl hT
  go_enter Tryz.func20, Tryz.ntmps20
  go_wp2_with fail
  refine HP.out.mono ?_
  rintro e w1 ⟨rfl, hb1⟩
  have hb2 := HB.out.trans (below_of hb1 HB.out.size)
  go_wp2_with fail
  go_ret
  exact ⟨rfl, hb2⟩

set_option maxRecDepth 100000 in
set_option maxHeartbeats 1600000 in
theorem zz_ExpArr_String (s : ByteArray) (hs : s.size ≤ 2097152) (w : World) (hT : Tabs w) :
    Calls Tryz.prog 21 #[.string s] w (Says w (txtExpArr (tepStr s))) := by
  have hb : Below w.heap.size w (w.alloc (.cells #[.iface 9 (.string s)] 44)) := by go_grown
  have hl : w.heap.size < (w.alloc (.cells #[.iface 9 (.string s)] 44)).heap.size := by show w.heap.size < (w.heap.push _).size; simp
  have HP := Lib.hid (errExpArr (.iface 9 (.string s)) (tepStr s)  (Nat.le_trans (tepStr_le s) (by omega))
    (tep_str s hs)
    (w.alloc (.cells #[.iface 9 (.string s)] 44)) (hT.on hb) w.heap.size hl (by go_simp))
  have HB := Lib.hid hb
  clear hb hl hT
  go_enter Tryz.func21, Tryz.ntmps21
  go_wp2_with fail
  refine HP.out.mono ?_
  rintro e w1 ⟨rfl, hb1⟩
  have hb2 := HB.out.trans (below_of hb1 HB.out.size)
  go_wp2_with fail
  go_ret
  exact ⟨rfl, hb2⟩

set_option maxHeartbeats 800000 in
theorem bytes_FnExpectedArrayErrorExact (n : Int) (b : Bool) (s : ByteArray) (hs : s.size ≤ 140737488351232) (w : World) :
    Calls Tryz.prog 17 #[.int .i64 n, .bool b, .string s] w fun e w' => (∃ b, e = .returned (.bool b)) ∧ Below w.heap.size w w' := by
  go_enter Tryz.func17, Tryz.ntmps17
  go_wp2
  repeat (any_goals go_region; any_goals go_wp2)
  all_goals (go_ret; exact ⟨⟨_, rfl⟩, by go_grown⟩)

def preExpArr : List UInt8 := [101, 120, 112, 101, 99, 116, 101, 100, 32, 97, 110, 32, 97, 114, 114, 97, 121, 32, 98, 117, 116, 32, 103, 111, 116, 58, 32]
set_option maxRecDepth 100000 in
set_option maxHeartbeats 3200000 in
theorem walk_FnExpectedArrayErrorExact (n : Int) (b : Bool) (s : ByteArray) (W : World) (wn : (Lit.int .i64 n).wf = true) (ws : s.size ≤ 140737488351232) (hD : Tabs W) :
    Calls Tryz.prog 4 #[.int .i64 n, .bool b, .string s] W fun e w' => e = .returned (.bool true) ∧ Below W.heap.size W w' := by
  have bn := bounds_int wn
  have HZ := Lib.hid (bytes_FnExpectedArrayErrorExact n b s ws W)
  have HD := Lib.hid hD
  clear hD
  by_cases gs : 1048576 < s.size
  · have qs : (1048576 : Int) < (s.size : Int) := by omega
    go_enter Tryz.func4, Tryz.ntmps4
    go_wp2_with fail
    refine HZ.out.mono ?_
    rintro e w0 ⟨⟨bb, rfl⟩, hb0⟩
    cases bb
    · go_wp2_with fail
      go_ret
      exact ⟨rfl, hb0⟩
    go_wp2_with fail
    go_ret
    exact ⟨rfl, hb0⟩
  have qs : (s.size : Int) ≤ 1048576 := by omega
  have H1 := Lib.hid (says_from zz_ExpArr_Nil HD.out)
  have H2 := Lib.hid (says_from (zz_ExpArr_Bool b) HD.out)
  have H3 := Lib.hid (says_from (zz_ExpArr_Int n bn.1 bn.2) HD.out)
  have H4 := Lib.hid (says_from (zz_ExpArr_String s (by omega)) HD.out)
  have HC := Lib.hid (fun w1 (hb : Below W.heap.size W w1) => check_exact preExpArr (by decide) b n bn.1 bn.2 s (by omega) w1 (HD.out.on hb))
  go_enter Tryz.func4, Tryz.ntmps4
  go_wp2_with fail
  refine HZ.out.mono ?_
  rintro e w0 ⟨⟨bb, rfl⟩, hb0⟩
  cases bb
  · go_wp2_with fail
    go_ret
    exact ⟨rfl, hb0⟩
  go_wp2_with fail
  refine (H1.out _ hb0).mono ?_
  rintro e w1 ⟨rfl, hb1⟩
  go_wp2_with fail
  refine (H2.out _ hb1).mono ?_
  rintro e w2 ⟨rfl, hb2⟩
  go_wp2_with fail
  refine (H3.out _ hb2).mono ?_
  rintro e w3 ⟨rfl, hb3⟩
  go_wp2_with fail
  refine (H4.out _ hb3).mono ?_
  rintro e w4 ⟨rfl, hb4⟩
  go_wp2_with fail
  refine (HC.out _ hb4).mono ?_
  rintro e w5 ⟨rfl, hb5'⟩
  have hb5 := hb4.trans (below_of hb5' hb4.size)
  go_wp2_with fail
  go_ret
  exact ⟨rfl, hb5⟩
end Go.Proofs.YtconaigmmhdlmaaGreatFmt
