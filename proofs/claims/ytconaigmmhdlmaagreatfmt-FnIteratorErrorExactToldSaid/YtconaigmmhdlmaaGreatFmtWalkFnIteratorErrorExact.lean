/-
  The walk of the law FnIteratorErrorExact.
-/
import Derived.Test.YtconaigmmhdlmaaGreatFmtErrIter
import Derived.Test.YtconaigmmhdlmaaGreatFmtCheckExact
namespace Go.Proofs.YtconaigmmhdlmaaGreatFmt
set_option linter.unusedVariables false
set_option linter.unusedSimpArgs false
open Go.RowKit Go.Lib Go.Sort

set_option maxRecDepth 100000 in
set_option maxHeartbeats 1600000 in
theorem zz_Iter_Nil   (w : World) (hT : Tabs w) :
    Calls Tryz.prog 23 #[] w (Says w (txtIter [110, 117, 108, 108])) := by
  have hb : Below w.heap.size w (w.alloc (.cells #[.nilIface] 46)) := by go_grown
  have hl : w.heap.size < (w.alloc (.cells #[.nilIface] 46)).heap.size := by show w.heap.size < (w.heap.push _).size; simp
  have HP := Lib.hid (errIter (.nilIface) [110, 117, 108, 108]  (by decide)
    (fun w _ => tep_nil w)
    (w.alloc (.cells #[.nilIface] 46)) (hT.on hb) w.heap.size hl (by go_simp))
  have HB := Lib.hid hb
  clear hb hl hT
  go_enter Tryz.func23, Tryz.ntmps23
  go_wp2_with fail
  refine HP.out.mono ?_
  rintro e w1 ⟨rfl, hb1⟩
  have hb2 := HB.out.trans (below_of hb1 HB.out.size)
  go_wp2_with fail
  go_ret
  exact ⟨rfl, hb2⟩

set_option maxRecDepth 100000 in
set_option maxHeartbeats 1600000 in
theorem zz_Iter_Bool (b : Bool)  (w : World) (hT : Tabs w) :
    Calls Tryz.prog 24 #[.bool b] w (Says w (txtIter (tepBool b))) := by
  have hb : Below w.heap.size w (w.alloc (.cells #[.iface 4 (.bool b)] 46)) := by go_grown
  have hl : w.heap.size < (w.alloc (.cells #[.iface 4 (.bool b)] 46)).heap.size := by show w.heap.size < (w.heap.push _).size; simp
  have HP := Lib.hid (errIter (.iface 4 (.bool b)) (tepBool b)  (tepBool_le b)
    (tep_bool b)
    (w.alloc (.cells #[.iface 4 (.bool b)] 46)) (hT.on hb) w.heap.size hl (by go_simp))
  have HB := Lib.hid hb
  clear hb hl hT
  go_enter Tryz.func24, Tryz.ntmps24
  go_wp2_with fail
  refine HP.out.mono ?_
  rintro e w1 ⟨rfl, hb1⟩
  have hb2 := HB.out.trans (below_of hb1 HB.out.size)
  go_wp2_with fail
  go_ret
  exact ⟨rfl, hb2⟩

set_option maxRecDepth 100000 in
set_option maxHeartbeats 1600000 in
theorem zz_Iter_Int (n : Int) (hn0 : -9223372036854775808 ≤ n) (hn1 : n ≤ 9223372036854775807) (w : World) (hT : Tabs w) :
    Calls Tryz.prog 25 #[.int .i64 n] w (Says w (txtIter (tepInt n))) := by
  have hb : Below w.heap.size w (w.alloc (.cells #[.iface 3 (.int .i64 n)] 46)) := by go_grown
  have hl : w.heap.size < (w.alloc (.cells #[.iface 3 (.int .i64 n)] 46)).heap.size := by show w.heap.size < (w.heap.push _).size; simp
  have HP := Lib.hid (errIter (.iface 3 (.int .i64 n)) (tepInt n)  (tepInt_le n hn0 hn1)
    (tep_int n hn0 hn1)
    (w.alloc (.cells #[.iface 3 (.int .i64 n)] 46)) (hT.on hb) w.heap.size hl (by go_simp))
  have HB := Lib.hid hb
  clear hb hl hT
  go_enter Tryz.func25, Tryz.ntmps25
  go_wp2_with fail
  refine HP.out.mono ?_
  rintro e w1 ⟨rfl, hb1⟩
  have hb2 := HB.out.trans (below_of hb1 HB.out.size)
  go_wp2_with fail
  go_ret
  exact ⟨rfl, hb2⟩

set_option maxRecDepth 100000 in
set_option maxHeartbeats 1600000 in
theorem zz_Iter_String (s : ByteArray) (hs : s.size ≤ 2097152) (w : World) (hT : Tabs w) :
    Calls Tryz.prog 26 #[.string s] w (Says w (txtIter (tepStr s))) := by
  have hb : Below w.heap.size w (w.alloc (.cells #[.iface 9 (.string s)] 46)) := by go_grown
  have hl : w.heap.size < (w.alloc (.cells #[.iface 9 (.string s)] 46)).heap.size := by show w.heap.size < (w.heap.push _).size; simp
  have HP := Lib.hid (errIter (.iface 9 (.string s)) (tepStr s)  (Nat.le_trans (tepStr_le s) (by omega))
    (tep_str s hs)
    (w.alloc (.cells #[.iface 9 (.string s)] 46)) (hT.on hb) w.heap.size hl (by go_simp))
  have HB := Lib.hid hb
  clear hb hl hT
  go_enter Tryz.func26, Tryz.ntmps26
  go_wp2_with fail
  refine HP.out.mono ?_
  rintro e w1 ⟨rfl, hb1⟩
  have hb2 := HB.out.trans (below_of hb1 HB.out.size)
  go_wp2_with fail
  go_ret
  exact ⟨rfl, hb2⟩

set_option maxHeartbeats 800000 in
theorem bytes_FnIteratorErrorExact (n : Int) (b : Bool) (s : ByteArray) (hs : s.size ≤ 140737488351232) (w : World) :
    Calls Tryz.prog 22 #[.int .i64 n, .bool b, .string s] w fun e w' => (∃ b, e = .returned (.bool b)) ∧ Below w.heap.size w w' := by
  go_enter Tryz.func22, Tryz.ntmps22
  go_wp2
  repeat (any_goals go_region; any_goals go_wp2)
  all_goals (go_ret; exact ⟨⟨_, rfl⟩, by go_grown⟩)

def preIter : List UInt8 := [99, 97, 110, 110, 111, 116, 32, 105, 116, 101, 114, 97, 116, 101, 32, 111, 118, 101, 114, 58, 32]
set_option maxRecDepth 100000 in
set_option maxHeartbeats 3200000 in
theorem walk_FnIteratorErrorExact (n : Int) (b : Bool) (s : ByteArray) (W : World) (wn : (Lit.int .i64 n).wf = true) (ws : s.size ≤ 140737488351232) (hD : Tabs W) :
    Calls Tryz.prog 5 #[.int .i64 n, .bool b, .string s] W fun e w' => e = .returned (.bool true) ∧ Below W.heap.size W w' := by
  have bn := bounds_int wn
  have HZ := Lib.hid (bytes_FnIteratorErrorExact n b s ws W)
  have HD := Lib.hid hD
  clear hD
  by_cases gs : 1048576 < s.size
  · have qs : (1048576 : Int) < (s.size : Int) := by omega
    go_enter Tryz.func5, Tryz.ntmps5
    go_wp2_with fail
    refine HZ.out.mono ?_
    rintro e w0 ⟨⟨bb, rfl⟩, hb0⟩
    cases bb
    · go_wp2_with fail
      go_ret
      exact ⟨rfl, hb0⟩
    go_wp2_with fail
    go_ret
    exact ⟨rfl, hb0⟩
  have qs : (s.size : Int) ≤ 1048576 := by omega
  have H1 := Lib.hid (says_from zz_Iter_Nil HD.out)
  have H2 := Lib.hid (says_from (zz_Iter_Bool b) HD.out)
  have H3 := Lib.hid (says_from (zz_Iter_Int n bn.1 bn.2) HD.out)
  have H4 := Lib.hid (says_from (zz_Iter_String s (by omega)) HD.out)
  have HC := Lib.hid (fun w1 (hb : Below W.heap.size W w1) => check_exact preIter (by decide) b n bn.1 bn.2 s (by omega) w1 (HD.out.on hb))
  go_enter Tryz.func5, Tryz.ntmps5
  go_wp2_with fail
  refine HZ.out.mono ?_
  rintro e w0 ⟨⟨bb, rfl⟩, hb0⟩
  cases bb
  · go_wp2_with fail
    go_ret
    exact ⟨rfl, hb0⟩
  go_wp2_with fail
  refine (H1.out _ hb0).mono ?_
  rintro e w1 ⟨rfl, hb1⟩
  go_wp2_with fail
  refine (H2.out _ hb1).mono ?_
  rintro e w2 ⟨rfl, hb2⟩
  go_wp2_with fail
  refine (H3.out _ hb2).mono ?_
  rintro e w3 ⟨rfl, hb3⟩
  go_wp2_with fail
  refine (H4.out _ hb3).mono ?_
  rintro e w4 ⟨rfl, hb4⟩
  go_wp2_with fail
  refine (HC.out _ hb4).mono ?_
  rintro e w5 ⟨rfl, hb5'⟩
  have hb5 := hb4.trans (below_of hb5' hb4.size)
  go_wp2_with fail
  go_ret
  exact ⟨rfl, hb5⟩
end Go.Proofs.YtconaigmmhdlmaaGreatFmt
