/-
  func0TypeError's text for each kind of operand, and the laws' own switch (package n001_20), walked.
-/
import Derived.Test.YtconaigmmhdlmaaGreatFmtErrFunc0
import Derived.Test.YtconaigmmhdlmaaGreatFmtPrevStr
namespace Go.Proofs.YtconaigmmhdlmaaGreatFmt
set_option linter.unusedVariables false
set_option linter.unusedSimpArgs false
open Go.RowKit Go.Lib Go.Sort

set_option maxRecDepth 100000 in
set_option maxHeartbeats 1600000 in
theorem zz_f0_Nil (name : ByteArray) (hname : name.size ≤ 140737488351232) (w : World) (hT : Tabs w) :
    Calls Tryz.prog 50 #[.string name] w (Says w (txtFunc0 name [110, 117, 108, 108])) := by
  have hb : Below w.heap.size w (w.alloc (.cells #[.string name, .nilIface] 62)) := by go_grown
  have hl : w.heap.size < (w.alloc (.cells #[.string name, .nilIface] 62)).heap.size := by show w.heap.size < (w.heap.push _).size; simp
  have HP := Lib.hid (errFunc0 name (.nilIface) [110, 117, 108, 108] hname (by decide)
    (fun w _ => tep_nil w)
    (w.alloc (.cells #[.string name, .nilIface] 62)) (hT.on hb) w.heap.size hl (by go_simp) (by go_simp))
  have HB := Lib.hid hb
  clear hb hl hT
  go_enter Tryz.func50, Tryz.ntmps50
  go_wp2_with fail
  refine HP.out.mono ?_
  rintro e w1 ⟨rfl, hb1⟩
  have hb2 := HB.out.trans (below_of hb1 HB.out.size)
  go_wp2_with fail
  go_ret
  exact ⟨rfl, hb2⟩

set_option maxRecDepth 100000 in
set_option maxHeartbeats 1600000 in
theorem zz_f0_Int (name : ByteArray) (n : Int) (hname : name.size ≤ 140737488351232) (hn0 : -9223372036854775808 ≤ n) (hn1 : n ≤ 9223372036854775807) (w : World) (hT : Tabs w) :
    Calls Tryz.prog 51 #[.string name, .int .i64 n] w (Says w (txtFunc0 name (tepInt n))) := by
  have hb : Below w.heap.size w (w.alloc (.cells #[.string name, .iface 3 (.int .i64 n)] 62)) := by go_grown
  have hl : w.heap.size < (w.alloc (.cells #[.string name, .iface 3 (.int .i64 n)] 62)).heap.size := by show w.heap.size < (w.heap.push _).size; simp
  have HP := Lib.hid (errFunc0 name (.iface 3 (.int .i64 n)) (tepInt n) hname (tepInt_le n hn0 hn1)
    (tep_int n hn0 hn1)
    (w.alloc (.cells #[.string name, .iface 3 (.int .i64 n)] 62)) (hT.on hb) w.heap.size hl (by go_simp) (by go_simp))
  have HB := Lib.hid hb
  clear hb hl hT
  go_enter Tryz.func51, Tryz.ntmps51
  go_wp2_with fail
  refine HP.out.mono ?_
  rintro e w1 ⟨rfl, hb1⟩
  have hb2 := HB.out.trans (below_of hb1 HB.out.size)
  go_wp2_with fail
  go_ret
  exact ⟨rfl, hb2⟩

set_option maxRecDepth 100000 in
set_option maxHeartbeats 1600000 in
theorem zz_f0_Bool (name : ByteArray) (b : Bool) (hname : name.size ≤ 140737488351232)  (w : World) (hT : Tabs w) :
    Calls Tryz.prog 52 #[.string name, .bool b] w (Says w (txtFunc0 name (tepBool b))) := by
  have hb : Below w.heap.size w (w.alloc (.cells #[.string name, .iface 4 (.bool b)] 62)) := by go_grown
  have hl : w.heap.size < (w.alloc (.cells #[.string name, .iface 4 (.bool b)] 62)).heap.size := by show w.heap.size < (w.heap.push _).size; simp
  have HP := Lib.hid (errFunc0 name (.iface 4 (.bool b)) (tepBool b) hname (tepBool_le b)
    (tep_bool b)
    (w.alloc (.cells #[.string name, .iface 4 (.bool b)] 62)) (hT.on hb) w.heap.size hl (by go_simp) (by go_simp))
  have HB := Lib.hid hb
  clear hb hl hT
  go_enter Tryz.func52, Tryz.ntmps52
  go_wp2_with fail
  refine HP.out.mono ?_
  rintro e w1 ⟨rfl, hb1⟩
  have hb2 := HB.out.trans (below_of hb1 HB.out.size)
  go_wp2_with fail
  go_ret
  exact ⟨rfl, hb2⟩

set_option maxRecDepth 100000 in
set_option maxHeartbeats 1600000 in
theorem zz_f0_String (name : ByteArray) (s : ByteArray) (hname : name.size ≤ 140737488351232) (hs : s.size ≤ 2097152) (w : World) (hT : Tabs w) :
    Calls Tryz.prog 53 #[.string name, .string s] w (Says w (txtFunc0 name (tepStr s))) := by
  have hb : Below w.heap.size w (w.alloc (.cells #[.string name, .iface 9 (.string s)] 62)) := by go_grown
  have hl : w.heap.size < (w.alloc (.cells #[.string name, .iface 9 (.string s)] 62)).heap.size := by show w.heap.size < (w.heap.push _).size; simp
  have HP := Lib.hid (errFunc0 name (.iface 9 (.string s)) (tepStr s) hname (Nat.le_trans (tepStr_le s) (by omega))
    (tep_str s hs)
    (w.alloc (.cells #[.string name, .iface 9 (.string s)] 62)) (hT.on hb) w.heap.size hl (by go_simp) (by go_simp))
  have HB := Lib.hid hb
  clear hb hl hT
  go_enter Tryz.func53, Tryz.ntmps53
  go_wp2_with fail
  refine HP.out.mono ?_
  rintro e w1 ⟨rfl, hb1⟩
  have hb2 := HB.out.trans (below_of hb1 HB.out.size)
  go_wp2_with fail
  go_ret
  exact ⟨rfl, hb2⟩

/-- The operand's own text, by kind. -/
def tailOf (kind : Nat) (n : Int) (b : Bool) (s : ByteArray) : List UInt8 := match kind with | 0 => [110, 117, 108, 108] | 1 => tepInt n | 2 => tepBool b | _ => tepStr s
set_option maxRecDepth 100000 in
set_option maxHeartbeats 1600000 in
theorem func0_any (name : ByteArray) (kind : Nat) (hk : kind < 4) (n : Int) (b : Bool) (s : ByteArray) (hname : name.size ≤ 140737488351232) (h0 : -9223372036854775808 ≤ n) (h1 : n ≤ 9223372036854775807) (hs : s.size ≤ 2097152) (w : World) (hT : Tabs w) :
    Calls Tryz.prog 34 #[.string name, .int .i64 (kind : Int), .int .i64 n, .bool b, .string s] w fun e w' => e = .returned (.tuple #[.string ⟨(txtFunc0 name (tailOf kind n b s)).toArray⟩, .bool true]) ∧ Below w.heap.size w w' := by
  have H0 := Lib.hid (zz_f0_Nil name hname w hT)
  have H1 := Lib.hid (zz_f0_Int name n hname h0 h1 w hT)
  have H2 := Lib.hid (zz_f0_Bool name b hname w hT)
  have H3 := Lib.hid (zz_f0_String name s hname hs w hT)
  clear hT
  match kind, hk with
  | 0, _ =>
    go_enter Tryz.func34, Tryz.ntmps34
    go_wp2_with fail
    refine H0.out.mono ?_
    rintro e w1 ⟨rfl, hb1⟩
    go_wp2_with fail
    go_ret2
    exact ⟨rfl, hb1⟩
  | 1, _ =>
    go_enter Tryz.func34, Tryz.ntmps34
    go_wp2_with fail
    refine H1.out.mono ?_
    rintro e w1 ⟨rfl, hb1⟩
    go_wp2_with fail
    go_ret2
    exact ⟨rfl, hb1⟩
  | 2, _ =>
    go_enter Tryz.func34, Tryz.ntmps34
    go_wp2_with fail
    refine H2.out.mono ?_
    rintro e w1 ⟨rfl, hb1⟩
    go_wp2_with fail
    go_ret2
    exact ⟨rfl, hb1⟩
  | 3, _ =>
    go_enter Tryz.func34, Tryz.ntmps34
    go_wp2_with fail
    refine H3.out.mono ?_
    rintro e w1 ⟨rfl, hb1⟩
    go_wp2_with fail
    go_ret2
    exact ⟨rfl, hb1⟩
end Go.Proofs.YtconaigmmhdlmaaGreatFmt
