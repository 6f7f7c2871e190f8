/-
  The walk of the law FnContainsStringsIsSubstring.
-/
import Derived.Test.YtmbegjbhmeihiaaGreatDoorFind
import Derived.Test.YtmbegjbhmeihiaaGreatDoorAs
namespace Go.Proofs.YtmbegjbhmeihiaaGreatDoor
set_option linter.unusedVariables false
set_option linter.unusedSimpArgs false
open Go.RowKit Go.Lib

theorem asBoolB (v : Value) (w : World) : (Instr.typeAssert (.iface 4 v) 20 4 true).run Tryz.prog w = .ok (.tuple #[v, .bool true]) w := by kernel_rfl
set_option maxRecDepth 100000 in
set_option maxHeartbeats 3200000 in
theorem zz_contains (a b : ByteArray) (ha : a.size ≤ 2097152) (hb : b.size ≤ 2097152) (w : World) :
    Calls Tryz.prog 9 #[.string a, .string b] w fun e w' => (∃ r : Bool, e = .returned (.tuple #[.bool r, .bool true]) ∧ (r = true ↔ Occurs a b)) ∧ Below w.heap.size w w' := by
  have as1 := asBoolB
  have as2 := asStrInt
  have as3 := asStrFloat
  have as4 := asStrBig
  have as5 := asStrNum
  have as6 := asStrStr
  have HC := Lib.hid (fun w => contains_any a b ha hb w)
  go_enter Tryz.func9, Tryz.ntmps9
  go_wp2_with (first
    | (go_at_call 37; refine (HC.out _).mono ?_; rintro e w1 ⟨⟨r, rfl, hr⟩, hb1⟩)
    | go_in)
  go_ret2
  exact ⟨⟨_, rfl, hr⟩, by go_grown⟩
set_option maxHeartbeats 800000 in
theorem bytes_FnContainsStringsIsSubstring (a b : ByteArray) (ha : a.size ≤ 140737488351232) (hb : b.size ≤ 140737488351232) (w : World) :
    Calls Tryz.prog 8 #[.string a, .string b] w fun e w' => (∃ b, e = .returned (.bool b)) ∧ Below w.heap.size w w' := by
  go_enter Tryz.func8, Tryz.ntmps8
  go_wp2
  repeat (any_goals go_region; any_goals go_wp2)
  all_goals (go_ret; exact ⟨⟨_, rfl⟩, by go_grown⟩)
set_option maxRecDepth 100000 in
set_option maxHeartbeats 1600000 in
theorem walk_FnContainsStringsIsSubstring (a b : ByteArray) (W : World) (wa : a.size ≤ 140737488351232) (wb : b.size ≤ 140737488351232) (hD : Tabs W) :
    Calls Tryz.prog 3 #[.string a, .string b] W fun e w' => e = .returned (.bool true) ∧ Below W.heap.size W w' := by
  have HZ := Lib.hid (bytes_FnContainsStringsIsSubstring a b wa wb W)
  clear hD
  by_cases ga : 1048576 < a.size
  · have qa : (1048576 : Int) < (a.size : Int) := by omega
    go_enter Tryz.func3, Tryz.ntmps3
    go_wp2_with fail
    refine HZ.out.mono ?_
    rintro e w0 ⟨⟨bb, rfl⟩, hb0⟩
    cases bb
    · go_wp2_with fail
      go_ret
      exact ⟨rfl, hb0⟩
    go_wp2_with fail
    all_goals (try (go_ret; exact ⟨rfl, hb0⟩))
  by_cases gb : 1048576 < b.size
  · have qb : (1048576 : Int) < (b.size : Int) := by omega
    go_enter Tryz.func3, Tryz.ntmps3
    go_wp2_with fail
    refine HZ.out.mono ?_
    rintro e w0 ⟨⟨bb, rfl⟩, hb0⟩
    cases bb
    · go_wp2_with fail
      go_ret
      exact ⟨rfl, hb0⟩
    go_wp2_with fail
    all_goals (try (go_ret; exact ⟨rfl, hb0⟩))
  have qa : (a.size : Int) ≤ 1048576 := by omega
  have qb : (b.size : Int) ≤ 1048576 := by omega
  have HC := Lib.hid (fun w => zz_contains a b (by omega) (by omega) w)
  have HS := Lib.hid (fun w => hasSub_any a b (by omega) (by omega) w)
  go_enter Tryz.func3, Tryz.ntmps3
  go_wp2_with fail
  refine HZ.out.mono ?_
  rintro e w0 ⟨⟨bb, rfl⟩, hb0⟩
  cases bb
  · go_wp2_with fail
    go_ret
    exact ⟨rfl, hb0⟩
  go_wp2_with fail
  all_goals (try (go_ret; exact ⟨rfl, hb0⟩))
  refine (HC.out _).mono ?_
  rintro e w1 ⟨⟨r, rfl, hr⟩, hb1'⟩
  have hb1 := hb0.trans (below_of hb1' hb0.size)
  clear hb1'
  go_wp2_with fail
  refine (HS.out _).mono ?_
  rintro e w2 ⟨⟨r2, rfl, hr2⟩, hb2'⟩
  have hb2 := hb1.trans (below_of hb2' hb1.size)
  clear hb2'
  have e : r = r2 := by
    cases r <;> cases r2 <;> simp_all
  subst e
  clear hr hr2
  cases r
  all_goals go_wp2_with fail
  all_goals (go_ret; exact ⟨rfl, hb2⟩)
end Go.Proofs.YtmbegjbhmeihiaaGreatDoor
