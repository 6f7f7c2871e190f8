/-
  The walk of the law FnLocaltimeRefusesText.
-/
import Derived.Test.YtcgpjijbnkgbcaaGreatDoorAs
import Derived.Test.YtcgpjijbnkgbcaaGreatDoorSays
import Derived.Handy
import Derived.Lib.Hide
namespace Go.Proofs.YtcgpjijbnkgbcaaGreatDoor
set_option linter.unusedVariables false
set_option linter.unusedSimpArgs false
open Go.RowKit Go.Lib

theorem asErrArr (v : Value) (w : World) : (Instr.typeAssert (.iface 32 v) 20 23 true).run Tryz.prog w = .ok (.tuple #[.slice none 0 0, .bool false]) w := by kernel_rfl
set_option maxRecDepth 100000 in
set_option maxHeartbeats 800000 in
theorem accepts_none (s : ByteArray) (w : World) : Calls Tryz.prog 5 #[.string s] w fun e w' => e = .returned (.bool false) ∧ Below w.heap.size w w' := by
  have as2 := asStrInt
  have as3 := asStrFloat
  have as4 := asStrBig
  have as5 := asStrNum
  have as7 := asErrArr
  go_enter Tryz.func5, Tryz.ntmps5
  go_wp2
  repeat (any_goals go_region; any_goals go_wp2)
  all_goals (go_ret; exact ⟨rfl, by go_grown⟩)
set_option maxHeartbeats 400000 in
theorem bytes_Localtime (s : ByteArray) (h0 : s.size ≤ 140737488351232) (w : World) :
    Calls Tryz.prog 4 #[.string s] w fun e w' => (∃ b, e = .returned (.bool b)) ∧ Below w.heap.size w w' := by
  go_enter Tryz.func4, Tryz.ntmps4
  go_wp2
  repeat (any_goals go_region; any_goals go_wp2)
  all_goals (go_ret; exact ⟨⟨_, rfl⟩, by go_grown⟩)
set_option maxRecDepth 100000 in
set_option maxHeartbeats 800000 in
theorem walk_FnLocaltimeRefusesText (s : ByteArray) (W : World) (ws : s.size ≤ 140737488351232) (hD : Tabs W) :
    Calls Tryz.prog 3 #[.string s] W fun e w' => e = .returned (.bool true) ∧ Below W.heap.size W w' := by
  have HB := Lib.hid (bytes_Localtime s ws W)
  have HA := Lib.hid (fun w => accepts_none s w)
  go_enter Tryz.func3, Tryz.ntmps3
  go_wp2_with fail
  refine HB.out.mono ?_
  rintro e w1 ⟨⟨b, rfl⟩, hb1⟩
  cases b
  · go_wp2_with fail
    go_ret
    exact ⟨rfl, hb1⟩
  go_wp2_with fail
  all_goals (try (go_ret; exact ⟨rfl, hb1⟩))
  refine (HA.out _).mono ?_
  rintro e w2 ⟨rfl, hb2'⟩
  have hb2 := hb1.trans (below_of hb2' hb1.size)
  go_wp2_with fail
  go_ret
  exact ⟨rfl, hb2⟩
end Go.Proofs.YtcgpjijbnkgbcaaGreatDoor
