/-
  toFloat at a json.Number (package n001_105): by strconv.ParseFloat to the library's atof64, walked.
-/
import Derived.Test.YtnipnfopdneodaaGreatDoorAtof
import Derived.Test.YtnipnfopdneodaaGreatDoorTof
import Derived.RegionTactic
import Derived.ChangeAlike
namespace Go.Proofs.YtnipnfopdneodaaGreatDoor
set_option linter.unusedVariables false
set_option linter.unusedSimpArgs false
open Go.RowKit Go.Lib Go.Sort

set_option maxRecDepth 100000 in
set_option maxHeartbeats 1600000 in
theorem tofNum (s : ByteArray) (F : Nat) (HA0 : ∀ w, TabF w → Calls Tryz.prog 30 #[.string s] w fun e w' => e = .returned (.tuple #[.float .f64 F, .int .i64 (s.size : Int), .nilIface]) ∧ Below w.heap.size w w') (w : World) (hT : TabF w) :
    Calls Tryz.prog 6 #[.string s] w fun e w' => e = .returned (.tuple #[.float .f64 F, .bool true]) ∧ Below w.heap.size w w' := by
  have HA := Lib.hid HA0
  have HT := Lib.hid hT
  clear HA0 hT
  have as1 := fNumInt
  have as2 := fNumFloat
  have as3 := fNumBig
  have as4 := fNumNum
  go_enter Tryz.func6, Tryz.ntmps6
  go_wp2_with (first | (go_at_call 30; refine (HA.out _ HT.out).mono ?_; rintro e w1 ⟨rfl, hb1⟩; have HB1 := Lib.hid hb1; clear hb1) | go_in)
  go_region
  go_wp2_with fail
  go_ret2
  exact ⟨rfl, HB1.out.drew⟩
end Go.Proofs.YtnipnfopdneodaaGreatDoor
