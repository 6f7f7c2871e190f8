/-
  typeErrorPreview of nil, and of a value by the contracts of TypeOf and Preview.
-/
import Derived.Test.YtconaigmmhdlmaaGreatFmtTypeOf
import Derived.Deep.RegionWith
import Derived.WalkSpells
import Derived.Lib.Hide
namespace Go.Proofs.YtconaigmmhdlmaaGreatFmt
set_option linter.unusedVariables false
set_option linter.unusedSimpArgs false
open Go.RowKit Go.Lib

theorem says_str {b : ByteArray} {t : List UInt8} (h : b.data.toList = t) : Ending.returned (.string b) = Ending.returned (.string ⟨t.toArray⟩) := by
  subst h
  rfl

set_option maxRecDepth 100000 in
set_option maxHeartbeats 800000 in
theorem tep_nil (w : World) : Calls Tryz.prog 56 #[.nilIface] w (Says w [110, 117, 108, 108]) := by
  go_enter Tryz.func56, Tryz.ntmps56
  go_wp2
  go_ret
  exact ⟨rfl, by go_grown⟩

set_option maxRecDepth 100000 in
set_option maxHeartbeats 1600000 in
theorem tep_of (t : TypeId) (v : Value) (ty pv : List UInt8) (hl1 : ty.length ≤ 30) (hl2 : pv.length ≤ 30)
    (as1 : ∀ w, (Instr.typeAssert (.iface t v) 20 64 true).run Tryz.prog w = .ok (.tuple #[.nilIface, .bool false]) w)
    (hty : ∀ w, Calls Tryz.prog 59 #[.iface t v] w (Says w ty)) (hpv : ∀ w, Tabs w → Calls Tryz.prog 58 #[.iface t v] w (Says w pv)) (w : World) (hT : Tabs w) :
    Calls Tryz.prog 56 #[.iface t v] w (Says w (ty ++ ([32, 40] ++ (pv ++ [41])))) := by
  have HY := Lib.hid (says_from (fun w _ => hty w) hT)
  have HP := Lib.hid (says_from hpv hT)
  have z1 : ¬ 9223372036854775807 < ty.length + 2 := by omega
  have z2 : ¬ 9223372036854775807 < ty.length + 2 + pv.length := by omega
  have z3 : ¬ 9223372036854775807 < ty.length + 2 + pv.length + 1 := by omega
  clear hty hpv hT
  go_enter Tryz.func56, Tryz.ntmps56
  go_wp2_with (first
    | (go_at_call 59; refine (HY.out _ ?_).mono ?_; go_grown; rintro e w1 ⟨rfl, hb1⟩)
    | (go_at_call 58; refine (HP.out _ ?_).mono ?_; go_grown; rintro e w2 ⟨rfl, hb2⟩))
  go_ret
  exact ⟨(says_str (by simp) : Ending.returned (.string (⟨ty.toArray⟩ ++ ⟨#[32, 40]⟩ ++ ⟨pv.toArray⟩ ++ ⟨#[41]⟩)) = _), hb2⟩
end Go.Proofs.YtconaigmmhdlmaaGreatFmt
