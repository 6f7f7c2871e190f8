/-
  The library's decimal: Shift; the rounding to a whole number (internal/strconv), walked.
-/
import Derived.Test.YtdbbmknjldapbaaGreatDoorLt
namespace Go.Proofs.YtdbbmknjldapbaaGreatDoor
set_option linter.unusedVariables false
set_option linter.unusedSimpArgs false
open Go.RowKit Go.Lib

set_option maxRecDepth 100000 in
theorem shift_right (b k nd dp p e : Nat) (f : Nat → UInt8) (neg : Bool) (hk : k ≤ 27) (hk0 : 1 ≤ k) (hn : nd + k + 1 ≤ 800) (hF : NumF f nd dp p e) (hkd : 2 ^ k ≤ 10 ^ dp) (hdp : dp ≤ 1000) (w : World) (h : DcAt w w b f (nd : Int) (dp : Int) neg false) :
    Calls Tryz.prog 111 #[.pointer (some ⟨b, 0, none⟩), .int .i64 (-(k : Int))] w fun r w' => r = .returned (.tuple #[]) ∧ ∃ (f' : Nat → UInt8) (nd' dp' : Nat), nd' ≤ nd + k + 1 ∧ NumF f' nd' dp' p (e + k) ∧ (f' (nd' - 1)).toNat ≠ 48 ∧ DcAt w w' b f' (nd' : Int) (dp' : Int) neg false := by
  have HC := Lib.hid (right_any b k nd dp p e f neg hk hk0 hn hF hkd hdp w h)
  have c0 := h.cnt
  have hp := hF.pos
  have q0 : ((nd : Int) == 0) = false := by rw [beq_eq_false_iff_ne]; omega
  have q1 : ¬ (0 : Int) < -(k : Int) := by omega
  have q2 : -(k : Int) < 0 := by omega
  have q3 : ¬ -(k : Int) < -60 := by omega
  have q4 : IntKind.u64.wrap (k : Int) = (k : Int) := by rw [IntKind.wrap_u64]; omega
  have q5 : (k : Int) ≤ 27 := by omega
  clear hF h hkd
  go_enter Tryz.func111, Tryz.ntmps111
  go_wp2_with fail
  refine wp_loop_rounds 1 ?_
  rw [rounds_succ]
  go_wp2_with fail
  refine HC.out.mono ?_
  rintro e1 w1 ⟨rfl, hp⟩
  have HP := Lib.hid hp
  clear hp
  go_wp2_with fail
  go_end0
  exact ⟨rfl, HP.out⟩
set_option maxRecDepth 100000 in
theorem shift_left (b k nd dp p e dl : Nat) (L : Addr) (f : Nat → UInt8) (neg : Bool) (S : List UInt8) (T : ByteArray) (hk0 : 1 ≤ k) (hn : nd + dl ≤ 799) (hF : NumF f nd dp p e) (hke : k ≤ e) (hdp : dp ≤ 1000) (w : World) (hb : L.block ≠ b) (hg : 16 ≠ b) (hC : Cheat w L k dl S T) (h : DcAt w w b f (nd : Int) (dp : Int) neg false) :
    Calls Tryz.prog 111 #[.pointer (some ⟨b, 0, none⟩), .int .i64 (k : Int)] w fun r w' => r = .returned (.tuple #[]) ∧ ∃ (f' : Nat → UInt8) (nd' dp' : Nat), nd' ≤ nd + dl ∧ NumF f' nd' dp' p (e - k) ∧ (f' (nd' - 1)).toNat ≠ 48 ∧ DcAt w w' b f' (nd' : Int) (dp' : Int) neg false := by
  have HC := Lib.hid (left_any b k nd dp p e dl L f neg S T hn hF hke hdp w hb hg hC h)
  have c0 := h.cnt
  have hp := hF.pos
  have hkk := hC.kk
  have q0 : ((nd : Int) == 0) = false := by rw [beq_eq_false_iff_ne]; omega
  have q1 : (0 : Int) < (k : Int) := by omega
  have q3 : ¬ (60 : Int) < (k : Int) := by omega
  have q4 : IntKind.u64.wrap (k : Int) = (k : Int) := by rw [IntKind.wrap_u64]; omega
  clear hF h hC hkk
  go_enter Tryz.func111, Tryz.ntmps111
  go_wp2_with fail
  refine wp_loop_rounds 1 ?_
  rw [rounds_succ]
  go_wp2_with fail
  refine HC.out.mono ?_
  rintro e1 w1 ⟨rfl, hp⟩
  have HP := Lib.hid hp
  clear hp
  go_wp2_with fail
  go_end0
  exact ⟨rfl, HP.out⟩
end Go.Proofs.YtdbbmknjldapbaaGreatDoor
