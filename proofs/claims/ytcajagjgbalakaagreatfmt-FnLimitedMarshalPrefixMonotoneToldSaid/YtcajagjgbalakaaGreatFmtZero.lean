/-
  jsonLimitedMarshal of a string at limit 0: the first write runs out of the buffer; nothing is written.
-/
import Derived.Test.YtcajagjgbalakaaGreatFmtEncodeS
import Derived.RegionDies
namespace Go.Proofs.YtcajagjgbalakaaGreatFmt
set_option linter.unusedVariables false
set_option linter.unusedSimpArgs false
open Go.RowKit Go.Lib Go.Sort

/-- A write into a buffer of no bytes: a panic; nothing has turned. -/
def Out0 (S : Nat → Prop) (w : World) (bw bb : Nat) (e : Ending) (w' : World) : Prop :=
  Only S w w' ∧ (∃ u pv, e = .panicked [{ v := .iface u pv, recovered := false }]) ∧ LW w' bw bb 0 []
theorem Out0.wrote {S : Nat → Prop} {w w' : World} {bw bb : Nat} {e : Ending} (h : Out0 S w bw bb e w') (full : List UInt8) (v : Value) : Wrote S w bw bb 0 full v e w' :=
  ⟨h.1, Or.inr ⟨Nat.zero_le _, h.2.1, by rw [List.take_zero]; exact h.2.2⟩⟩

theorem index_zero (bb : Nat) (W : World) : (Instr.indexAt 26 (.slice (some ⟨bb, 0, none⟩) 0 0) (.int .i64 0)).run Tryz.prog W = .halt (.panic (.iface Tryz.prog.rt.boundsError (.agg #[.int .i64 0, .int .i64 0, .bool (W.tape W.drawn (.extern "runtime.boundsError.signed" 2) % 2 == 1), .int .u8 0]))) W.drew := by
  rw [← Lib.run_boundsPanic_index (α := Value) Tryz.prog 0 0 W (by decide) (by decide)]
  simp [Instr.indexAt, run_underlying Tryz.underlying26, asIntOf]

set_option maxRecDepth 100000 in
set_option maxHeartbeats 400000 in
theorem writeByte_zero (b : Int) (w : World) (bw bb : Nat) (h : LW w bw bb 0 []) :
    Calls Tryz.prog 258 #[.pointer (some ⟨bw, 0, none⟩), .int .u8 b] w (Out0 (fun k => k = bw ∨ k = bb) w bw bb) := by
  have c0 := h.cell0
  have c1 := h.cell1
  have hx := index_zero bb
  have HW := Lib.hid (fun w' (hO : Only (fun _ => False) w w') => h.only hO (by simp) (by simp))
  clear h
  go_enter Tryz.func258, Tryz.ntmps258
  go_wp2
  go_region_dies
  all_goals (first
    | (refine ⟨rfl, (Only.refl _ w).drew.drew, ⟨_, _, rfl⟩, HW.out _ (Only.refl _ w).drew.drew⟩)
    | (refine ⟨rfl, (Only.refl _ w).drew, ⟨_, _, rfl⟩, HW.out _ (Only.refl _ w).drew⟩)
    | trace_state)

set_option maxRecDepth 100000 in
set_option maxHeartbeats 400000 in
theorem encodeString_zero (s : ByteArray) (w : World) (be bw bb : Nat) (h : LW w bw bb 0 []) (he : Enc w be bw) :
    Calls Tryz.prog 28 #[.pointer (some ⟨be, 0, none⟩), .string s] w (Out0 (fun k => k = bw ∨ k = bb) w bw bb) := by
  have c0 := he.cell0
  have HW := Lib.hid (writeByte_zero 34 w bw bb h)
  clear h
  go_enter Tryz.func28, Tryz.ntmps28
  go_wp2_with fail
  refine HW.out.mono ?_
  rintro e w' ⟨hO, ⟨u, pv, rfl⟩, h3⟩
  exact ⟨rfl, hO, ⟨u, pv, rfl⟩, h3⟩

set_option maxRecDepth 100000 in
set_option maxHeartbeats 800000 in
theorem encode_zero (s : ByteArray) (w : World) (be bw bb : Nat) (h : LW w bw bb 0 []) (he : Enc w be bw) :
    Calls Tryz.prog 21 #[.pointer (some ⟨be, 0, none⟩), .iface 9 (.string s)] w (Wrote (SE bw bb be) w bw bb 0 ([] ++ quoted s.data.toList) (.tuple #[])) := by
  have as1 := asStrBool
  have as2 := asStrInt
  have as3 := asStrFloat
  have as4 := asStrBig
  have as5 := asStrNum
  have as6 := asStrStr
  have c0 := he.cell0
  have HW := Lib.hid (encodeString_zero s w be bw bb h he)
  clear h
  go_enter Tryz.func21, Tryz.ntmps21
  go_wp2_with fail
  refine HW.out.mono ?_
  rintro e w' ⟨hO, ⟨u, pv, rfl⟩, h3⟩
  exact ⟨rfl, only_SE be hO, Or.inr ⟨Nat.zero_le _, ⟨u, pv, rfl⟩, by rw [List.take_zero]; exact h3⟩⟩

theorem marshal_str0 (s : ByteArray) (hs : s.size ≤ 2097152) (n : Nat) (hn : n ≤ 65536) (w : World) (hT : Tabs w) :
    Calls Tryz.prog 17 #[.iface 9 (.string s), .int .i64 n] w (Marshalled w n (quoted s.data.toList)) := by
  by_cases h0 : n = 0
  · subst h0
    exact marshal_any _ 0 (by omega) (quoted s.data.toList) w fun w1 be bw bb hB hbe hbw hbb hne hL hE => encode_zero s w1 be bw bb hL hE
  · exact marshal_str s hs n (by omega) hn w hT
end Go.Proofs.YtcajagjgbalakaaGreatFmt
