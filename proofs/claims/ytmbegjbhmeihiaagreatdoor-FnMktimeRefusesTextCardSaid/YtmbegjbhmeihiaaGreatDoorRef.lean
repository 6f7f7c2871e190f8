/-
  mktime of a text and of a list of texts, walked.
-/
import Derived.Test.YtmbegjbhmeihiaaGreatDoorArr
import Derived.Test.YtmbegjbhmeihiaaGreatDoorMk
import Derived.Test.YtmbegjbhmeihiaaGreatDoorSlc
namespace Go.Proofs.YtmbegjbhmeihiaaGreatDoor
set_option linter.unusedVariables false
set_option linter.unusedSimpArgs false
open Go.RowKit Go.Lib

theorem asTErrFloat (v : Value) (w : World) : (Instr.typeAssert (.iface 68 v) 20 33 true).run Tryz.prog w = .ok (.tuple #[.float .f64 0, .bool false]) w := by kernel_rfl
theorem asWErrFloat (v : Value) (w : World) : (Instr.typeAssert (.iface 80 v) 20 33 true).run Tryz.prog w = .ok (.tuple #[.float .f64 0, .bool false]) w := by kernel_rfl
theorem asFloatFloatR (v : Value) (w : World) : (Instr.typeAssert (.iface 33 v) 20 33 true).run Tryz.prog w = .ok (.tuple #[v, .bool true]) w := by kernel_rfl
set_option maxRecDepth 100000 in
set_option maxHeartbeats 1600000 in
theorem zzstring_any (s : ByteArray) (w : World) : Calls Tryz.prog 17 #[.string s] w fun e w' => e = .returned (.tuple #[.float .f64 0, .bool false]) ∧ Below w.heap.size w w' := by
  have as1 := asStrArr
  have as2 := asTErrFloat
  go_enter Tryz.func17, Tryz.ntmps17
  go_wp2
  repeat (any_goals go_region; any_goals go_wp2)
  all_goals (go_ret2; exact ⟨rfl, by go_grown⟩)
theorem toInt_str (s : ByteArray) (w : World) : Calls Tryz.prog 52 #[.iface 9 (.string s)] w fun e w' => e = .returned (.tuple #[.int .i64 0, .bool false]) ∧ w = w' := by
  have as1 := asStrInt
  have as2 := asStrFloat
  have as3 := asStrBig
  have as4 := asStrNum
  go_enter Tryz.func52, Tryz.ntmps52
  go_wp2
  go_ret2
  exact ⟨rfl, rfl⟩
theorem started_t (w : World) : (startW w).cell? ⟨w.heap.size + 1, 0, none⟩ = some (.int .u64 0) ∧ (startW w).cell? ⟨w.heap.size + 1, 1, none⟩ = some (.int .i64 0) ∧ (startW w).cell? ⟨w.heap.size + 1, 2, none⟩ = some (.pointer none) := by
  unfold startW
  exact ⟨by go_simp, by go_simp, by go_simp⟩
set_option maxRecDepth 100000 in
set_option maxHeartbeats 3200000 in
theorem arr_text (A b n c : Nat) (s : ByteArray) (w : World) (hn : 0 < n) (hA : A < w.heap.size) (c0 : w.cell? ⟨A, 0, none⟩ = some (.iface 9 (.string s))) :
    Calls Tryz.prog 41 #[.slice (some ⟨A, 0, none⟩) n c, .pointer (some ⟨b, 0, none⟩)] w fun e w' => (∃ p, e = .returned (.tuple #[.agg #[.int .u64 0, .int .i64 0, .pointer none], .iface 100 p])) ∧ Below w.heap.size w w' := by
  have q : ¬ (n : Int) ≤ 0 := by omega
  have q' : (0 : Int) < (n : Int) := by omega
  go_enter Tryz.func41, Tryz.ntmps41
  go_wp2_with fail
  simp only [Nat.add_assoc, Nat.reduceAdd]
  have hS : Started w (startW w) := started w
  have q0 : ∀ o, (startW w).cell? ⟨A, o, none⟩ = w.cell? ⟨A, o, none⟩ := fun o => hS.below.cell (p := ⟨A, o, none⟩) hA
  have a0 := (q0 0).trans c0
  have HB := Lib.hid hS.below
  have p0 := hS.p0
  have t0 := hS.t0
  have t1 := hS.t1
  have t2 := hS.t2
  have v2 := hS.v2
  have f2 := hS.f2
  have hsz := hS.size
  have g0 := hS.g0
  have g1 := hS.g1
  have g2 := hS.g2
  obtain ⟨r0, r1, r2⟩ := started_t w
  clear c0 q0 hS
  change Code.wp _ _ _ _ (startW w)
  generalize startW w = W1 at *
  have hz0 : w.heap.size < W1.heap.size := by omega
  have hz1 : w.heap.size + 1 < W1.heap.size := by omega
  have hz2 : w.heap.size + 2 < W1.heap.size := by omega
  refine wp_loop_rounds 9 ?_
  rw [rounds_succ]
  go_wp2_with (first | (go_at_call 52; refine (toInt_str _ _).mono ?_; rintro e w9 ⟨rfl, rfl⟩))
  exact bodyPost_ret (v := .tuple #[.agg #[.int .u64 0, .int .i64 0, .pointer none], .iface 100 (.pointer (some ⟨W1.heap.size, 0, none⟩))]) (by simp [results, Tryz.results41, go_sem]; go_simp) rfl ⟨⟨_, rfl⟩, HB.out.trans (by go_grown)⟩
set_option maxRecDepth 100000 in
set_option maxHeartbeats 3200000 in
theorem arr_none (A b c : Nat) (w : World) (hb : b < w.heap.size) (hU : Utc2 w b) :
    Calls Tryz.prog 41 #[.slice (some ⟨A, 0, none⟩) 0 c, .pointer (some ⟨b, 0, none⟩)] w fun e w' => e = .returned (.tuple #[tmV (86400 * dayOf 0 1 0 0 0 0 + secOf 0 0 0) 0, .nilIface]) ∧ Below w.heap.size w w' := by
  have HD := Lib.hid (fun w (hb : b < w.heap.size) (hU : Utc2 w b) => date_any 0 1 0 0 0 0 0 (by omega) (by omega) (by omega) (by omega) (by omega) (by omega) (by omega) (by omega) (by omega) (by omega) (by omega) (by omega) (by omega) (by omega) (by decide) b w hb hU)
  generalize 86400 * dayOf 0 1 0 0 0 0 + secOf 0 0 0 = U at HD ⊢
  have HU := Lib.hid hU
  clear hU
  go_enter Tryz.func41, Tryz.ntmps41
  go_wp2_with fail
  simp only [Nat.add_assoc, Nat.reduceAdd]
  have hS : Started w (startW w) := started w
  have HB := Lib.hid hS.below
  have HU1 := Lib.hid (Utc2.on HU.out hb hS.below)
  have p0 := hS.p0
  have t0 := hS.t0
  have t1 := hS.t1
  have t2 := hS.t2
  have g0 := hS.g0
  have g1 := hS.g1
  have g2 := hS.g2
  have v2 := hS.v2
  have v3 := hS.v3
  have v4 := hS.v4
  have v5 := hS.v5
  have v6 := hS.v6
  have v7 := hS.v7
  have hsz := hS.size
  clear hS HU
  change Code.wp _ _ _ _ (startW w)
  generalize startW w = W1 at *
  have hz0 : w.heap.size < W1.heap.size := by omega
  refine wp_loop_rounds 9 ?_
  rw [rounds_succ]
  go_wp2_with fail
  refine (HD.out _ (by omega) HU1.out).mono ?_
  rintro e w9 ⟨rfl, hb9⟩
  have HB9 := Lib.hid (below_up (B := w.heap.size) hb9 (by omega))
  have d0 : w9.cell? ⟨w.heap.size, 0, none⟩ = some (.int .u64 0) := (hb9.cell (p := ⟨w.heap.size, 0, none⟩) (by show w.heap.size < _; omega)).trans t0
  have d1 : w9.cell? ⟨w.heap.size, 1, none⟩ = some (.int .i64 0) := (hb9.cell (p := ⟨w.heap.size, 1, none⟩) (by show w.heap.size < _; omega)).trans t1
  have d2 : w9.cell? ⟨w.heap.size, 2, none⟩ = some (.pointer none) := (hb9.cell (p := ⟨w.heap.size, 2, none⟩) (by show w.heap.size < _; omega)).trans t2
  have e0 : w9.frozen? ⟨w.heap.size, 0, none⟩ = false := (hb9.frozen (p := ⟨w.heap.size, 0, none⟩) (by show w.heap.size < _; omega)).trans g0
  have e1 : w9.frozen? ⟨w.heap.size, 1, none⟩ = false := (hb9.frozen (p := ⟨w.heap.size, 1, none⟩) (by show w.heap.size < _; omega)).trans g1
  have e2 : w9.frozen? ⟨w.heap.size, 2, none⟩ = false := (hb9.frozen (p := ⟨w.heap.size, 2, none⟩) (by show w.heap.size < _; omega)).trans g2
  clear hb9 p0 v2 v3 v4 v5 v6 v7 t0 t1 t2 g0 g1 g2
  unfold tmV
  go_wp2_with fail
  exact bodyPost_ret (v := .tuple #[.agg #[.int .u64 0, .int .i64 (U + 62135596800), .pointer none], .nilIface]) (by simp [results, Tryz.results41, go_sem]; go_simp) rfl ⟨rfl, HB.out.trans (HB9.out.trans (by go_grown))⟩
set_option maxRecDepth 100000 in
set_option maxHeartbeats 1600000 in
theorem mktime_text (A n c : Nat) (s : ByteArray) (w : World) (hn : 0 < n) (hA : A < w.heap.size) (c0 : w.cell? ⟨A, 0, none⟩ = some (.iface 9 (.string s))) :
    Calls Tryz.prog 25 #[.iface 47 (.slice (some ⟨A, 0, none⟩) n c)] w fun e w' => (∃ p, e = .returned (.iface 80 p)) ∧ Below w.heap.size w w' := by
  have HA := Lib.hid (fun (b : Nat) (w1 : World) (hB : Below w.heap.size w w1) => arr_text A b n c s w1 hn (Nat.lt_of_lt_of_le hA hB.size) ((hB.cell (p := ⟨A, 0, none⟩) hA).trans c0))
  have as1 := asArrArr
  clear c0 hn hA
  go_enter Tryz.func25, Tryz.ntmps25
  go_wp2_with (first | (go_at_call 42; go_in))
  refine (HA.out _ _ ?_).mono ?_
  · go_grown
  rintro e w1 ⟨⟨p, rfl⟩, hb1'⟩
  have HB : Hid (Below w.heap.size w w1) := Lib.hid (Below.trans (by go_grown) (below_of hb1' (by simp)))
  clear hb1' HA
  go_wp2_with fail
  repeat (any_goals go_region; any_goals go_wp2_with fail)
  have hs1 := HB.out.size
  all_goals (go_ret; first | exact ⟨⟨_, rfl⟩, HB.out.trans (by go_grown)⟩ | exact ⟨_, HB.out.trans (by go_grown)⟩)
set_option maxRecDepth 100000 in
set_option maxHeartbeats 1600000 in
theorem mktime_none (A c : Nat) (w : World) :
    Calls Tryz.prog 25 #[.iface 47 (.slice (some ⟨A, 0, none⟩) 0 c)] w fun e w' => (∃ r, e = .returned (.iface 33 (.float .f64 r))) ∧ Below w.heap.size w w' := by
  have hU : -4398046511104 ≤ 86400 * dayOf 0 1 0 0 0 0 + secOf 0 0 0 ∧ 86400 * dayOf 0 1 0 0 0 0 + secOf 0 0 0 ≤ 4398046511104 := by decide
  have HA := Lib.hid (fun (b : Nat) (w1 : World) (hb : b < w1.heap.size) (hU : Utc2 w1 b) => arr_none A b c w1 hb hU)
  generalize 86400 * dayOf 0 1 0 0 0 0 + secOf 0 0 0 = u at HA hU
  have HT := Lib.hid (fun w => toEpoch_any u 0 (by omega) (by omega) (by omega) (by omega) w)
  have as1 := asArrArr
  unfold tmV at HA HT
  rw [show (0 : Int) * 1953125 = 0 from rfl] at HT
  go_enter Tryz.func25, Tryz.ntmps25
  go_wp2_with (first | (go_at_call 42; go_in))
  refine (HA.out _ _ (by simp) ?_).mono ?_
  · unfold Utc2
    exact ⟨by go_simp, by go_simp⟩
  rintro e w1 ⟨rfl, hb1'⟩
  have hb1 : Below w.heap.size w w1 := Below.trans (by go_grown) (below_of hb1' (by simp))
  clear hb1' HA
  go_wp2_with fail
  refine (HT.out _).mono ?_
  rintro e w2 ⟨⟨r, rfl, hr⟩, hb2⟩
  have HB := Lib.hid (hb1.trans (below_of (below_alloc hb2) hb1.size))
  clear hr hb1 hb2
  go_wp2_with fail
  go_ret
  first | exact ⟨⟨r, rfl⟩, HB.out⟩ | exact HB.out
end Go.Proofs.YtmbegjbhmeihiaaGreatDoor
