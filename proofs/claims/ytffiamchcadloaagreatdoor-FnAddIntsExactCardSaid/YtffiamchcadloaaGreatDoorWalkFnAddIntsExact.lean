/-
  The walk of the law FnAddIntsExact.
-/
import Derived.Test.YtffiamchcadloaaGreatDoorMatB
namespace Go.Proofs.YtffiamchcadloaaGreatDoor
set_option linter.unusedVariables false
set_option linter.unusedSimpArgs false
open Go.RowKit Go.Lib

theorem zzadd_small (l r : Int) (hl0 : -9223372036854775808 ≤ l) (hl1 : l ≤ 9223372036854775807) (hr0 : -9223372036854775808 ≤ r) (hr1 : r ≤ 9223372036854775807) (h0 : -9223372036854775808 ≤ l + r) (h1 : l + r ≤ 9223372036854775807) (w : World) :
    Calls Tryz.prog 6 #[.int .i64 l, .int .i64 r] w fun e w' => e = .returned (.tuple #[.int .i64 1, .int .i64 (l + r), .bool false, .slice none 0 0]) ∧ Below w.heap.size w w' := by
  have HA := Lib.hid (fun w => add_small l r hl0 hl1 hr0 hr1 h0 h1 w)
  clear hl0 hl1 hr0 hr1 h0 h1
  go_enter Tryz.func6, Tryz.ntmps6
  go_wp2_with fail
  refine (HA.out _).mono ?_
  rintro e w1 ⟨rfl, hb1⟩
  have HK := Lib.hid (fun w => kind_int (l + r) w)
  have HB1 := Lib.hid hb1
  clear hb1
  go_wp2_with fail
  refine (HK.out _).mono ?_
  rintro e w2 ⟨rfl, hb2⟩
  have HB2 := Lib.hid (HB1.out.trans (below_of hb2 HB1.out.size))
  clear hb2
  go_wp2_with fail
  exact bodyPost_ret (v := .tuple #[.int .i64 1, .int .i64 (l + r), .bool false, .slice none 0 0]) (by simp [results, Tryz.results6, go_sem]; try rfl) rfl ⟨rfl, HB2.out⟩
theorem zzadd_big (l r : Int) (hl0 : -9223372036854775808 ≤ l) (hl1 : l ≤ 9223372036854775807) (hr0 : -9223372036854775808 ≤ r) (hr1 : r ≤ 9223372036854775807) (ho : l + r < -9223372036854775808 ∨ 9223372036854775807 < l + r) (w : World) :
    Calls Tryz.prog 6 #[.int .i64 l, .int .i64 r] w fun e w' => (∃ G L, e = .returned (.tuple #[.int .i64 3, .int .i64 0, .bool (decide (l + r < 0)), .slice (some ⟨G, 0, none⟩) L L]) ∧ (wordsOf (l + r).natAbs).length = L ∧ Row w' G 25 (wordsOf (l + r).natAbs)) ∧ Below w.heap.size w w' := by
  have HA := Lib.hid (fun w => add_big l r hl0 hl1 hr0 hr1 ho w)
  have HK := Lib.hid (fun b w => kind_big b (decide (l + r < 0)) (l + r).natAbs (by omega) w)
  clear hl0 hl1 hr0 hr1 ho
  generalize (l + r).natAbs = N at *
  generalize decide (l + r < 0) = neg at *
  go_enter Tryz.func6, Tryz.ntmps6
  go_wp2_with fail
  refine (HA.out _).mono ?_
  rintro e w1 ⟨⟨b, rfl, hN⟩, hb1⟩
  have HB1 := Lib.hid hb1
  have HN := Lib.hid hN
  clear hb1 hN
  go_wp2_with fail
  refine (HK.out _ _ HN.out).mono ?_
  rintro e w2 ⟨⟨G, L, rfl, hL, hR⟩, hb2⟩
  have HB2 := Lib.hid (HB1.out.trans (below_of hb2 HB1.out.size))
  have HL := Lib.hid hL
  have HR := Lib.hid hR
  clear hb2 hL hR
  go_wp2_with fail
  exact bodyPost_ret (v := .tuple #[.int .i64 3, .int .i64 0, .bool neg, .slice (some ⟨G, 0, none⟩) L L]) (by simp [results, Tryz.results6, go_sem]; try rfl) rfl ⟨⟨_, _, rfl, HL.out, HR.out⟩, HB2.out⟩
set_option maxRecDepth 100000 in
set_option maxHeartbeats 1600000 in
theorem walk_FnAddIntsExact (l r : Int) (W : World) (wl : (Lit.int .i64 l).wf = true) (wr : (Lit.int .i64 r).wf = true) (hD : Tabs W) :
    Calls Tryz.prog 3 #[.int .i64 l, .int .i64 r] W fun e w' => e = .returned (.bool true) ∧ Below W.heap.size W w' := by
  clear hD
  have bl := bounds_int wl
  have br := bounds_int wr
  clear wl wr
  have HWL := Lib.hid (fun w => wide_any l (by omega) (by omega) w)
  have HWR := Lib.hid (fun w => wide_any r (by omega) (by omega) w)
  have HAD := Lib.hid (fun w => add128_any l r w)
  by_cases ho : l + r < -9223372036854775808 ∨ 9223372036854775807 < l + r
  · have HZ := Lib.hid (fun w => zzadd_big l r (by omega) (by omega) (by omega) (by omega) ho w)
    have HM := Lib.hid (fun g c w => matches_big (l + r) ho (by omega) (by omega) g c w)
    clear ho bl br
    go_enter Tryz.func3, Tryz.ntmps3
    go_wp2_with fail
    refine (HZ.out _).mono ?_
    rintro e w1 ⟨⟨G, L, rfl, rfl, hR⟩, hb1⟩
    have HB1 := Lib.hid hb1
    have HR := Lib.hid hR
    clear hb1 hR
    go_wp2_with fail
    refine (HWL.out _).mono ?_
    rintro e w2 ⟨rfl, rfl⟩
    go_wp2_with fail
    refine (HWR.out _).mono ?_
    rintro e w2 ⟨rfl, rfl⟩
    go_wp2_with fail
    refine (HAD.out _).mono ?_
    rintro e w2 ⟨rfl, rfl⟩
    go_wp2_with fail
    refine (HM.out _ _ _ HR.out).mono ?_
    rintro e w2 ⟨rfl, rfl⟩
    go_wp2_with fail
    go_ret
    exact ⟨rfl, HB1.out⟩
  · have HZ := Lib.hid (fun w => zzadd_small l r (by omega) (by omega) (by omega) (by omega) (by omega) (by omega) w)
    have HM := Lib.hid (fun mag w => matches_int (l + r) false mag (by omega) (by omega) w)
    clear ho bl br
    go_enter Tryz.func3, Tryz.ntmps3
    go_wp2_with fail
    refine (HZ.out _).mono ?_
    rintro e w1 ⟨rfl, hb1⟩
    have HB1 := Lib.hid hb1
    clear hb1
    go_wp2_with fail
    refine (HWL.out _).mono ?_
    rintro e w2 ⟨rfl, rfl⟩
    go_wp2_with fail
    refine (HWR.out _).mono ?_
    rintro e w2 ⟨rfl, rfl⟩
    go_wp2_with fail
    refine (HAD.out _).mono ?_
    rintro e w2 ⟨rfl, rfl⟩
    go_wp2_with fail
    refine (HM.out _ _).mono ?_
    rintro e w2 ⟨rfl, rfl⟩
    go_wp2_with fail
    go_ret
    exact ⟨rfl, HB1.out⟩
end Go.Proofs.YtffiamchcadloaaGreatDoor
