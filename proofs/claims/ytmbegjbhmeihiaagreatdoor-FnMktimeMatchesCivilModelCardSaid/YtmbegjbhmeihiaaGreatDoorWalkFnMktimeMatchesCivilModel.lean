/-
  The walk of the law FnMktimeMatchesCivilModel.
-/
import Derived.Test.YtmbegjbhmeihiaaGreatDoorMkt
import Derived.Test.YtmbegjbhmeihiaaGreatDoorWalkFnLocaltimeIsCalendarShiftOfTheInstant
namespace Go.Proofs.YtmbegjbhmeihiaaGreatDoor
set_option linter.unusedVariables false
set_option linter.unusedSimpArgs false
open Go.RowKit Go.Lib

theorem asFloatFloatA (v : Value) (w : World) : (Instr.typeAssert (.iface 33 v) 20 33 true).run Tryz.prog w = .ok (.tuple #[v, .bool true]) w := by kernel_rfl
set_option maxRecDepth 100000 in
set_option maxHeartbeats 3200000 in
theorem zzmktime_any (y mo d h mi s k wd yd : Int) (rs : Nat) (w : World) (hz : Fl rs (512 * s + k)) (hk0 : 0 ≤ k) (hk1 : k < 512)
    (y0 : -65536 ≤ y) (y1 : y ≤ 65536) (mo0 : -65536 ≤ mo) (mo1 : mo ≤ 65536) (d0 : -65536 ≤ d) (d1 : d ≤ 65536) (h0 : -65536 ≤ h) (h1 : h ≤ 65536) (mi0 : -65536 ≤ mi) (mi1 : mi ≤ 65536) (s0 : -65536 ≤ s) (s1 : s ≤ 65536) :
    Calls Tryz.prog 23 #[.int .i64 y, .int .i64 mo, .int .i64 d, .int .i64 h, .int .i64 mi, .float .f64 rs, .int .i64 wd, .int .i64 yd] w fun e w' => (∃ r, e = .returned (.tuple #[.float .f64 r, .bool true]) ∧ Fl r (512 * unixOf y mo d h mi ((512 * s + k).tdiv 512) + k)) ∧ Below w.heap.size w w' := by
  have as1 := asFloatFloatA
  have HM := Lib.hid (fun (A : Nat) (w1 : World) (hA : A < w1.heap.size) (c0 : w1.cell? ⟨A, 0, none⟩ = some (.iface 3 (.int .i64 y))) (c1 : w1.cell? ⟨A, 1, none⟩ = some (.iface 3 (.int .i64 mo))) (c2 : w1.cell? ⟨A, 2, none⟩ = some (.iface 3 (.int .i64 d))) (c3 : w1.cell? ⟨A, 3, none⟩ = some (.iface 3 (.int .i64 h))) (c4 : w1.cell? ⟨A, 4, none⟩ = some (.iface 3 (.int .i64 mi)))
    (c5 : w1.cell? ⟨A, 5, none⟩ = some (.iface 33 (.float .f64 rs))) (c6 : w1.cell? ⟨A, 6, none⟩ = some (.iface 3 (.int .i64 wd))) (c7 : w1.cell? ⟨A, 7, none⟩ = some (.iface 3 (.int .i64 yd))) =>
    mktime_any A y mo d h mi s k wd yd rs w1 hA hz hk0 hk1 y0 y1 mo0 mo1 d0 d1 h0 h1 mi0 mi1 s0 s1 c0 c1 c2 c3 c4 c5 c6 c7)
  clear hz
  generalize 512 * unixOf y mo d h mi ((512 * s + k).tdiv 512) + k = Z at HM ⊢
  go_enter Tryz.func23, Tryz.ntmps23
  go_wp2_with fail
  refine (HM.out _ _ (by simp) ?_ ?_ ?_ ?_ ?_ ?_ ?_ ?_).mono ?_
  iterate 8 go_simp
  rintro e w1 ⟨⟨r, rfl, hr⟩, hb1'⟩
  have HR := Lib.hid hr
  have HB : Hid (Below w.heap.size w w1) := Lib.hid (Below.trans (by go_grown) (below_of hb1' (by simp)))
  clear hr hb1' HM
  go_wp2_with fail
  go_ret2
  exact ⟨⟨r, rfl, HR.out⟩, HB.out⟩

theorem out_of (x : Int) (h : ¬ (-65536 ≤ x ∧ x ≤ 65536)) : x < -65536 ∨ 65536 < x := by omega
set_option maxRecDepth 100000 in
set_option maxHeartbeats 3200000 in
theorem walk_FnMktimeMatchesCivilModel (y mo d h mi s k wd yd : Int) (W : World) (wy : (Lit.int .i64 y).wf = true) (wmo : (Lit.int .i64 mo).wf = true) (wd' : (Lit.int .i64 d).wf = true) (wh : (Lit.int .i64 h).wf = true) (wmi : (Lit.int .i64 mi).wf = true) (ws : (Lit.int .i64 s).wf = true) (wk : (Lit.int .i64 k).wf = true) (wwd : (Lit.int .i64 wd).wf = true) (wyd : (Lit.int .i64 yd).wf = true) (hD : Tabs W) :
    Calls Tryz.prog 7 #[.int .i64 y, .int .i64 mo, .int .i64 d, .int .i64 h, .int .i64 mi, .int .i64 s, .int .i64 k, .int .i64 wd, .int .i64 yd] W fun e w' => e = .returned (.bool true) ∧ Below W.heap.size W w' := by
  clear hD
  have by' := bounds_int wy
  have bmo := bounds_int wmo
  have bd := bounds_int wd'
  have bh := bounds_int wh
  have bmi := bounds_int wmi
  have bs := bounds_int ws
  have bk := bounds_int wk
  clear wy wmo wd' wh wmi ws wk wwd wyd
  by_cases gY : -65536 ≤ y ∧ y ≤ 65536
  case neg =>
    rcases out_of y gY with g | g
    all_goals
      clear gY
      go_enter Tryz.func7, Tryz.ntmps7
      go_wp2_with fail
      go_ret
      exact ⟨rfl, by go_grown⟩
  by_cases gM : -65536 ≤ mo ∧ mo ≤ 65536
  case neg =>
    obtain ⟨gY0, gY1⟩ := gY
    rcases out_of mo gM with g | g
    all_goals
      clear gM
      go_enter Tryz.func7, Tryz.ntmps7
      go_wp2_with fail
      go_ret
      exact ⟨rfl, by go_grown⟩
  by_cases gD : -65536 ≤ d ∧ d ≤ 65536
  case neg =>
    obtain ⟨gY0, gY1⟩ := gY
    obtain ⟨gM0, gM1⟩ := gM
    rcases out_of d gD with g | g
    all_goals
      clear gD
      go_enter Tryz.func7, Tryz.ntmps7
      go_wp2_with fail
      go_ret
      exact ⟨rfl, by go_grown⟩
  by_cases gH : -65536 ≤ h ∧ h ≤ 65536
  case neg =>
    obtain ⟨gY0, gY1⟩ := gY
    obtain ⟨gM0, gM1⟩ := gM
    obtain ⟨gD0, gD1⟩ := gD
    rcases out_of h gH with g | g
    all_goals
      clear gH
      go_enter Tryz.func7, Tryz.ntmps7
      go_wp2_with fail
      go_ret
      exact ⟨rfl, by go_grown⟩
  by_cases gI : -65536 ≤ mi ∧ mi ≤ 65536
  case neg =>
    obtain ⟨gY0, gY1⟩ := gY
    obtain ⟨gM0, gM1⟩ := gM
    obtain ⟨gD0, gD1⟩ := gD
    obtain ⟨gH0, gH1⟩ := gH
    rcases out_of mi gI with g | g
    all_goals
      clear gI
      go_enter Tryz.func7, Tryz.ntmps7
      go_wp2_with fail
      go_ret
      exact ⟨rfl, by go_grown⟩
  by_cases gS : -65536 ≤ s ∧ s ≤ 65536
  case neg =>
    obtain ⟨gY0, gY1⟩ := gY
    obtain ⟨gM0, gM1⟩ := gM
    obtain ⟨gD0, gD1⟩ := gD
    obtain ⟨gH0, gH1⟩ := gH
    obtain ⟨gI0, gI1⟩ := gI
    rcases out_of s gS with g | g
    all_goals
      clear gS
      go_enter Tryz.func7, Tryz.ntmps7
      go_wp2_with fail
      go_ret
      exact ⟨rfl, by go_grown⟩
  obtain ⟨gY0, gY1⟩ := gY
  obtain ⟨gM0, gM1⟩ := gM
  obtain ⟨gD0, gD1⟩ := gD
  obtain ⟨gH0, gH1⟩ := gH
  obtain ⟨gI0, gI1⟩ := gI
  obtain ⟨gS0, gS1⟩ := gS
  by_cases gk0 : k < 0
  · go_enter Tryz.func7, Tryz.ntmps7
    go_wp2_with fail
    go_ret
    exact ⟨rfl, by go_grown⟩
  by_cases gk1 : 512 ≤ k
  · go_enter Tryz.func7, Tryz.ntmps7
    go_wp2_with fail
    go_ret
    exact ⟨rfl, by go_grown⟩
  have hk0 : 0 ≤ k := by omega
  have hk1 : k < 512 := by omega
  clear by' bmo bd bh bmi bs bk gk0 gk1
  obtain ⟨rk, e1, f1⟩ := fl_div (c := k) (fl_ofInt k (by omega)) fl_512 (by omega) (by omega) (by omega) (by omega) (by omega)
  obtain ⟨rv, e2, f2⟩ := fl_add (fl_ofInt s (by omega)) f1 (by omega)
  have HZ := Lib.hid (fun w => zzmktime_any y mo d h mi s k wd yd rv w f2 hk0 hk1 gY0 gY1 gM0 gM1 gD0 gD1 gH0 gH1 gI0 gI1 gS0 gS1)
  have ht := eff_eq s k hk0 hk1
  obtain ⟨T, hT⟩ : ∃ T, (512 * s + k).tdiv 512 = T := ⟨_, rfl⟩
  rw [hT] at ht HZ
  have hTb : -65536 ≤ T ∧ T ≤ 65537 := by rw [ht]; split <;> omega
  have HU := Lib.hid (fun w => unixOf_any y mo d h mi T (by omega) (by omega) (by omega) (by omega) (by omega) (by omega) (by omega) (by omega) (by omega) (by omega) (by omega) (by omega) w)
  have hub := unix_small y mo d h mi T gY0 gY1 gM0 gM1 gD0 gD1 gH0 gH1 gI0 gI1 (by omega) (by omega)
  generalize unixOf y mo d h mi T = u at HZ HU hub
  obtain ⟨ru, e3, f3⟩ := fl_add (fl_ofInt u (by omega)) f1 (by omega)
  have a1 : ∀ wx : World, (binOp .quo 33 (.float .f64 (floatOfInt .f64 k)) (.float .f64 4647714815446351872)).run Tryz.prog wx = .ok (.float .f64 rk) wx := fun wx => run_float_arith wx _ _ _ _ _ _ e1
  have a2 : ∀ wx : World, (binOp .add 33 (.float .f64 (floatOfInt .f64 s)) (.float .f64 rk)).run Tryz.prog wx = .ok (.float .f64 rv) wx := fun wx => run_float_arith wx _ _ _ _ _ _ e2
  have a3 : ∀ wx : World, (binOp .add 33 (.float .f64 (floatOfInt .f64 u)) (.float .f64 rk)).run Tryz.prog wx = .ok (.float .f64 ru) wx := fun wx => run_float_arith wx _ _ _ _ _ _ e3
  have F3 := Lib.hid f3
  clear f1 f2 f3 e1 e2 e3 hT
  by_cases hs : s < 0
  · by_cases hkp : 0 < k
    · rw [if_pos ⟨hs, hkp⟩] at ht
      subst ht
      go_enter Tryz.func7, Tryz.ntmps7
      go_wp2_with fail
      refine (HU.out _).mono ?_
      rintro e w3 ⟨rfl, rfl⟩
      go_wp2_with fail
      refine (HZ.out _).mono ?_
      rintro e w2 ⟨⟨r, rfl, fr⟩, hb2⟩
      have o1 : FloatKind.f64.format.order r ru = some .eq := fl_eq fr F3.out
      have HB2 := Lib.hid hb2
      clear hb2 fr
      go_wp2_with fail
      go_ret
      exact ⟨rfl, HB2.out⟩
    · rw [if_neg (fun h' => hkp h'.2)] at ht
      obtain rfl : s = T := ht.symm
      go_enter Tryz.func7, Tryz.ntmps7
      go_wp2_with fail
      refine (HU.out _).mono ?_
      rintro e w3 ⟨rfl, rfl⟩
      go_wp2_with fail
      refine (HZ.out _).mono ?_
      rintro e w2 ⟨⟨r, rfl, fr⟩, hb2⟩
      have o1 : FloatKind.f64.format.order r ru = some .eq := fl_eq fr F3.out
      have HB2 := Lib.hid hb2
      clear hb2 fr
      go_wp2_with fail
      go_ret
      exact ⟨rfl, HB2.out⟩
  · rw [if_neg (fun h' => hs h'.1)] at ht
    obtain rfl : s = T := ht.symm
    go_enter Tryz.func7, Tryz.ntmps7
    go_wp2_with fail
    refine (HU.out _).mono ?_
    rintro e w3 ⟨rfl, rfl⟩
    go_wp2_with fail
    refine (HZ.out _).mono ?_
    rintro e w2 ⟨⟨r, rfl, fr⟩, hb2⟩
    have o1 : FloatKind.f64.format.order r ru = some .eq := fl_eq fr F3.out
    have HB2 := Lib.hid hb2
    clear hb2 fr
    go_wp2_with fail
    go_ret
    exact ⟨rfl, HB2.out⟩
end Go.Proofs.YtmbegjbhmeihiaaGreatDoor
