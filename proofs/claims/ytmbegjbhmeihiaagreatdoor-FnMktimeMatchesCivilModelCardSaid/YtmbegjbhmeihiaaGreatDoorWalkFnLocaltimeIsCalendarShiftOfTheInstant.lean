/-
  The walk of the law FnLocaltimeIsCalendarShiftOfTheInstant.
-/
import Derived.Test.YtmbegjbhmeihiaaGreatDoorLocal
import Derived.Test.YtmbegjbhmeihiaaGreatDoorTmL
import Derived.Deep.QuietTactic
import Derived.BigQuiet
namespace Go.Proofs.YtmbegjbhmeihiaaGreatDoor
set_option linter.unusedVariables false
set_option linter.unusedSimpArgs false
open Go.RowKit Go.Lib

theorem below_drewN {B : Nat} {w w' : World} (h : Below B w w') (n : Nat) : Below B w (w'.drewN n) := ⟨h.os, h.tape, h.output, h.size, h.block⟩
theorem must_int (v : Value) (w : World) : (Instr.typeAssert (.iface 3 v) 20 3 false).run Tryz.prog w = .ok v w := by kernel_rfl
theorem must_float (v : Value) (w : World) : (Instr.typeAssert (.iface 33 v) 20 33 false).run Tryz.prog w = .ok v w := by kernel_rfl
/-- What the law's door to localtime hands back. -/
def ZLocal (w : World) (u k : Int) (e : Ending) (w' : World) : Prop := ∃ r : Nat, e = .returned (.tuple #[.int .i64 (gY ((u + 9223372028741760000) / 86400)), .int .i64 (gM ((u + 9223372028741760000) / 86400) - 1), .int .i64 (gD ((u + 9223372028741760000) / 86400)),
    .int .i64 ((u + 9223372028741760000) % 86400 / 3600), .int .i64 ((u + 9223372028741760000) % 3600 / 60), .float .f64 r, .int .i64 (((u + 9223372028741760000) / 86400 + 3) % 7), .int .i64 (gYday ((u + 9223372028741760000) / 86400) - 1), .bool true]) ∧
  Fl r (512 * ((u + 9223372028741760000) % 60) + k) ∧ Below w.heap.size w w'
set_option maxRecDepth 100000 in
set_option maxHeartbeats 3200000 in
theorem zzlocal_any (x : Nat) (z : Int) (h : Fl x z) (hz0 : -562949953421312 ≤ z) (hz1 : z ≤ 562949953421823) (w : World) :
    Calls Tryz.prog 20 #[.float .f64 x] w (ZLocal w (z.tdiv 512) (z % 512)) := by
  have HE := Lib.hid (fun w => local_any x z h hz0 hz1 w)
  have as1 := asArrArr
  have as2 := must_int
  have as3 := must_float
  clear h hz0 hz1
  unfold ZLocal
  unfold Local at HE
  generalize z.tdiv 512 = u at HE ⊢
  generalize z % 512 = k at HE ⊢
  generalize gY ((u + 9223372028741760000) / 86400) = vY at HE ⊢
  generalize gM ((u + 9223372028741760000) / 86400) - 1 = vM at HE ⊢
  generalize gD ((u + 9223372028741760000) / 86400) = vD at HE ⊢
  generalize gYday ((u + 9223372028741760000) / 86400) - 1 = vYd at HE ⊢
  generalize (u + 9223372028741760000) % 86400 / 3600 = vH at HE ⊢
  generalize (u + 9223372028741760000) % 3600 / 60 = vI at HE ⊢
  generalize ((u + 9223372028741760000) / 86400 + 3) % 7 = vW at HE ⊢
  generalize 512 * ((u + 9223372028741760000) % 60) + k = vS at HE ⊢
  go_enter Tryz.func20, Tryz.ntmps20
  go_wp2_with fail
  refine (HE.out _).mono ?_
  rintro e w1 ⟨b, r, rfl, h1, h2, h3, h4⟩
  have H2 := Lib.hid h2
  have H4 := Lib.hid h4
  have c0 : w1.cell? ⟨b, 0, none⟩ = some (.iface 3 (.int .i64 vY)) := by simp [World.cell?, h3]
  have c1 : w1.cell? ⟨b, 1, none⟩ = some (.iface 3 (.int .i64 vM)) := by simp [World.cell?, h3]
  have c2 : w1.cell? ⟨b, 2, none⟩ = some (.iface 3 (.int .i64 vD)) := by simp [World.cell?, h3]
  have c3 : w1.cell? ⟨b, 3, none⟩ = some (.iface 3 (.int .i64 vH)) := by simp [World.cell?, h3]
  have c4 : w1.cell? ⟨b, 4, none⟩ = some (.iface 3 (.int .i64 vI)) := by simp [World.cell?, h3]
  have c5 : w1.cell? ⟨b, 5, none⟩ = some (.iface 33 (.float .f64 r)) := by simp [World.cell?, h3]
  have c6 : w1.cell? ⟨b, 6, none⟩ = some (.iface 3 (.int .i64 vW)) := by simp [World.cell?, h3]
  have c7 : w1.cell? ⟨b, 7, none⟩ = some (.iface 3 (.int .i64 vYd)) := by simp [World.cell?, h3]
  clear h1 h2 h3 h4
  go_wp2_with fail
  try go_quiet (fail)
  try go_wp2_with fail
  all_goals (first
    | exact bodyPost_ret (v := .tuple #[.int .i64 vY, .int .i64 vM, .int .i64 vD, .int .i64 vH, .int .i64 vI, .float .f64 r, .int .i64 vW, .int .i64 vYd, .bool true]) (by simp [results, Tryz.results20, go_sem]) rfl ⟨r, rfl, H2.out, H4.out⟩
    | exact bodyPost_ret (v := .tuple #[.int .i64 vY, .int .i64 vM, .int .i64 vD, .int .i64 vH, .int .i64 vI, .float .f64 r, .int .i64 vW, .int .i64 vYd, .bool true]) (by simp [results, Tryz.results20, go_sem]) rfl ⟨r, rfl, H2.out, below_drewN H4.out _⟩)

theorem eff_eq (s k : Int) (hk0 : 0 ≤ k) (hk1 : k < 512) : (512 * s + k).tdiv 512 = if s < 0 ∧ 0 < k then s + 1 else s := by
  rcases Int.lt_or_le (512 * s + k) 0 with hn | hn
  · obtain ⟨m, hm⟩ : ∃ m : Nat, 512 * s + k = -(m : Int) := ⟨(512 * s + k).natAbs, by omega⟩
    rw [hm, Int.neg_tdiv, Int.tdiv_eq_ediv_of_nonneg (by omega)]
    split <;> omega
  · rw [Int.tdiv_eq_ediv_of_nonneg hn]
    split <;> omega
theorem effSec_any (s k : Int) (hs0 : -1099511627776 ≤ s) (hs1 : s ≤ 1099511627776) (hk0 : 0 ≤ k) (hk1 : k < 512) (w : World) :
    Calls Tryz.prog 19 #[.int .i64 s, .int .i64 k] w fun e w' => e = .returned (.int .i64 ((512 * s + k).tdiv 512)) ∧ w = w' := by
  rw [eff_eq s k hk0 hk1]
  by_cases h : s < 0
  · by_cases h2 : 0 < k
    · rw [if_pos ⟨h, h2⟩]
      go_enter Tryz.func19, Tryz.ntmps19
      go_wp2
      go_ret
      exact ⟨rfl, rfl⟩
    · rw [if_neg (fun h' => h2 h'.2)]
      go_enter Tryz.func19, Tryz.ntmps19
      go_wp2
      go_ret
      exact ⟨rfl, rfl⟩
  · rw [if_neg (fun h' => h h'.1)]
    go_enter Tryz.func19, Tryz.ntmps19
    go_wp2
    go_ret
    exact ⟨rfl, rfl⟩

/-- The plain law: the fields read back to the instant, and are the civil reading of it. -/
theorem back (u : Int) (h0 : -4398046511104 ≤ u) (h1 : u ≤ 4398046511104) :
    unixOf (gY ((u + 9223372028741760000) / 86400)) (gM ((u + 9223372028741760000) / 86400) - 1) (gD ((u + 9223372028741760000) / 86400)) ((u + 9223372028741760000) % 86400 / 3600) ((u + 9223372028741760000) % 3600 / 60) ((u + 9223372028741760000) % 60) = u ∧
    fieldsV u = .tuple #[.int .i64 (gY ((u + 9223372028741760000) / 86400)), .int .i64 (gM ((u + 9223372028741760000) / 86400) - 1), .int .i64 (gD ((u + 9223372028741760000) / 86400)), .int .i64 ((u + 9223372028741760000) % 86400 / 3600), .int .i64 ((u + 9223372028741760000) % 3600 / 60), .int .i64 ((u + 9223372028741760000) % 60), .int .i64 (((u + 9223372028741760000) / 86400 + 3) % 7), .int .i64 (gYday ((u + 9223372028741760000) / 86400) - 1)] ∧
    1 ≤ gM ((u + 9223372028741760000) / 86400) ∧ gM ((u + 9223372028741760000) / 86400) ≤ 12 ∧ 0 ≤ gD ((u + 9223372028741760000) / 86400) ∧ gD ((u + 9223372028741760000) / 86400) ≤ 40 ∧ -1099511627776 ≤ gY ((u + 9223372028741760000) / 86400) ∧ gY ((u + 9223372028741760000) / 86400) ≤ 1073741824 ∧ -1073741824 ≤ gY ((u + 9223372028741760000) / 86400) := by
  obtain ⟨A, hA⟩ : ∃ A, (u + 9223372028741760000) / 86400 = A := ⟨_, rfl⟩
  obtain ⟨z, hz⟩ : ∃ z, u / 86400 = z := ⟨_, rfl⟩
  have hAz : A = z + 106751991073400 := by omega
  obtain ⟨c1, c2, c3, c4, c5, c6⟩ := calendar A z hAz
  obtain ⟨b1, b2, b3, b4⟩ := civ_bound z (by omega) (by omega)
  have hd : 0 ≤ gD A ∧ gD A ≤ 40 := by
    have hg := gbounds A (by omega)
    unfold gD
    omega
  have hy : -1073741824 ≤ gY A ∧ gY A ≤ 1073741824 := by
    obtain ⟨era, Y, hY0, hY1, hd0, hd1, hA2, hlt, hg1, hcen, hcy⟩ := parts A
    have hst : 0 ≤ startY Y ∧ startY Y ≤ 146097 := by unfold startY; omega
    have hj : gJf A = 0 ∨ gJf A = 1 := by unfold gJf; split <;> omega
    have : gY A = 400 * era + Y - 292277022400 + gJf A := by unfold gY; omega
    omega
  rw [hA]
  rw [c2] at b3 b4
  refine ⟨?_, ?_, b3, b4, hd.1, hd.2, by omega, hy.2, hy.1⟩
  · unfold unixOf
    rw [show (gM A - 1) / 12 = 0 by omega, show (gM A - 1) % 12 + 1 = gM A by omega, Int.add_zero]
    omega
  · unfold fieldsV
    rw [hz, c1, c2, c3, c6, show u % 86400 / 3600 = (u + 9223372028741760000) % 86400 / 3600 by omega, show u % 3600 / 60 = (u + 9223372028741760000) % 3600 / 60 by omega, show u % 60 = (u + 9223372028741760000) % 60 by omega, c5]

set_option maxRecDepth 100000 in
set_option maxHeartbeats 3200000 in
theorem walk_FnLocaltimeIsCalendarShiftOfTheInstant (s k : Int) (W : World) (ws : (Lit.int .i64 s).wf = true) (wk : (Lit.int .i64 k).wf = true) (hD : Tabs W) :
    Calls Tryz.prog 6 #[.int .i64 s, .int .i64 k] W fun e w' => e = .returned (.bool true) ∧ Below W.heap.size W w' := by
  clear hD
  have bs := bounds_int ws
  have bk := bounds_int wk
  clear ws wk
  by_cases g1 : s < -1099511627776
  · go_enter Tryz.func6, Tryz.ntmps6
    go_wp2_with fail
    go_ret
    exact ⟨rfl, by go_grown⟩
  by_cases g2 : 1099511627776 < s
  · go_enter Tryz.func6, Tryz.ntmps6
    go_wp2_with fail
    go_ret
    exact ⟨rfl, by go_grown⟩
  have hs : -1099511627776 ≤ s ∧ s ≤ 1099511627776 := by omega
  clear g1 g2
  by_cases g3 : k < 0
  · go_enter Tryz.func6, Tryz.ntmps6
    go_wp2_with fail
    go_ret
    exact ⟨rfl, by go_grown⟩
  by_cases g4 : 512 ≤ k
  · go_enter Tryz.func6, Tryz.ntmps6
    go_wp2_with fail
    go_ret
    exact ⟨rfl, by go_grown⟩
  have hk : 0 ≤ k ∧ k < 512 := by omega
  clear g3 g4 bs bk
  obtain ⟨hs0, hs1⟩ := hs
  obtain ⟨hk0, hk1⟩ := hk
  -- the floats
  obtain ⟨rk, e1, f1⟩ := fl_div (c := k) (fl_ofInt k (by omega)) fl_512 (by omega) (by omega) (by omega) (by omega) (by omega)
  obtain ⟨rv, e2, f2⟩ := fl_add (fl_ofInt s (by omega)) f1 (by omega)
  have hzm : (512 * s + k) % 512 = k := by omega
  have HE := Lib.hid (fun w => effSec_any s k hs0 hs1 hk0 hk1 w)
  have HL := Lib.hid (fun w => zzlocal_any rv (512 * s + k) f2 (by omega) (by omega) w)
  rw [hzm] at HL
  have hub : -4398046511104 ≤ (512 * s + k).tdiv 512 ∧ (512 * s + k).tdiv 512 ≤ 4398046511104 := by
    rw [eff_eq s k hk0 hk1]
    split <;> omega
  generalize (512 * s + k).tdiv 512 = u at HE HL hub
  obtain ⟨p1, p2, m1, m2, d1, d2, y0, y1, y2⟩ := back u hub.1 hub.2
  have HF := Lib.hid (fun w => fields_any u (by omega) (by omega) w)
  rw [p2] at HF
  have HU := Lib.hid (fun w => unixOf_any (gY ((u + 9223372028741760000) / 86400)) (gM ((u + 9223372028741760000) / 86400) - 1) (gD ((u + 9223372028741760000) / 86400)) ((u + 9223372028741760000) % 86400 / 3600) ((u + 9223372028741760000) % 3600 / 60) ((u + 9223372028741760000) % 60)
    (by omega) (by omega) (by omega) (by omega) (by omega) (by omega) (by omega) (by omega) (by omega) (by omega) (by omega) (by omega) w)
  rw [p1] at HU
  unfold ZLocal at HL
  generalize gY ((u + 9223372028741760000) / 86400) = vY at HL HF HU
  generalize gM ((u + 9223372028741760000) / 86400) - 1 = vM at HL HF HU
  generalize gD ((u + 9223372028741760000) / 86400) = vD at HL HF HU
  generalize gYday ((u + 9223372028741760000) / 86400) - 1 = vYd at HL HF
  generalize (u + 9223372028741760000) % 86400 / 3600 = vH at HL HF HU
  generalize (u + 9223372028741760000) % 3600 / 60 = vI at HL HF HU
  generalize ((u + 9223372028741760000) / 86400 + 3) % 7 = vW at HL HF
  obtain ⟨S, hS⟩ : ∃ S, (u + 9223372028741760000) % 60 = S := ⟨_, rfl⟩
  have hSb : 0 ≤ S ∧ S ≤ 59 := by omega
  rw [hS] at HL HF HU
  have a1 : ∀ wx : World, (binOp .quo 33 (.float .f64 (floatOfInt .f64 k)) (.float .f64 4647714815446351872)).run Tryz.prog wx = .ok (.float .f64 rk) wx := fun wx => run_float_arith wx _ _ _ _ _ _ e1
  have a2 : ∀ wx : World, (binOp .add 33 (.float .f64 (floatOfInt .f64 s)) (.float .f64 rk)).run Tryz.prog wx = .ok (.float .f64 rv) wx := fun wx => run_float_arith wx _ _ _ _ _ _ e2
  have F1 := Lib.hid f1
  clear p1 p2 m1 m2 d1 d2 y0 y1 y2 f1 f2 e1 e2 hS hzm
  go_enter Tryz.func6, Tryz.ntmps6
  go_wp2_with fail
  refine (HE.out _).mono ?_
  rintro e w1 ⟨rfl, rfl⟩
  go_wp2_with fail
  refine (HL.out _).mono ?_
  rintro e w2 ⟨r, rfl, fr, hb2⟩
  obtain ⟨rw0, e3, f3⟩ := fl_sub fr F1.out (by omega)
  rw [show 512 * S + k - k = 512 * S by omega] at f3
  have a3 : ∀ wx : World, (binOp .sub 33 (.float .f64 r) (.float .f64 rk)).run Tryz.prog wx = .ok (.float .f64 rw0) wx := fun wx => run_float_arith wx _ _ _ _ _ _ e3
  have i1 : floatToIntVal .f64 rw0 .i64 = some S := by
    unfold floatToIntVal
    show (match (Ieee.double.read rw0).toInt .zero with | some n => _ | none => _) = _
    rw [fl_toInt f3, Int.tdiv_eq_ediv_of_nonneg (by omega), show 512 * S / 512 = S by omega]
    show (if -9223372036854775808 ≤ S ∧ S ≤ 9223372036854775807 then some S else none) = _
    rw [if_pos ⟨by omega, by omega⟩]
  have c1 : ∀ wx : World, (convert 33 2 (.float .f64 rw0)).run Tryz.prog wx = .ok (.int .i64 S) wx := fun wx => run_convert_float_int wx _ _ _ _ _ _ (by rw [Tryz.underlying33]; rfl) Tryz.underlying2 i1
  have o1 : FloatKind.f64.format.order (floatOfInt .f64 S) rw0 = some .eq := fl_eq (fl_ofInt S (by omega)) f3
  have HB2 := Lib.hid hb2
  clear hb2 fr f3 e3 i1
  go_wp2_with fail
  refine (HU.out _).mono ?_
  rintro e w3 ⟨rfl, rfl⟩
  go_wp2_with fail
  refine (HF.out _).mono ?_
  rintro e w4 ⟨rfl, rfl⟩
  go_wp2_with fail
  go_ret
  exact ⟨rfl, HB2.out⟩
end Go.Proofs.YtmbegjbhmeihiaaGreatDoor
