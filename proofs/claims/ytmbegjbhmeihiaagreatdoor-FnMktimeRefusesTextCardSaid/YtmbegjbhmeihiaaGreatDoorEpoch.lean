/-
  epochToArray over UTC, walked, at every multiple of 1/512.
-/
import Derived.Test.YtmbegjbhmeihiaaGreatDoorTm
import Derived.Test.YtmbegjbhmeihiaaGreatDoorFlo
import Derived.Laws.Externs
import Derived.Deep.RegionHeld3
namespace Go.Proofs.YtmbegjbhmeihiaaGreatDoor
set_option linter.unusedVariables false
set_option linter.unusedSimpArgs false
open Go.RowKit Go.Lib

theorem floor_run (x : Nat) (z : Int) (h : Fl x z) (w : World) : (Extern.MathFloor.toIntegral "math.archFloor" .down #[.float .f64 x]).run Tryz.prog w = .ok (.float .f64 (Ieee.double.write ((Ieee.double.read x).integral .down))) w := by
  obtain ⟨s, h1, _⟩ := h
  rw [h1]
  have h2 : FloatKind.f64.decode x = _ := h1
  have key : Extern.MathFloor.toIntegral "math.archFloor" .down #[.float .f64 x] = pure (.float .f64 (FloatKind.f64.encode ((FloatKind.f64.decode x).integral .down))) := by
    show (match FloatKind.f64.decode x with | .nan _ _ => _ | _ => _) = _
    rw [h2]
  rw [key, h2]
  rfl
set_option maxRecDepth 100000 in
theorem floor_any (x : Nat) (z : Int) (h : Fl x z) (w : World) :
    Calls Tryz.prog 51 #[.float .f64 x] w fun e w' => e = .returned (.float .f64 (Ieee.double.write ((Ieee.double.read x).integral .down))) ∧ w = w' := by
  have hr := floor_run x z h w
  generalize Ieee.double.write ((Ieee.double.read x).integral .down) = F at hr ⊢
  have HR := Lib.hid hr
  clear hr
  go_enter Tryz.func51, Tryz.ntmps51
  go_wp2
  rw [run_callFunc_extern Tryz.func78 (by kernel_rfl) (by kernel_rfl) (by kernel_rfl) (e := Extern.MathFloor.toIntegral "math.archFloor" .down) (by kernel_rfl), HR.out]
  simp only [Result.andThen]
  rw [Oper.upon_value]
  go_wp2
  go_ret
  exact ⟨rfl, rfl⟩

set_option maxHeartbeats 800000 in
theorem unix_any (s n : Int) (hn0 : 0 ≤ n) (hn1 : n < 1000000000) (hs0 : -4398046511104 ≤ s) (hs1 : s ≤ 4398046511104) (w : World) :
    Calls Tryz.prog 57 #[.int .i64 s, .int .i64 n] w fun e w' => e = .returned (tmV s n) ∧ Below w.heap.size w w' := by
  unfold tmV
  go_enter Tryz.func57, Tryz.ntmps57
  go_wp2
  exact bodyPost_ret (v := .agg #[.int .u64 n, .int .i64 (s + 62135596800), .pointer none]) (by simp [results, Tryz.results57, go_sem]) rfl ⟨rfl, by go_grown⟩

/-- UTC's location at block b. -/
def Utc (w : World) (b : Nat) : Prop := w.cell? ⟨b, 0, none⟩ = some (.bool true)
set_option maxHeartbeats 800000 in
theorem in_any (u n : Int) (hn0 : 0 ≤ n) (hn1 : n < 1073741824) (b : Nat) (w : World) (hb : b < w.heap.size) (hU : Utc w b) :
    Calls Tryz.prog 58 #[tmV u n, .pointer (some ⟨b, 0, none⟩)] w fun e w' => e = .returned (tmV u n) ∧ Below w.heap.size w w' := by
  have ha := and_high n hn0 (by omega)
  unfold Utc at hU
  unfold tmV
  go_enter Tryz.func58, Tryz.ntmps58
  go_wp2
  exact bodyPost_ret (v := .agg #[.int .u64 n, .int .i64 (u + 62135596800), .pointer none]) (by simp [results, Tryz.results58, go_sem]) rfl ⟨rfl, by go_grown⟩

/-- The list that epochToArray hands back. -/
def Epoch (w : World) (u k : Int) (e : Ending) (w' : World) : Prop := ∃ (b r : Nat), e = .returned (.slice (some ⟨b, 0, none⟩) 8 8) ∧ w.heap.size ≤ b ∧ Fl r (512 * ((u + 9223372028741760000) % 60) + k) ∧
  w'.heap[b]? = some (.cells #[.iface 3 (.int .i64 (gY ((u + 9223372028741760000) / 86400))), .iface 3 (.int .i64 (gM ((u + 9223372028741760000) / 86400) - 1)), .iface 3 (.int .i64 (gD ((u + 9223372028741760000) / 86400))),
    .iface 3 (.int .i64 ((u + 9223372028741760000) % 86400 / 3600)), .iface 3 (.int .i64 ((u + 9223372028741760000) % 3600 / 60)), .iface 33 (.float .f64 r), .iface 3 (.int .i64 (((u + 9223372028741760000) / 86400 + 3) % 7)),
    .iface 3 (.int .i64 (gYday ((u + 9223372028741760000) / 86400) - 1))] 20 (0, 0)) ∧ Below w.heap.size w w'
theorem keepTm {w w' : World} {b : Nat} {n x : Int} (hb : b < w.heap.size) (c0 : w.cell? ⟨b, 0, none⟩ = some (.int .u64 n)) (c1 : w.cell? ⟨b, 1, none⟩ = some (.int .i64 x)) (c2 : w.cell? ⟨b, 2, none⟩ = some (.pointer none)) (h : Below w.heap.size w w') :
    w'.cell? ⟨b, 0, none⟩ = some (.int .u64 n) ∧ w'.cell? ⟨b, 1, none⟩ = some (.int .i64 x) ∧ w'.cell? ⟨b, 2, none⟩ = some (.pointer none) ∧ Below w.heap.size w w' :=
  ⟨(h.cell (p := ⟨b, 0, none⟩) hb).trans c0, (h.cell (p := ⟨b, 1, none⟩) hb).trans c1, (h.cell (p := ⟨b, 2, none⟩) hb).trans c2, h⟩

theorem from_base {f : FuncId} {args : Array Value} {v : Ending} {W : World} (H : ∀ w, Calls Tryz.prog f args w fun e w' => e = v ∧ Below w.heap.size w w') : ∀ w, Below W.heap.size W w → Calls Tryz.prog f args w fun e w' => e = v ∧ Below W.heap.size W w' := fun w hb =>
  (H w).mono fun e w' ⟨he, hb'⟩ => ⟨he, hb.trans (below_of hb' hb.size)⟩
theorem below_more {w w' : World} {o : Obj} (h : Below w.heap.size w w') : Below w.heap.size w (w'.alloc o) := h.alloc h.size _
theorem dbl_k (z : Int) : z - 512 * (z / 512) = z % 512 := by omega
set_option maxRecDepth 100000 in
set_option maxHeartbeats 6400000 in
theorem epoch_any (x : Nat) (z : Int) (h : Fl x z) (hz0 : -562949953421312 ≤ z) (hz1 : z ≤ 562949953421823) (b : Nat) (w : World) (hb : b < w.heap.size) (hU : Utc w b) :
    Calls Tryz.prog 45 #[.float .f64 x, .pointer (some ⟨b, 0, none⟩)] w (Epoch w (z.tdiv 512) (z % 512)) := by
  obtain ⟨u, hu⟩ : ∃ u, z.tdiv 512 = u := ⟨_, rfl⟩
  obtain ⟨k, hk⟩ : ∃ k, z % 512 = k := ⟨_, rfl⟩
  have hkb : 0 ≤ k ∧ k < 512 := by omega
  rw [hu, hk]
  have hub : -1099511627776 ≤ u ∧ u ≤ 1099511627776 := by
    rw [← hu]
    rcases Int.lt_or_le z 0 with hn | hn
    · obtain ⟨m, rfl⟩ : ∃ m : Nat, z = -(m : Int) := ⟨z.natAbs, by omega⟩
      rw [Int.neg_tdiv, Int.tdiv_eq_ediv_of_nonneg (by omega)]
      omega
    · rw [Int.tdiv_eq_ediv_of_nonneg hn]
      omega
  -- the floats
  have i1 : floatToIntVal .f64 x .i64 = some u := by
    unfold floatToIntVal
    show (match (Ieee.double.read x).toInt .zero with | some n => _ | none => _) = _
    rw [fl_toInt h, hu]
    show (if -9223372036854775808 ≤ u ∧ u ≤ 9223372036854775807 then some u else none) = _
    rw [if_pos ⟨by omega, by omega⟩]
  have hF := fl_floor h (by omega)
  have HFl := Lib.hid (fun w => floor_any x z h w)
  generalize Ieee.double.write ((Ieee.double.read x).integral .down) = F at hF HFl
  obtain ⟨r1, e1, f1⟩ := fl_sub h hF (by omega)
  rw [dbl_k, hk] at f1
  obtain ⟨r2, e2, f2⟩ := fl_mul (c := k * 1000000000) f1 fl_billion (by omega) (by omega)
  have i2 : floatToIntVal .f64 r2 .i64 = some (k * 1953125) := by
    unfold floatToIntVal
    show (match (Ieee.double.read r2).toInt .zero with | some n => _ | none => _) = _
    rw [fl_toInt f2, Int.tdiv_eq_ediv_of_nonneg (by omega), show k * 1000000000 / 512 = k * 1953125 by omega]
    show (if -9223372036854775808 ≤ k * 1953125 ∧ k * 1953125 ≤ 9223372036854775807 then some (k * 1953125) else none) = _
    rw [if_pos ⟨by omega, by omega⟩]
  obtain ⟨n, hn⟩ : ∃ n, k * 1953125 = n := ⟨_, rfl⟩
  have hnb : 0 ≤ n ∧ n < 1000000000 := by omega
  obtain ⟨r3, e3, f3⟩ := fl_div (c := k) (fl_ofInt n (by omega)) fl_billion (by omega) (by omega) (by omega) (by omega) (by omega)
  obtain ⟨S, hS⟩ : ∃ S, (u + 9223372028741760000) % 60 = S := ⟨_, rfl⟩
  have hSb : 0 ≤ S ∧ S < 60 := by omega
  obtain ⟨r4, e4, f4⟩ := fl_add (fl_ofInt S (by omega)) f3 (by omega)
  rw [hn] at i2
  have c1 : ∀ wx : World, (convert 33 2 (.float .f64 x)).run Tryz.prog wx = .ok (.int .i64 u) wx := fun wx => run_convert_float_int wx _ _ _ _ _ _ (by rw [Tryz.underlying33]; rfl) Tryz.underlying2 i1
  have c2 : ∀ wx : World, (convert 33 2 (.float .f64 r2)).run Tryz.prog wx = .ok (.int .i64 n) wx := fun wx => run_convert_float_int wx _ _ _ _ _ _ (by rw [Tryz.underlying33]; rfl) Tryz.underlying2 i2
  have a1 : ∀ wx : World, (binOp .sub 33 (.float .f64 x) (.float .f64 F)).run Tryz.prog wx = .ok (.float .f64 r1) wx := fun wx => run_float_arith wx _ _ _ _ _ _ e1
  have a2 : ∀ wx : World, (binOp .mul 33 (.float .f64 r1) (.float .f64 4741671816366391296)).run Tryz.prog wx = .ok (.float .f64 r2) wx := fun wx => run_float_arith wx _ _ _ _ _ _ e2
  have a3 : ∀ wx : World, (binOp .quo 33 (.float .f64 (floatOfInt .f64 n)) (.float .f64 4741671816366391296)).run Tryz.prog wx = .ok (.float .f64 r3) wx := fun wx => run_float_arith wx _ _ _ _ _ _ e3
  have a4 : ∀ wx : World, (binOp .add 33 (.float .f64 (floatOfInt .f64 S)) (.float .f64 r3)).run Tryz.prog wx = .ok (.float .f64 r4) wx := fun wx => run_float_arith wx _ _ _ _ _ _ e4
  have HF4 := Lib.hid f4
  have HUx := Lib.hid (fun w => unix_any u n hnb.1 hnb.2 (by omega) (by omega) w)
  have HIn := Lib.hid (fun w hb hU => in_any u n hnb.1 (by omega) b w hb hU)
  have Hy := Lib.hid (fun w => year_any u n hnb.1 (by omega) (by omega) (by omega) w)
  have Hm := Lib.hid (fun w => tmonth_any u n hnb.1 (by omega) (by omega) (by omega) w)
  have Hd := Lib.hid (fun w => day_any u n hnb.1 (by omega) (by omega) (by omega) w)
  have Hh := Lib.hid (fun w => hour_any u n hnb.1 (by omega) (by omega) (by omega) w)
  have Hi := Lib.hid (fun w => minute_any u n hnb.1 (by omega) (by omega) (by omega) w)
  have Hs := Lib.hid (fun w => second_any u n hnb.1 (by omega) (by omega) (by omega) w)
  have Hn := Lib.hid (fun w => nano_any u n hnb.1 (by omega) w)
  have Hw := Lib.hid (fun w => tweekday_any u n hnb.1 (by omega) (by omega) (by omega) w)
  have Hyd := Lib.hid (fun w => yearDay_any u n hnb.1 (by omega) (by omega) (by omega) w)
  have gmb : 0 ≤ gM ((u + 9223372028741760000) / 86400) ∧ gM ((u + 9223372028741760000) / 86400) ≤ 1000 := by
    have hg := gbounds ((u + 9223372028741760000) / 86400) (by omega)
    have hj : gJf ((u + 9223372028741760000) / 86400) = if 306 ≤ gYd ((u + 9223372028741760000) / 86400) then 1 else 0 := rfl
    unfold gM
    split at hj <;> omega
  have gyb : -1000 ≤ gYday ((u + 9223372028741760000) / 86400) ∧ gYday ((u + 9223372028741760000) / 86400) ≤ 1000 := by
    have hg := gbounds ((u + 9223372028741760000) / 86400) (by omega)
    have hl : gLeap ((u + 9223372028741760000) / 86400) = 0 ∨ gLeap ((u + 9223372028741760000) / 86400) = 1 := by unfold gLeap; split <;> omega
    have hj : gJf ((u + 9223372028741760000) / 86400) = 0 ∨ gJf ((u + 9223372028741760000) / 86400) = 1 := by unfold gJf; split <;> omega
    unfold gYday
    split <;> omega
  unfold Epoch
  rw [hS] at Hs ⊢
  generalize gY ((u + 9223372028741760000) / 86400) = vY at Hy ⊢
  generalize gM ((u + 9223372028741760000) / 86400) = vM at Hm gmb ⊢
  generalize gD ((u + 9223372028741760000) / 86400) = vD at Hd ⊢
  generalize gYday ((u + 9223372028741760000) / 86400) = vYd at Hyd gyb ⊢
  generalize (u + 9223372028741760000) % 86400 / 3600 = vH at Hh ⊢
  generalize (u + 9223372028741760000) % 3600 / 60 = vI at Hi ⊢
  generalize ((u + 9223372028741760000) / 86400 + 3) % 7 = vW at Hw ⊢
  have HU := Lib.hid hU
  unfold tmV at HUx HIn Hy Hm Hd Hh Hi Hs Hn Hw Hyd
  clear hU h hF f1 f2 f3 f4 i1 i2 e1 e2 e3 e4 hu hk hn hS hz0 hz1
  go_enter Tryz.func45, Tryz.ntmps45
  go_wp2_with fail
  refine (HFl.out _).mono ?_
  rintro e w1 ⟨rfl, rfl⟩
  go_wp2_with fail
  refine (HUx.out _).mono ?_
  rintro e w1 ⟨rfl, hb1⟩
  go_wp2_with fail
  refine (HIn.out _ ?_ ?_).mono ?_
  · have := hb1.size; omega
  · exact (hb1.cell (p := ⟨b, 0, none⟩) hb).trans HU.out
  rintro e w2 ⟨rfl, hb2⟩
  go_wp2_with fail
  have hb3 : Below w.heap.size w (w2.alloc (.cells #[.int .u64 n, .int .i64 (u + 62135596800), .pointer none] 74)) := (hb1.trans (below_of hb2 hb1.size)).alloc (by have := hb1.size; have := hb2.size; omega) _
  have hs3 : (w2.alloc (.cells #[.int .u64 n, .int .i64 (u + 62135596800), .pointer none] 74)).heap.size = w2.heap.size + 1 := by show (w2.heap.push _).size = _; simp
  have d0 : (w2.alloc (.cells #[.int .u64 n, .int .i64 (u + 62135596800), .pointer none] 74)).cell? ⟨w2.heap.size, 0, none⟩ = some (.int .u64 n) := by go_simp
  have d1 : (w2.alloc (.cells #[.int .u64 n, .int .i64 (u + 62135596800), .pointer none] 74)).cell? ⟨w2.heap.size, 1, none⟩ = some (.int .i64 (u + 62135596800)) := by go_simp
  have d2 : (w2.alloc (.cells #[.int .u64 n, .int .i64 (u + 62135596800), .pointer none] 74)).cell? ⟨w2.heap.size, 2, none⟩ = some (.pointer none) := by go_simp
  have hwB : w.heap.size ≤ w2.heap.size := by have := hb1.size; have := hb2.size; omega
  generalize w2.alloc (.cells #[.int .u64 n, .int .i64 (u + 62135596800), .pointer none] 74) = w3 at hb3 hs3 d0 d1 d2 ⊢
  generalize w2.heap.size = tb at hs3 d0 d1 d2 hwB ⊢
  clear hb1 hb2 hb
  have By := Lib.hid (from_base (W := w3) Hy.out)
  have Bm := Lib.hid (from_base (W := w3) Hm.out)
  have Bd := Lib.hid (from_base (W := w3) Hd.out)
  have Bh := Lib.hid (from_base (W := w3) Hh.out)
  have Bi := Lib.hid (from_base (W := w3) Hi.out)
  have Bs := Lib.hid (from_base (W := w3) Hs.out)
  have Bn := Lib.hid (from_base (W := w3) Hn.out)
  have Bw := Lib.hid (from_base (W := w3) Hw.out)
  have Bj := Lib.hid (from_base (W := w3) Hyd.out)
  have HB3 := Lib.hid hb3
  have wM : IntKind.i64.wrap (vM - 1) = vM - 1 := by rw [IntKind.wrap_i64]; omega
  have wD : IntKind.i64.wrap (vYd - 1) = vYd - 1 := by rw [IntKind.wrap_i64]; omega
  have hlt : tb < w3.heap.size := by omega
  clear Hy Hm Hd Hh Hi Hs Hn Hw Hyd HUx HIn HFl HU hb3
  go_region_held3 (fun w' => w'.cell? ⟨tb, 0, none⟩ = some (.int .u64 n) ∧ w'.cell? ⟨tb, 1, none⟩ = some (.int .i64 (u + 62135596800)) ∧ w'.cell? ⟨tb, 2, none⟩ = some (.pointer none) ∧ Below w3.heap.size w3 w') (first | exact keepTm hlt d0 d1 d2 (Below.refl _ _).drew | exact keepTm hlt d0 d1 d2 (by assumption) | exact keepTm hlt d0 d1 d2 (below_more (by assumption))) (first
    | (go_at_call 59; refine (By.out _ ?_).mono ?_; go_grown; rintro e w4 ⟨rfl, hb4⟩)
    | (go_at_call 60; refine (Bm.out _ ?_).mono ?_; go_grown; rintro e w4 ⟨rfl, hb4⟩)
    | (go_at_call 61; refine (Bd.out _ ?_).mono ?_; go_grown; rintro e w4 ⟨rfl, hb4⟩)
    | (go_at_call 62; refine (Bh.out _ ?_).mono ?_; go_grown; rintro e w4 ⟨rfl, hb4⟩)
    | (go_at_call 63; refine (Bi.out _ ?_).mono ?_; go_grown; rintro e w4 ⟨rfl, hb4⟩)
    | (go_at_call 64; refine (Bs.out _ ?_).mono ?_; go_grown; rintro e w4 ⟨rfl, hb4⟩)
    | (go_at_call 55; refine (Bn.out _ ?_).mono ?_; go_grown; rintro e w4 ⟨rfl, hb4⟩)
    | (go_at_call 65; refine (Bw.out _ ?_).mono ?_; go_grown; rintro e w4 ⟨rfl, hb4⟩)
    | (go_at_call 66; refine (Bj.out _ ?_).mono ?_; go_grown; rintro e w4 ⟨rfl, hb4⟩))
  all_goals (go_wp2_with fail)
  go_ret
  have q : Below w3.heap.size w3 w4 := by assumption
  have q1 := HB3.out.size
  have q2 := q.size
  refine ⟨w4.heap.size, r4, rfl, by omega, HF4.out, ?_, (HB3.out.trans (below_of q q1)).alloc (by omega) _⟩
  show (w4.heap.push _)[w4.heap.size]? = _
  simp
end Go.Proofs.YtmbegjbhmeihiaaGreatDoor
