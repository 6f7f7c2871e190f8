/-
  arrayToTime over UTC, walked at eight fields.
-/
import Derived.Test.YtmbegjbhmeihiaaGreatDoorTmDb
import Derived.Test.YtmbegjbhmeihiaaGreatDoorToEpoch
import Derived.Test.YtmbegjbhmeihiaaGreatDoorLocal
namespace Go.Proofs.YtmbegjbhmeihiaaGreatDoor
set_option linter.unusedVariables false
set_option linter.unusedSimpArgs false
open Go.RowKit Go.Lib

theorem toInt_int (x : Int) (w : World) : Calls Tryz.prog 52 #[.iface 3 (.int .i64 x)] w fun e w' => e = .returned (.tuple #[.int .i64 x, .bool true]) ∧ w = w' := by
  have as1 := asIntInt
  go_enter Tryz.func52, Tryz.ntmps52
  go_wp2
  go_ret2
  exact ⟨rfl, rfl⟩
theorem toFloat_float (x : Nat) (w : World) : Calls Tryz.prog 44 #[.iface 33 (.float .f64 x)] w fun e w' => e = .returned (.tuple #[.float .f64 x, .bool true]) ∧ w = w' := by
  have as1 := asFloatInt
  have as2 := asFloatFloat
  go_enter Tryz.func44, Tryz.ntmps44
  go_wp2
  go_ret2
  exact ⟨rfl, rfl⟩
theorem fl_conv {r : Nat} {z n : Int} (h : Fl r z) (hn : z.tdiv 512 = n) (h0 : -9223372036854775808 ≤ n) (h1 : n ≤ 9223372036854775807) (wx : World) : (convert 33 3 (.float .f64 r)).run Tryz.prog wx = .ok (.int .i64 n) wx := by
  have i1 : floatToIntVal .f64 r .i64 = some n := by
    unfold floatToIntVal
    show (match (Ieee.double.read r).toInt .zero with | some n => _ | none => _) = _
    rw [fl_toInt h, hn]
    show (if -9223372036854775808 ≤ n ∧ n ≤ 9223372036854775807 then some n else none) = _
    rw [if_pos ⟨h0, h1⟩]
  exact run_convert_float_int wx _ _ _ _ _ _ (by rw [Tryz.underlying33]; rfl) Tryz.underlying3 i1
/-- The world at the head of the loop: the time, the eight numbers, the list of their addresses. -/
noncomputable def startW (w : World) : World :=
  ((((((((((w.alloc (.cells #[.int .u64 0, .int .i64 0, .pointer none] 74)).alloc (.cells #[.int .u64 0, .int .i64 0, .pointer none] 74)).alloc (.cells #[.int .i64 0] 3)).alloc (.cells #[.int .i64 0] 3)).alloc (.cells #[.int .i64 0] 3)).alloc (.cells #[.int .i64 0] 3)).alloc (.cells #[.int .i64 0] 3)).alloc (.cells #[.int .i64 0] 3)).alloc (.cells #[.int .i64 0] 3)).alloc (.cells #[.int .i64 0] 3)).alloc
    (.cells #[.pointer (some ⟨w.heap.size + 2, 0, none⟩), .pointer (some ⟨w.heap.size + 3, 0, none⟩), .pointer (some ⟨w.heap.size + 4, 0, none⟩), .pointer (some ⟨w.heap.size + 5, 0, none⟩), .pointer (some ⟨w.heap.size + 6, 0, none⟩), .pointer (some ⟨w.heap.size + 7, 0, none⟩), .pointer (some ⟨w.heap.size + 8, 0, none⟩), .pointer (some ⟨w.heap.size + 9, 0, none⟩)] 97)
structure Started (w w1 : World) : Prop where
  below : Below w.heap.size w w1
  size : w.heap.size + 10 < w1.heap.size
  t0 : w1.cell? ⟨w.heap.size, 0, none⟩ = some (.int .u64 0)
  t1 : w1.cell? ⟨w.heap.size, 1, none⟩ = some (.int .i64 0)
  t2 : w1.cell? ⟨w.heap.size, 2, none⟩ = some (.pointer none)
  g0 : w1.frozen? ⟨w.heap.size, 0, none⟩ = false
  g1 : w1.frozen? ⟨w.heap.size, 1, none⟩ = false
  g2 : w1.frozen? ⟨w.heap.size, 2, none⟩ = false
  v2 : w1.cell? ⟨w.heap.size + 2, 0, none⟩ = some (.int .i64 0)
  f2 : w1.frozen? ⟨w.heap.size + 2, 0, none⟩ = false
  v3 : w1.cell? ⟨w.heap.size + 3, 0, none⟩ = some (.int .i64 0)
  f3 : w1.frozen? ⟨w.heap.size + 3, 0, none⟩ = false
  v4 : w1.cell? ⟨w.heap.size + 4, 0, none⟩ = some (.int .i64 0)
  f4 : w1.frozen? ⟨w.heap.size + 4, 0, none⟩ = false
  v5 : w1.cell? ⟨w.heap.size + 5, 0, none⟩ = some (.int .i64 0)
  f5 : w1.frozen? ⟨w.heap.size + 5, 0, none⟩ = false
  v6 : w1.cell? ⟨w.heap.size + 6, 0, none⟩ = some (.int .i64 0)
  f6 : w1.frozen? ⟨w.heap.size + 6, 0, none⟩ = false
  v7 : w1.cell? ⟨w.heap.size + 7, 0, none⟩ = some (.int .i64 0)
  f7 : w1.frozen? ⟨w.heap.size + 7, 0, none⟩ = false
  v8 : w1.cell? ⟨w.heap.size + 8, 0, none⟩ = some (.int .i64 0)
  f8 : w1.frozen? ⟨w.heap.size + 8, 0, none⟩ = false
  v9 : w1.cell? ⟨w.heap.size + 9, 0, none⟩ = some (.int .i64 0)
  f9 : w1.frozen? ⟨w.heap.size + 9, 0, none⟩ = false
  p0 : w1.cell? ⟨w.heap.size + 10, 0, none⟩ = some (.pointer (some ⟨w.heap.size + 2, 0, none⟩))
  p1 : w1.cell? ⟨w.heap.size + 10, 1, none⟩ = some (.pointer (some ⟨w.heap.size + 3, 0, none⟩))
  p2 : w1.cell? ⟨w.heap.size + 10, 2, none⟩ = some (.pointer (some ⟨w.heap.size + 4, 0, none⟩))
  p3 : w1.cell? ⟨w.heap.size + 10, 3, none⟩ = some (.pointer (some ⟨w.heap.size + 5, 0, none⟩))
  p4 : w1.cell? ⟨w.heap.size + 10, 4, none⟩ = some (.pointer (some ⟨w.heap.size + 6, 0, none⟩))
  p5 : w1.cell? ⟨w.heap.size + 10, 5, none⟩ = some (.pointer (some ⟨w.heap.size + 7, 0, none⟩))
  p6 : w1.cell? ⟨w.heap.size + 10, 6, none⟩ = some (.pointer (some ⟨w.heap.size + 8, 0, none⟩))
  p7 : w1.cell? ⟨w.heap.size + 10, 7, none⟩ = some (.pointer (some ⟨w.heap.size + 9, 0, none⟩))
theorem started (w : World) : Started w (startW w) := by
  unfold startW
  exact ⟨by go_grown, by simp, by go_simp, by go_simp, by go_simp, by go_simp, by go_simp, by go_simp, by go_simp, by go_simp, by go_simp, by go_simp, by go_simp, by go_simp, by go_simp, by go_simp, by go_simp, by go_simp, by go_simp, by go_simp, by go_simp, by go_simp, by go_simp, by go_simp, by go_simp, by go_simp, by go_simp, by go_simp, by go_simp, by go_simp, by go_simp, by go_simp⟩
theorem utc_on {B : Nat} {w w' : World} {b : Nat} (h : Utc2 w b) (hb : b < B) (hB : Below B w w') : Utc2 w' b :=
  ⟨(hB.cell (p := ⟨b, 0, none⟩) hb).trans h.1, (hB.cell (p := ⟨b, 2, none⟩) hb).trans h.2⟩
theorem below_up {B : Nat} {w w' : World} (h : Below w.heap.size w w') (hB : B ≤ w.heap.size) : Below B w w' := below_of h hB
set_option maxRecDepth 100000 in
set_option maxHeartbeats 6400000 in
theorem arr_any (A b : Nat) (y mo d h mi s k wd yd : Int) (rs : Nat) (w : World) (hA : A < w.heap.size) (hb : b < w.heap.size) (hU : Utc2 w b) (hz : Fl rs (512 * s + k)) (hk0 : 0 ≤ k) (hk1 : k < 512)
    (y0 : -1048576 ≤ y) (y1 : y ≤ 1048576) (mo0 : -1048576 ≤ mo) (mo1 : mo ≤ 1048576) (d0 : -1048576 ≤ d) (d1 : d ≤ 1048576) (h0 : -1048576 ≤ h) (h1 : h ≤ 1048576) (mi0 : -1048576 ≤ mi) (mi1 : mi ≤ 1048576) (s0 : -1048576 ≤ s) (s1 : s ≤ 1048576)
    (c0 : w.cell? ⟨A, 0, none⟩ = some (.iface 3 (.int .i64 y))) (c1 : w.cell? ⟨A, 1, none⟩ = some (.iface 3 (.int .i64 mo))) (c2 : w.cell? ⟨A, 2, none⟩ = some (.iface 3 (.int .i64 d))) (c3 : w.cell? ⟨A, 3, none⟩ = some (.iface 3 (.int .i64 h))) (c4 : w.cell? ⟨A, 4, none⟩ = some (.iface 3 (.int .i64 mi)))
    (c5 : w.cell? ⟨A, 5, none⟩ = some (.iface 33 (.float .f64 rs))) (c6 : w.cell? ⟨A, 6, none⟩ = some (.iface 3 (.int .i64 wd))) (c7 : w.cell? ⟨A, 7, none⟩ = some (.iface 3 (.int .i64 yd)))
    (hdf : -1000000000000 ≤ dfc (y + mo / 12) (mo % 12 + 1) 1 ∧ dfc (y + mo / 12) (mo % 12 + 1) 1 ≤ 1000000000000) :
    Calls Tryz.prog 41 #[.slice (some ⟨A, 0, none⟩) 8 8, .pointer (some ⟨b, 0, none⟩)] w fun e w' => e = .returned (.tuple #[tmV (86400 * dayOf y (mo + 1) d h mi ((512 * s + k).tdiv 512) + secOf h mi ((512 * s + k).tdiv 512)) (k * 1953125), .nilIface]) ∧ Below w.heap.size w w' := by
  have F0 := fl_floor hz (by omega)
  have HFl := Lib.hid (fun w => floor_any rs (512 * s + k) hz w)
  generalize Ieee.double.write ((Ieee.double.read rs).integral .down) = rf at F0 HFl
  obtain ⟨r1, e1, f1⟩ := fl_sub hz F0 (by omega)
  rw [show 512 * s + k - 512 * ((512 * s + k) / 512) = k by omega] at f1
  obtain ⟨r2, e2, f2⟩ := fl_mul (c := k * 1000000000) f1 fl_billion (by omega) (by omega)
  have hT : -1048576 ≤ (512 * s + k).tdiv 512 ∧ (512 * s + k).tdiv 512 ≤ 1048577 := by
    rcases Int.lt_or_le (512 * s + k) 0 with hn | hn
    · obtain ⟨m, hm⟩ : ∃ m : Nat, 512 * s + k = -(m : Int) := ⟨(512 * s + k).natAbs, by omega⟩
      rw [hm, Int.neg_tdiv, Int.tdiv_eq_ediv_of_nonneg (by omega)]
      omega
    · rw [Int.tdiv_eq_ediv_of_nonneg hn]
      omega
  obtain ⟨T, hTe⟩ : ∃ T, (512 * s + k).tdiv 512 = T := ⟨_, rfl⟩
  rw [hTe] at hT ⊢
  have cv1 := fl_conv hz hTe (by omega) (by omega)
  have cv2 := fl_conv f2 (show (k * 1000000000).tdiv 512 = k * 1953125 by rw [Int.tdiv_eq_ediv_of_nonneg (by omega)]; omega) (by omega) (by omega)
  have a1 : ∀ wx : World, (binOp .sub 33 (.float .f64 rs) (.float .f64 rf)).run Tryz.prog wx = .ok (.float .f64 r1) wx := fun wx => run_float_arith wx _ _ _ _ _ _ e1
  have a2 : ∀ wx : World, (binOp .mul 33 (.float .f64 r1) (.float .f64 4741671816366391296)).run Tryz.prog wx = .ok (.float .f64 r2) wx := fun wx => run_float_arith wx _ _ _ _ _ _ e2
  have HD := Lib.hid (fun w (hb : b < w.heap.size) (hU : Utc2 w b) => date_any y (mo + 1) d h mi T (k * 1953125) (by omega) (by omega) (by omega) (by omega) (by omega) (by omega) (by omega) (by omega) (by omega) (by omega) (by omega) (by omega) (by omega) (by omega) (by rw [show mo + 1 - 1 = mo by omega]; exact hdf) b w hb hU)
  obtain ⟨N, hN⟩ : ∃ N, k * 1953125 = N := ⟨_, rfl⟩
  rw [hN] at cv2 HD ⊢
  generalize 86400 * dayOf y (mo + 1) d h mi T + secOf h mi T = U at HD ⊢
  have HU := Lib.hid hU
  clear hU F0 f1 f2 e1 e2 hTe hdf hz hN
  go_enter Tryz.func41, Tryz.ntmps41
  go_wp2_with fail
  simp only [Nat.add_assoc, Nat.reduceAdd]
  refine (?_ : _)
  have hS : Started w (startW w) := started w
  have q0 : ∀ o, (startW w).cell? ⟨A, o, none⟩ = w.cell? ⟨A, o, none⟩ := fun o => hS.below.cell (p := ⟨A, o, none⟩) hA
  have a0 := (q0 0).trans c0
  have a1' := (q0 1).trans c1
  have a2' := (q0 2).trans c2
  have a3 := (q0 3).trans c3
  have a4 := (q0 4).trans c4
  have a5 := (q0 5).trans c5
  have a6 := (q0 6).trans c6
  have a7 := (q0 7).trans c7
  have HB := Lib.hid hS.below
  have HU1 := Lib.hid (Utc2.on HU.out hb hS.below)
  have p0 := hS.p0
  have p1 := hS.p1
  have p2 := hS.p2
  have p3 := hS.p3
  have p4 := hS.p4
  have p5 := hS.p5
  have p6 := hS.p6
  have p7 := hS.p7
  have t0 := hS.t0
  have t1 := hS.t1
  have t2 := hS.t2
  have g0 := hS.g0
  have g1 := hS.g1
  have g2 := hS.g2
  have v2 := hS.v2
  have v3 := hS.v3
  have v4 := hS.v4
  have v5 := hS.v5
  have v6 := hS.v6
  have v7 := hS.v7
  have v8 := hS.v8
  have v9 := hS.v9
  have f2 := hS.f2
  have f3 := hS.f3
  have f4 := hS.f4
  have f5 := hS.f5
  have f6 := hS.f6
  have f7 := hS.f7
  have f8 := hS.f8
  have f9 := hS.f9
  have hsz := hS.size
  clear c0 c1 c2 c3 c4 c5 c6 c7 q0 hS HU
  change Code.wp _ _ _ _ (startW w)
  generalize startW w = W1 at *
  have hbB : b < w.heap.size := hb
  generalize hBe : w.heap.size = B at *
  have HBE := Lib.hid hBe
  clear hBe
  refine wp_loop_rounds 9 ?_
  rw [rounds_succ]
  go_wp2_with (first | (go_at_call 52; refine (toInt_int _ _).mono ?_; rintro e w9 ⟨rfl, rfl⟩))
  rw [rounds_succ]
  go_wp2_with (first | (go_at_call 52; refine (toInt_int _ _).mono ?_; rintro e w9 ⟨rfl, rfl⟩))
  rw [rounds_succ]
  go_wp2_with (first | (go_at_call 52; refine (toInt_int _ _).mono ?_; rintro e w9 ⟨rfl, rfl⟩))
  rw [rounds_succ]
  go_wp2_with (first | (go_at_call 52; refine (toInt_int _ _).mono ?_; rintro e w9 ⟨rfl, rfl⟩))
  rw [rounds_succ]
  go_wp2_with (first | (go_at_call 52; refine (toInt_int _ _).mono ?_; rintro e w9 ⟨rfl, rfl⟩))
  rw [rounds_succ]
  go_wp2_with (first | (go_at_call 44; refine (toFloat_float _ _).mono ?_; rintro e w9 ⟨rfl, rfl⟩) | (go_at_call 51; refine (HFl.out _).mono ?_; rintro e w9 ⟨rfl, rfl⟩))
  rw [rounds_succ]
  go_wp2_with (first | (go_at_call 52; refine (toInt_int _ _).mono ?_; rintro e w9 ⟨rfl, rfl⟩))
  rw [rounds_succ]
  go_wp2_with (first | (go_at_call 52; refine (toInt_int _ _).mono ?_; rintro e w9 ⟨rfl, rfl⟩))
  rw [rounds_succ]
  go_wp2_with (first | (go_at_call 52; refine (toInt_int _ _).mono ?_; rintro e w9 ⟨rfl, rfl⟩))
  have keep : ∀ w9, Below B W1 w9 → b < w9.heap.size ∧ Utc2 w9 b := fun w9 h9 => ⟨by have := h9.size; omega, utc_on HU1.out hbB h9⟩
  have HK := Lib.hid keep
  clear keep
  refine (HD.out _ (HK.out _ ?_).1 (HK.out _ ?_).2).mono ?_
  · go_grown
  · go_grown
  rintro e w9 ⟨rfl, hb9⟩
  have HB9 := Lib.hid (below_up (B := B) hb9 (by simp [World.setCell]; omega))
  have d0 : w9.cell? ⟨B, 0, none⟩ = some (.int .u64 0) := (hb9.cell (p := ⟨B, 0, none⟩) (by simp [World.setCell]; omega)).trans (by go_simp)
  have d1 : w9.cell? ⟨B, 1, none⟩ = some (.int .i64 0) := (hb9.cell (p := ⟨B, 1, none⟩) (by simp [World.setCell]; omega)).trans (by go_simp)
  have d2 : w9.cell? ⟨B, 2, none⟩ = some (.pointer none) := (hb9.cell (p := ⟨B, 2, none⟩) (by simp [World.setCell]; omega)).trans (by go_simp)
  have e0 : w9.frozen? ⟨B, 0, none⟩ = false := (hb9.frozen (p := ⟨B, 0, none⟩) (by simp [World.setCell]; omega)).trans (by go_simp)
  have e1 : w9.frozen? ⟨B, 1, none⟩ = false := (hb9.frozen (p := ⟨B, 1, none⟩) (by simp [World.setCell]; omega)).trans (by go_simp)
  have e2 : w9.frozen? ⟨B, 2, none⟩ = false := (hb9.frozen (p := ⟨B, 2, none⟩) (by simp [World.setCell]; omega)).trans (by go_simp)
  clear hb9 p0 p1 p2 p3 p4 p5 p6 p7 v2 v3 v4 v5 v6 v7 v8 v9 f2 f3 f4 f5 f6 f7 f8 f9 a0 a1' a2' a3 a4 a5 a6 a7 t0 t1 t2 g0 g1 g2
  unfold tmV
  go_wp2_with fail
  exact bodyPost_ret (v := .tuple #[.agg #[.int .u64 N, .int .i64 (U + 62135596800), .pointer none], .nilIface]) (by simp [results, Tryz.results41, go_sem]; go_simp) rfl ⟨rfl, by rw [HBE.out]; exact HB.out.trans (Below.trans (by go_grown) (Below.trans HB9.out (by go_grown)))⟩
end Go.Proofs.YtmbegjbhmeihiaaGreatDoor
