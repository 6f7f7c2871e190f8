/-
  timeToEpoch over UTC, walked.
-/
import Derived.Test.YtmbegjbhmeihiaaGreatDoorEpoch
namespace Go.Proofs.YtmbegjbhmeihiaaGreatDoor
set_option linter.unusedVariables false
set_option linter.unusedSimpArgs false
open Go.RowKit Go.Lib

set_option maxHeartbeats 800000 in
theorem tunix_any (u n : Int) (hn0 : 0 ≤ n) (hn1 : n < 1073741824) (hu0 : -4398046511104 ≤ u) (hu1 : u ≤ 4398046511104) (w : World) :
    Calls Tryz.prog 54 #[tmV u n] w fun e w' => e = .returned (.int .i64 u) ∧ Below w.heap.size w w' := by
  have hb := and_high n hn0 (by omega)
  unfold tmV
  go_enter Tryz.func54, Tryz.ntmps54
  go_wp2
  go_ret
  exact ⟨ret_int (by omega), by go_grown⟩
set_option maxRecDepth 100000 in
set_option maxHeartbeats 1600000 in
theorem toEpoch_any (u k : Int) (hk0 : 0 ≤ k) (hk1 : k < 512) (hu0 : -4398046511104 ≤ u) (hu1 : u ≤ 4398046511104) (w : World) :
    Calls Tryz.prog 43 #[tmV u (k * 1953125)] w fun e w' => (∃ r, e = .returned (.float .f64 r) ∧ Fl r (512 * u + k)) ∧ Below w.heap.size w w' := by
  obtain ⟨n, hn⟩ : ∃ n, k * 1953125 = n := ⟨_, rfl⟩
  have hnb : 0 ≤ n ∧ n < 1000000000 := by omega
  rw [hn]
  obtain ⟨r3, e3, f3⟩ := fl_div (c := k) (fl_ofInt n (by omega)) fl_billion (by omega) (by omega) (by omega) (by omega) (by omega)
  obtain ⟨r4, e4, f4⟩ := fl_add (fl_ofInt u (by omega)) f3 (by omega)
  have a3 : ∀ wx : World, (binOp .quo 33 (.float .f64 (floatOfInt .f64 n)) (.float .f64 4741671816366391296)).run Tryz.prog wx = .ok (.float .f64 r3) wx := fun wx => run_float_arith wx _ _ _ _ _ _ e3
  have a4 : ∀ wx : World, (binOp .add 33 (.float .f64 (floatOfInt .f64 u)) (.float .f64 r3)).run Tryz.prog wx = .ok (.float .f64 r4) wx := fun wx => run_float_arith wx _ _ _ _ _ _ e4
  have HF := Lib.hid f4
  have HN := Lib.hid (fun w => nano_any u n hnb.1 (by omega) w)
  have HU := Lib.hid (fun w => tunix_any u n hnb.1 (by omega) hu0 hu1 w)
  clear f3 f4 e3 e4 hn
  unfold tmV at HN HU ⊢
  go_enter Tryz.func43, Tryz.ntmps43
  go_wp2_with fail
  have hb3 : Below w.heap.size w (w.alloc (.cells #[.int .u64 n, .int .i64 (u + 62135596800), .pointer none] 74)) := (Below.refl _ _).alloc (Nat.le_refl _) _
  have hs3 : (w.alloc (.cells #[.int .u64 n, .int .i64 (u + 62135596800), .pointer none] 74)).heap.size = w.heap.size + 1 := by show (w.heap.push _).size = _; simp
  have d0 : (w.alloc (.cells #[.int .u64 n, .int .i64 (u + 62135596800), .pointer none] 74)).cell? ⟨w.heap.size, 0, none⟩ = some (.int .u64 n) := by go_simp
  have d1 : (w.alloc (.cells #[.int .u64 n, .int .i64 (u + 62135596800), .pointer none] 74)).cell? ⟨w.heap.size, 1, none⟩ = some (.int .i64 (u + 62135596800)) := by go_simp
  have d2 : (w.alloc (.cells #[.int .u64 n, .int .i64 (u + 62135596800), .pointer none] 74)).cell? ⟨w.heap.size, 2, none⟩ = some (.pointer none) := by go_simp
  generalize (w.alloc (.cells #[.int .u64 n, .int .i64 (u + 62135596800), .pointer none] 74)) = w3 at hb3 hs3 d0 d1 d2 ⊢
  have HB3 := Lib.hid hb3
  clear hb3
  generalize w.heap.size = tb at hs3 d0 d1 d2 ⊢
  have Bu := Lib.hid (from_base (W := w3) HU.out)
  have Bn := Lib.hid (from_base (W := w3) HN.out)
  have hlt : tb < w3.heap.size := by omega
  clear HU HN
  go_region_held3 (fun w' => w'.cell? ⟨tb, 0, none⟩ = some (.int .u64 n) ∧ w'.cell? ⟨tb, 1, none⟩ = some (.int .i64 (u + 62135596800)) ∧ w'.cell? ⟨tb, 2, none⟩ = some (.pointer none) ∧ Below w3.heap.size w3 w') (first | exact keepTm hlt d0 d1 d2 (Below.refl _ _).drew | exact keepTm hlt d0 d1 d2 (by assumption) | exact keepTm hlt d0 d1 d2 (below_more (by assumption))) (first
    | (go_at_call 54; refine (Bu.out _ ?_).mono ?_; go_grown; rintro e w4 ⟨rfl, hb4⟩)
    | (go_at_call 55; refine (Bn.out _ ?_).mono ?_; go_grown; rintro e w4 ⟨rfl, hb4⟩))
  all_goals (go_wp2_with fail)
  go_ret
  have q : Below w3.heap.size w3 w4 := by assumption
  have q1 := HB3.out.size
  have q2 := q.size
  exact ⟨⟨r4, rfl, HF.out⟩, HB3.out.trans (below_of q q1)⟩
end Go.Proofs.YtmbegjbhmeihiaaGreatDoor
