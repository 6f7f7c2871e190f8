/-
  mktime of a broken-down time, walked; the plain law that its fields come to.
-/
import Derived.Test.YtmbegjbhmeihiaaGreatDoorArr
import Derived.Test.YtmbegjbhmeihiaaGreatDoorTmL
namespace Go.Proofs.YtmbegjbhmeihiaaGreatDoor
set_option linter.unusedVariables false
set_option linter.unusedSimpArgs false
open Go.RowKit Go.Lib

theorem dfc_small (y m : Int) (h0 : -131072 ≤ y) (h1 : y ≤ 131072) (hm0 : 1 ≤ m) (hm1 : m ≤ 12) : -49000000 ≤ dfc y m 1 ∧ dfc y m 1 ≤ 48000000 := by
  unfold dfc
  by_cases h : m ≤ 2
  · rw [if_pos h, if_neg (show ¬ 2 < m by omega)]
    omega
  · rw [if_neg h, if_pos (show 2 < m by omega)]
    omega
/-- The library's reckoning of the fields is the law's own. -/
theorem day_sec (y mo d h mi s : Int) : 86400 * dayOf y (mo + 1) d h mi s + secOf h mi s = unixOf y mo d h mi s := by
  unfold dayOf secOf unixOf
  rw [show mo + 1 - 1 = mo by omega]
  generalize dfc (y + mo / 12) (mo % 12 + 1) 1 = c
  obtain ⟨M, hM⟩ : ∃ M, mi + s / 60 = M := ⟨_, rfl⟩
  obtain ⟨H, hH⟩ : ∃ H, h + M / 60 = H := ⟨_, rfl⟩
  rw [hM, hH]
  omega
theorem unix_small (y mo d h mi s : Int) (y0 : -65536 ≤ y) (y1 : y ≤ 65536) (mo0 : -65536 ≤ mo) (mo1 : mo ≤ 65536) (d0 : -65536 ≤ d) (d1 : d ≤ 65536) (h0 : -65536 ≤ h) (h1 : h ≤ 65536) (mi0 : -65536 ≤ mi) (mi1 : mi ≤ 65536) (s0 : -65537 ≤ s) (s1 : s ≤ 65537) :
    -4398046511103 ≤ unixOf y mo d h mi s ∧ unixOf y mo d h mi s ≤ 4398046511103 := by
  have hb := dfc_small (y + mo / 12) (mo % 12 + 1) (by omega) (by omega) (by omega) (by omega)
  unfold unixOf
  generalize dfc (y + mo / 12) (mo % 12 + 1) 1 = c at hb ⊢
  omega
set_option maxRecDepth 100000 in
set_option maxHeartbeats 3200000 in
theorem mktime_any (A : Nat) (y mo d h mi s k wd yd : Int) (rs : Nat) (w : World) (hA : A < w.heap.size) (hz : Fl rs (512 * s + k)) (hk0 : 0 ≤ k) (hk1 : k < 512)
    (y0 : -65536 ≤ y) (y1 : y ≤ 65536) (mo0 : -65536 ≤ mo) (mo1 : mo ≤ 65536) (d0 : -65536 ≤ d) (d1 : d ≤ 65536) (h0 : -65536 ≤ h) (h1 : h ≤ 65536) (mi0 : -65536 ≤ mi) (mi1 : mi ≤ 65536) (s0 : -65536 ≤ s) (s1 : s ≤ 65536)
    (c0 : w.cell? ⟨A, 0, none⟩ = some (.iface 3 (.int .i64 y))) (c1 : w.cell? ⟨A, 1, none⟩ = some (.iface 3 (.int .i64 mo))) (c2 : w.cell? ⟨A, 2, none⟩ = some (.iface 3 (.int .i64 d))) (c3 : w.cell? ⟨A, 3, none⟩ = some (.iface 3 (.int .i64 h))) (c4 : w.cell? ⟨A, 4, none⟩ = some (.iface 3 (.int .i64 mi)))
    (c5 : w.cell? ⟨A, 5, none⟩ = some (.iface 33 (.float .f64 rs))) (c6 : w.cell? ⟨A, 6, none⟩ = some (.iface 3 (.int .i64 wd))) (c7 : w.cell? ⟨A, 7, none⟩ = some (.iface 3 (.int .i64 yd))) :
    Calls Tryz.prog 25 #[.iface 47 (.slice (some ⟨A, 0, none⟩) 8 8)] w fun e w' => (∃ r, e = .returned (.iface 33 (.float .f64 r)) ∧ Fl r (512 * unixOf y mo d h mi ((512 * s + k).tdiv 512) + k)) ∧ Below w.heap.size w w' := by
  have hT : -65537 ≤ (512 * s + k).tdiv 512 ∧ (512 * s + k).tdiv 512 ≤ 65537 := by
    rcases Int.lt_or_le (512 * s + k) 0 with hn | hn
    · obtain ⟨m, hm⟩ : ∃ m : Nat, 512 * s + k = -(m : Int) := ⟨(512 * s + k).natAbs, by omega⟩
      rw [hm, Int.neg_tdiv, Int.tdiv_eq_ediv_of_nonneg (by omega)]
      omega
    · rw [Int.tdiv_eq_ediv_of_nonneg hn]
      omega
  have hU := unix_small y mo d h mi ((512 * s + k).tdiv 512) y0 y1 mo0 mo1 d0 d1 h0 h1 mi0 mi1 hT.1 hT.2
  have hdf := dfc_small (y + mo / 12) (mo % 12 + 1) (by omega) (by omega) (by omega) (by omega)
  have HA := Lib.hid (fun (b : Nat) (w1 : World) (hb : b < w1.heap.size) (hU : Utc2 w1 b) (hB : Below w.heap.size w w1) =>
    arr_any A b y mo d h mi s k wd yd rs w1 (Nat.lt_of_lt_of_le hA hB.size) hb hU hz hk0 hk1 (by omega) (by omega) (by omega) (by omega) (by omega) (by omega) (by omega) (by omega) (by omega) (by omega) (by omega) (by omega)
      ((hB.cell (p := ⟨A, 0, none⟩) hA).trans c0) ((hB.cell (p := ⟨A, 1, none⟩) hA).trans c1) ((hB.cell (p := ⟨A, 2, none⟩) hA).trans c2) ((hB.cell (p := ⟨A, 3, none⟩) hA).trans c3) ((hB.cell (p := ⟨A, 4, none⟩) hA).trans c4) ((hB.cell (p := ⟨A, 5, none⟩) hA).trans c5) ((hB.cell (p := ⟨A, 6, none⟩) hA).trans c6) ((hB.cell (p := ⟨A, 7, none⟩) hA).trans c7) (by omega))
  have hds := day_sec y mo d h mi ((512 * s + k).tdiv 512)
  rw [hds] at HA
  generalize unixOf y mo d h mi ((512 * s + k).tdiv 512) = u at HA hU ⊢
  have HT := Lib.hid (fun w => toEpoch_any u k hk0 hk1 (by omega) (by omega) w)
  have as1 := asArrArr
  clear c0 c1 c2 c3 c4 c5 c6 c7 hz hds hT
  unfold tmV at HA HT
  obtain ⟨N, hN⟩ : ∃ N, k * 1953125 = N := ⟨_, rfl⟩
  have hNb : 0 ≤ N ∧ N < 1000000000 := by omega
  rw [hN] at HA HT
  clear hN
  go_enter Tryz.func25, Tryz.ntmps25
  go_wp2_with (first | (go_at_call 42; go_in))
  refine (HA.out _ _ (by simp) ?_ ?_).mono ?_
  · unfold Utc2
    exact ⟨by go_simp, by go_simp⟩
  · go_grown
  rintro e w1 ⟨rfl, hb1'⟩
  have hb1 : Below w.heap.size w w1 := Below.trans (by go_grown) (below_of hb1' (by simp))
  clear hb1' HA
  go_wp2_with fail
  refine (HT.out _).mono ?_
  rintro e w2 ⟨⟨r, rfl, hr⟩, hb2⟩
  have HR := Lib.hid hr
  have HB := Lib.hid (hb1.trans (below_of (below_alloc hb2) hb1.size))
  clear hr hb1 hb2
  go_wp2_with fail
  go_ret
  exact ⟨⟨r, rfl, HR.out⟩, HB.out⟩
end Go.Proofs.YtmbegjbhmeihiaaGreatDoor
