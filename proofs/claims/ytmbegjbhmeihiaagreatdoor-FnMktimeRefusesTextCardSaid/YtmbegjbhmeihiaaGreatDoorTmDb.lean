/-
  The library's Date over UTC, walked (second part).
-/
import Derived.Test.YtmbegjbhmeihiaaGreatDoorTmDc
namespace Go.Proofs.YtmbegjbhmeihiaaGreatDoor
set_option linter.unusedVariables false
set_option linter.unusedSimpArgs false
open Go.RowKit Go.Lib

theorem Utc2.on {w w' : World} {b : Nat} (h : Utc2 w b) (hb : b < w.heap.size) (hB : Below w.heap.size w w') : Utc2 w' b :=
  ⟨(hB.cell (p := ⟨b, 0, none⟩) hb).trans h.1, (hB.cell (p := ⟨b, 2, none⟩) hb).trans h.2⟩
/-- What the fields come to. -/
def dayOf (y mo d h mi s : Int) : Int := dfc (y + (mo - 1) / 12) ((mo - 1) % 12 + 1) 1 - 1 + (d + (h + (mi + s / 60) / 60) / 24)
def secOf (h mi s : Int) : Int := 3600 * ((h + (mi + s / 60) / 60) % 24) + 60 * ((mi + s / 60) % 60) + s % 60
set_option maxRecDepth 100000 in
set_option maxHeartbeats 3200000 in
/-- Date at whole fields and nanoseconds that stand in their range. -/
theorem date_any (y mo d h mi s n : Int) (y0 : -1073741824 ≤ y) (y1 : y ≤ 1073741824) (mo0 : -1073741824 ≤ mo) (mo1 : mo ≤ 1073741824) (d0 : -1073741824 ≤ d) (d1 : d ≤ 1073741824) (h0 : -1073741824 ≤ h) (h1 : h ≤ 1073741824) (mi0 : -1073741824 ≤ mi) (mi1 : mi ≤ 1073741824) (s0 : -1073741824 ≤ s) (s1 : s ≤ 1073741824) (n0 : 0 ≤ n) (n1 : n < 1000000000) (hdf : -1000000000000 ≤ dfc (y + (mo - 1) / 12) ((mo - 1) % 12 + 1) 1 ∧ dfc (y + (mo - 1) / 12) ((mo - 1) % 12 + 1) 1 ≤ 1000000000000) (b : Nat) (w : World) (hb : b < w.heap.size) (hU : Utc2 w b) :
    Calls Tryz.prog 53 #[.int .i64 y, .int .i64 mo, .int .i64 d, .int .i64 h, .int .i64 mi, .int .i64 s, .int .i64 n, .pointer (some ⟨b, 0, none⟩)] w fun e w' => e = .returned (tmV (86400 * dayOf y mo d h mi s + secOf h mi s) n) ∧ Below w.heap.size w w' := by
  have hw1 : IntKind.i64.wrap (mo - 1) = mo - 1 := by rw [IntKind.wrap_i64]; omega
  have H1 := Lib.hid (fun w => norm12 y (mo - 1) (by omega) (by omega) (by omega) (by omega) w)
  have H2 := Lib.hid (fun w => norm1000000000 s n (by omega) (by omega) (by omega) (by omega) w)
  have en1 : s + n / 1000000000 = s := by omega
  have en2 : n % 1000000000 = n := by omega
  rw [en1, en2] at H2
  have H3 := Lib.hid (fun w => norm60 mi s (by omega) (by omega) (by omega) (by omega) w)
  unfold dayOf secOf
  obtain ⟨M, hM⟩ : ∃ M, mi + s / 60 = M := ⟨_, rfl⟩
  have hMb : -2147483648 ≤ M ∧ M ≤ 2147483648 := by omega
  rw [hM] at H3 ⊢
  have H4 := Lib.hid (fun w => norm60 h M (by omega) (by omega) (by omega) (by omega) w)
  obtain ⟨H, hH⟩ : ∃ H, h + M / 60 = H := ⟨_, rfl⟩
  have hHb : -2147483648 ≤ H ∧ H ≤ 2147483648 := by omega
  rw [hH] at H4 ⊢
  have H5 := Lib.hid (fun w => norm24 d H (by omega) (by omega) (by omega) (by omega) w)
  obtain ⟨D, hD⟩ : ∃ D, d + H / 24 = D := ⟨_, rfl⟩
  have hDb : -4294967296 ≤ D ∧ D ≤ 4294967296 := by omega
  rw [hD] at H5 ⊢
  obtain ⟨Y, hY⟩ : ∃ Y, y + (mo - 1) / 12 = Y := ⟨_, rfl⟩
  have hYb : -2147483648 ≤ Y ∧ Y ≤ 2147483648 := by omega
  obtain ⟨m, hm⟩ : ∃ m, (mo - 1) % 12 = m := ⟨_, rfl⟩
  have hmb : 0 ≤ m ∧ m ≤ 11 := by omega
  rw [hY] at H1 hdf ⊢
  rw [hm] at H1 hdf ⊢
  have H6 := Lib.hid (fun w => absDays_any Y (m + 1) D (by omega) (by omega) (by omega) (by omega) (by omega) (by omega) w)
  generalize dfc Y (m + 1) 1 = F at hdf H6 ⊢
  obtain ⟨S, hS⟩ : ∃ S, s % 60 = S := ⟨_, rfl⟩
  have hSb : 0 ≤ S ∧ S < 60 := by omega
  rw [hS] at H3 ⊢
  obtain ⟨I, hI⟩ : ∃ I, M % 60 = I := ⟨_, rfl⟩
  have hIb : 0 ≤ I ∧ I < 60 := by omega
  rw [hI] at H4 ⊢
  obtain ⟨K, hK⟩ : ∃ K, H % 24 = K := ⟨_, rfl⟩
  have hKb : 0 ≤ K ∧ K < 24 := by omega
  rw [hK] at H5 ⊢
  clear hS hI hK hY hm hM hH hD en1 en2
  have HL := Lib.hid (fun x w' (hb' : Below w.heap.size w w') => lookup_utc x b w' (Utc2.on hU hb hb'))
  have hx : wrap64 (wrap64 (wrap64 ((F + 106751991073400 + D - 1) * 86400) + (K * 3600 + I * 60 + S)) + -9223372028741760000) = 86400 * (F - 1 + D) + (3600 * K + 60 * I + S) := by
    rw [w64_add, Int.add_assoc (wrap64 _), w64_add]
    unfold wrap64
    omega
  have HU := Lib.hid hU.1
  clear hU
  have ha := and_high n n0 (by omega)
  go_enter Tryz.func53, Tryz.ntmps53
  go_wp2_with fail
  refine (H1.out _).mono ?_
  rintro e w1 ⟨rfl, rfl⟩
  go_wp2_with fail
  refine (H2.out _).mono ?_
  rintro e w1 ⟨rfl, rfl⟩
  go_wp2_with fail
  refine (H3.out _).mono ?_
  rintro e w1 ⟨rfl, rfl⟩
  go_wp2_with fail
  refine (H4.out _).mono ?_
  rintro e w1 ⟨rfl, rfl⟩
  go_wp2_with fail
  refine (H5.out _).mono ?_
  rintro e w1 ⟨rfl, rfl⟩
  go_wp2_with fail
  refine (H6.out _).mono ?_
  rintro e w1 ⟨rfl, rfl⟩
  go_wp2_with fail
  refine (HL.out _ _ ?_).mono ?_
  · first | exact (Below.refl _ _).alloc (Nat.le_refl _) _ | exact Below.refl _ _ | go_grown
  rintro e w1 ⟨rfl, hw1⟩
  have hU1 : w1.cell? ⟨b, 0, none⟩ = some (.bool true) := by
    rw [← hw1]
    exact (((Below.refl w.heap.size w).alloc (Nat.le_refl _) _).cell (p := ⟨b, 0, none⟩) hb).trans HU.out
  have hsz : w1.heap.size = w.heap.size + 1 := by rw [← hw1]; simp
  have hc0 : w1.cell? ⟨w.heap.size, 0, none⟩ = some (.int .u64 0) := by subst hw1; go_simp
  have hc1 : w1.cell? ⟨w.heap.size, 1, none⟩ = some (.int .i64 0) := by subst hw1; go_simp
  have hc2 : w1.cell? ⟨w.heap.size, 2, none⟩ = some (.pointer none) := by subst hw1; go_simp
  have hf : ∀ k, w1.frozen? ⟨w.heap.size, k, none⟩ = false := by intro k; subst hw1; go_simp
  have hB : Below w.heap.size w w1 := by rw [← hw1]; exact (Below.refl _ _).alloc (Nat.le_refl _) _
  have hbs : b < w1.heap.size := by omega
  have hRs : w.heap.size < w1.heap.size := by omega
  clear HL HU hw1 hsz
  go_wp2

  exact bodyPost_ret (v := .agg #[.int .u64 n, .int .i64 (86400 * (F - 1 + D) + (3600 * K + 60 * I + S) + 62135596800), .pointer none]) (by simp [results, Tryz.results53, go_sem]; go_simp) rfl ⟨rfl, by go_grown⟩
end Go.Proofs.YtmbegjbhmeihiaaGreatDoor
