/-
  The library's Date over UTC, walked.
-/
import Derived.Test.YtmbegjbhmeihiaaGreatDoorTm
import Derived.Test.YtmbegjbhmeihiaaGreatDoorEpoch
namespace Go.Proofs.YtmbegjbhmeihiaaGreatDoor
set_option linter.unusedVariables false
set_option linter.unusedSimpArgs false
open Go.RowKit Go.Lib

set_option maxHeartbeats 800000 in
theorem norm12 (hi lo : Int) (h0 : -1125899906842624 ≤ hi) (h1 : hi ≤ 1125899906842624) (l0 : -1125899906842624 ≤ lo) (l1 : lo ≤ 1125899906842624) (w : World) :
    Calls Tryz.prog 81 #[.int .i64 hi, .int .i64 lo, .int .i64 12] w fun e w' => e = .returned (.tuple #[.int .i64 (hi + lo / 12), .int .i64 (lo % 12)]) ∧ w = w' := by
  by_cases hn : lo < 0
  · obtain ⟨q, hq⟩ : ∃ q, (-lo - 1) / 12 = q := ⟨_, rfl⟩
    have hq' : (-lo - 1).tdiv 12 = q := by rw [Int.tdiv_eq_ediv_of_nonneg (by omega)]; exact hq
    have hb : 0 ≤ q ∧ q ≤ 1125899906842624 ∧ 12 * q ≤ -lo - 1 ∧ -lo - 1 < 12 * q + 12 := by omega
    have r1 : lo + (q + 1) * 12 < 12 := by omega
    have r2 : ¬ (12 : Int) ≤ lo + (q + 1) * 12 := by omega
    have r3 : -1125899906842624 ≤ lo + (q + 1) * 12 := by omega
    have HR := Lib.hid (show hi - (q + 1) = hi + lo / 12 ∧ lo + (q + 1) * 12 = lo % 12 by omega)
    go_enter Tryz.func81, Tryz.ntmps81
    go_wp2
    go_ret2
    exact ⟨ret_pair (by have := HR.out; omega) (by have := HR.out; omega), rfl⟩
  · by_cases hb : 12 ≤ lo
    · obtain ⟨q, hq⟩ : ∃ q, lo / 12 = q := ⟨_, rfl⟩
      have hq' : lo.tdiv 12 = q := by rw [Int.tdiv_eq_ediv_of_nonneg (by omega)]; exact hq
      have hqb : 0 ≤ q ∧ q ≤ 1125899906842624 ∧ 12 * q ≤ lo ∧ lo < 12 * q + 12 := by omega
      have HR := Lib.hid (show lo - q * 12 = lo % 12 by omega)
      rw [hq]
      go_enter Tryz.func81, Tryz.ntmps81
      go_wp2
      go_ret2
      exact ⟨ret_pair (by omega) (by have := HR.out; omega), rfl⟩
    · have hb' : lo < 12 := by omega
      go_enter Tryz.func81, Tryz.ntmps81
      go_wp2
      go_ret2
      exact ⟨ret_pair (by omega) (by omega), rfl⟩
set_option maxHeartbeats 800000 in
theorem norm1000000000 (hi lo : Int) (h0 : -1125899906842624 ≤ hi) (h1 : hi ≤ 1125899906842624) (l0 : -1125899906842624 ≤ lo) (l1 : lo ≤ 1125899906842624) (w : World) :
    Calls Tryz.prog 81 #[.int .i64 hi, .int .i64 lo, .int .i64 1000000000] w fun e w' => e = .returned (.tuple #[.int .i64 (hi + lo / 1000000000), .int .i64 (lo % 1000000000)]) ∧ w = w' := by
  by_cases hn : lo < 0
  · obtain ⟨q, hq⟩ : ∃ q, (-lo - 1) / 1000000000 = q := ⟨_, rfl⟩
    have hq' : (-lo - 1).tdiv 1000000000 = q := by rw [Int.tdiv_eq_ediv_of_nonneg (by omega)]; exact hq
    have hb : 0 ≤ q ∧ q ≤ 1125899906842624 ∧ 1000000000 * q ≤ -lo - 1 ∧ -lo - 1 < 1000000000 * q + 1000000000 := by omega
    have r1 : lo + (q + 1) * 1000000000 < 1000000000 := by omega
    have r2 : ¬ (1000000000 : Int) ≤ lo + (q + 1) * 1000000000 := by omega
    have r3 : -1125899906842624 ≤ lo + (q + 1) * 1000000000 := by omega
    have HR := Lib.hid (show hi - (q + 1) = hi + lo / 1000000000 ∧ lo + (q + 1) * 1000000000 = lo % 1000000000 by omega)
    go_enter Tryz.func81, Tryz.ntmps81
    go_wp2
    go_ret2
    exact ⟨ret_pair (by have := HR.out; omega) (by have := HR.out; omega), rfl⟩
  · by_cases hb : 1000000000 ≤ lo
    · obtain ⟨q, hq⟩ : ∃ q, lo / 1000000000 = q := ⟨_, rfl⟩
      have hq' : lo.tdiv 1000000000 = q := by rw [Int.tdiv_eq_ediv_of_nonneg (by omega)]; exact hq
      have hqb : 0 ≤ q ∧ q ≤ 1125899906842624 ∧ 1000000000 * q ≤ lo ∧ lo < 1000000000 * q + 1000000000 := by omega
      have HR := Lib.hid (show lo - q * 1000000000 = lo % 1000000000 by omega)
      rw [hq]
      go_enter Tryz.func81, Tryz.ntmps81
      go_wp2
      go_ret2
      exact ⟨ret_pair (by omega) (by have := HR.out; omega), rfl⟩
    · have hb' : lo < 1000000000 := by omega
      go_enter Tryz.func81, Tryz.ntmps81
      go_wp2
      go_ret2
      exact ⟨ret_pair (by omega) (by omega), rfl⟩
set_option maxHeartbeats 800000 in
theorem norm60 (hi lo : Int) (h0 : -1125899906842624 ≤ hi) (h1 : hi ≤ 1125899906842624) (l0 : -1125899906842624 ≤ lo) (l1 : lo ≤ 1125899906842624) (w : World) :
    Calls Tryz.prog 81 #[.int .i64 hi, .int .i64 lo, .int .i64 60] w fun e w' => e = .returned (.tuple #[.int .i64 (hi + lo / 60), .int .i64 (lo % 60)]) ∧ w = w' := by
  by_cases hn : lo < 0
  · obtain ⟨q, hq⟩ : ∃ q, (-lo - 1) / 60 = q := ⟨_, rfl⟩
    have hq' : (-lo - 1).tdiv 60 = q := by rw [Int.tdiv_eq_ediv_of_nonneg (by omega)]; exact hq
    have hb : 0 ≤ q ∧ q ≤ 1125899906842624 ∧ 60 * q ≤ -lo - 1 ∧ -lo - 1 < 60 * q + 60 := by omega
    have r1 : lo + (q + 1) * 60 < 60 := by omega
    have r2 : ¬ (60 : Int) ≤ lo + (q + 1) * 60 := by omega
    have r3 : -1125899906842624 ≤ lo + (q + 1) * 60 := by omega
    have HR := Lib.hid (show hi - (q + 1) = hi + lo / 60 ∧ lo + (q + 1) * 60 = lo % 60 by omega)
    go_enter Tryz.func81, Tryz.ntmps81
    go_wp2
    go_ret2
    exact ⟨ret_pair (by have := HR.out; omega) (by have := HR.out; omega), rfl⟩
  · by_cases hb : 60 ≤ lo
    · obtain ⟨q, hq⟩ : ∃ q, lo / 60 = q := ⟨_, rfl⟩
      have hq' : lo.tdiv 60 = q := by rw [Int.tdiv_eq_ediv_of_nonneg (by omega)]; exact hq
      have hqb : 0 ≤ q ∧ q ≤ 1125899906842624 ∧ 60 * q ≤ lo ∧ lo < 60 * q + 60 := by omega
      have HR := Lib.hid (show lo - q * 60 = lo % 60 by omega)
      rw [hq]
      go_enter Tryz.func81, Tryz.ntmps81
      go_wp2
      go_ret2
      exact ⟨ret_pair (by omega) (by have := HR.out; omega), rfl⟩
    · have hb' : lo < 60 := by omega
      go_enter Tryz.func81, Tryz.ntmps81
      go_wp2
      go_ret2
      exact ⟨ret_pair (by omega) (by omega), rfl⟩
set_option maxHeartbeats 800000 in
theorem norm24 (hi lo : Int) (h0 : -1125899906842624 ≤ hi) (h1 : hi ≤ 1125899906842624) (l0 : -1125899906842624 ≤ lo) (l1 : lo ≤ 1125899906842624) (w : World) :
    Calls Tryz.prog 81 #[.int .i64 hi, .int .i64 lo, .int .i64 24] w fun e w' => e = .returned (.tuple #[.int .i64 (hi + lo / 24), .int .i64 (lo % 24)]) ∧ w = w' := by
  by_cases hn : lo < 0
  · obtain ⟨q, hq⟩ : ∃ q, (-lo - 1) / 24 = q := ⟨_, rfl⟩
    have hq' : (-lo - 1).tdiv 24 = q := by rw [Int.tdiv_eq_ediv_of_nonneg (by omega)]; exact hq
    have hb : 0 ≤ q ∧ q ≤ 1125899906842624 ∧ 24 * q ≤ -lo - 1 ∧ -lo - 1 < 24 * q + 24 := by omega
    have r1 : lo + (q + 1) * 24 < 24 := by omega
    have r2 : ¬ (24 : Int) ≤ lo + (q + 1) * 24 := by omega
    have r3 : -1125899906842624 ≤ lo + (q + 1) * 24 := by omega
    have HR := Lib.hid (show hi - (q + 1) = hi + lo / 24 ∧ lo + (q + 1) * 24 = lo % 24 by omega)
    go_enter Tryz.func81, Tryz.ntmps81
    go_wp2
    go_ret2
    exact ⟨ret_pair (by have := HR.out; omega) (by have := HR.out; omega), rfl⟩
  · by_cases hb : 24 ≤ lo
    · obtain ⟨q, hq⟩ : ∃ q, lo / 24 = q := ⟨_, rfl⟩
      have hq' : lo.tdiv 24 = q := by rw [Int.tdiv_eq_ediv_of_nonneg (by omega)]; exact hq
      have hqb : 0 ≤ q ∧ q ≤ 1125899906842624 ∧ 24 * q ≤ lo ∧ lo < 24 * q + 24 := by omega
      have HR := Lib.hid (show lo - q * 24 = lo % 24 by omega)
      rw [hq]
      go_enter Tryz.func81, Tryz.ntmps81
      go_wp2
      go_ret2
      exact ⟨ret_pair (by omega) (by have := HR.out; omega), rfl⟩
    · have hb' : lo < 24 := by omega
      go_enter Tryz.func81, Tryz.ntmps81
      go_wp2
      go_ret2
      exact ⟨ret_pair (by omega) (by omega), rfl⟩

theorem wu_add (a c : Int) : IntKind.u64.wrap (IntKind.u64.wrap a + c) = IntKind.u64.wrap (a + c) := by
  simp only [IntKind.wrap_u64]
  exact Int.emod_add_emod ..
theorem wu_sub (a c : Int) : IntKind.u64.wrap (IntKind.u64.wrap a - c) = IntKind.u64.wrap (a - c) := by
  rw [Int.sub_eq_add_neg, wu_add, ← Int.sub_eq_add_neg]
set_option maxHeartbeats 1600000 in
theorem absDays_any (y m d : Int) (y0 : -4294967296 ≤ y) (y1 : y ≤ 4294967296) (m0 : 1 ≤ m) (m1 : m ≤ 12) (d0 : -1099511627776 ≤ d) (d1 : d ≤ 1099511627776) (w : World) :
    Calls Tryz.prog 82 #[.int .i64 y, .int .i64 m, .int .i64 d] w fun e w' => e = .returned (.int .u64 (dfc y m 1 + 106751991073400 + d - 1)) ∧ w = w' := by
  have hk := date_days y m m0 m1
  have HK := Lib.hid hk
  clear hk
  have hy : IntKind.u64.wrap (IntKind.u64.wrap (IntKind.u64.wrap y - 1) + 292277022400) = y - 1 + 292277022400 := by rw [wu_sub, wu_add, IntKind.wrap_u64]; omega
  have hy' : IntKind.u64.wrap (IntKind.u64.wrap (IntKind.u64.wrap y - 0) + 292277022400) = y + 292277022400 := by rw [wu_sub, Int.sub_zero, wu_add, IntKind.wrap_u64]; omega
  have hy3 : IntKind.u64.wrap (IntKind.u64.wrap (IntKind.u64.wrap y) + 292277022400) = y + 292277022400 := by rw [wu_add, IntKind.wrap_u64, IntKind.wrap_u64]; omega
  have hy2 : IntKind.u64.wrap (IntKind.u64.wrap y + 292277022400) = y + 292277022400 := by rw [wu_add, IntKind.wrap_u64]; omega
  by_cases hm : m < 3
  · have K := HK.out
    rw [if_pos hm, if_pos hm] at K
    obtain ⟨Y, hY⟩ : ∃ Y, y - 1 + 292277022400 = Y := ⟨_, rfl⟩
    rw [hY] at K hy
    have hYb : 280000000000 ≤ Y ∧ Y < 1000000000000 := by omega
    go_enter Tryz.func82, Tryz.ntmps82
    clear y0 y1
    go_wp2
    go_ret
    refine ⟨ret_int ?_, rfl⟩
    have p1 : 400000000000000 ≤ 4 * (146097 * (Y / 100) / 4) ∧ 146097 * (Y / 100) / 4 ≤ 400000000000000 := by omega
    have p2 : 0 ≤ 1461 * (Y % 100) / 4 ∧ 1461 * (Y % 100) / 4 ≤ 40000 := by omega
    have p3 : 0 ≤ (979 * (m + 12) - 2919) / 32 ∧ (979 * (m + 12) - 2919) / 32 ≤ 40000 := by omega
    generalize 146097 * (Y / 100) / 4 = P at p1 K ⊢
    generalize 1461 * (Y % 100) / 4 = Q at p2 K ⊢
    generalize (979 * (m + 12) - 2919) / 32 = R at p3 K ⊢
    rw [Int.add_comm P, wu_add, IntKind.wrap_u64]
    omega
  · have K := HK.out
    rw [if_neg hm, if_neg hm] at K
    obtain ⟨Y, hY⟩ : ∃ Y, y + 292277022400 = Y := ⟨_, rfl⟩
    rw [hY] at K hy' hy2 hy3
    have hYb : 280000000000 ≤ Y ∧ Y < 1000000000000 := by omega
    go_enter Tryz.func82, Tryz.ntmps82
    clear y0 y1
    go_wp2
    go_ret
    refine ⟨ret_int ?_, rfl⟩
    have p1 : 400000000000000 ≤ 4 * (146097 * (Y / 100) / 4) ∧ 146097 * (Y / 100) / 4 ≤ 400000000000000 := by omega
    have p2 : 0 ≤ 1461 * (Y % 100) / 4 ∧ 1461 * (Y % 100) / 4 ≤ 40000 := by omega
    have p3 : 0 ≤ (979 * m - 2919) / 32 ∧ (979 * m - 2919) / 32 ≤ 40000 := by omega
    generalize 146097 * (Y / 100) / 4 = P at p1 K ⊢
    generalize 1461 * (Y % 100) / 4 = Q at p2 K ⊢
    generalize (979 * m - 2919) / 32 = R at p3 K ⊢
    rw [Int.add_comm P, wu_add, IntKind.wrap_u64]
    omega

end Go.Proofs.YtmbegjbhmeihiaaGreatDoor
