/-
  The calendar of the laws' own package n001_32, walked.
-/
import Derived.Test.YtmbegjbhmeihiaaGreatDoorTm
namespace Go.Proofs.YtmbegjbhmeihiaaGreatDoor
set_option linter.unusedVariables false
set_option linter.unusedSimpArgs false
open Go.RowKit Go.Lib

theorem tdiv_neg (m : Nat) (b : Nat) : (-(m : Int)).tdiv (b : Int) = -((m : Int) / (b : Int)) := by
  rw [Int.neg_tdiv, Int.tdiv_eq_ediv_of_nonneg (by omega)]
theorem tmod_neg (m : Nat) (b : Nat) : (-(m : Int)).tmod (b : Int) = -((m : Int) % (b : Int)) := by
  rw [Int.neg_tmod, Int.tmod_eq_emod_of_nonneg (by omega)]
set_option maxHeartbeats 800000 in
theorem zfdiv12 (a : Int) (h0 : -1125899906842624 ≤ a) (h1 : a ≤ 1125899906842624) (w : World) :
    Calls Tryz.prog 27 #[.int .i64 a, .int .i64 12] w fun e w' => e = .returned (.int .i64 (a / 12)) ∧ w = w' := by
  by_cases hn : 0 ≤ a
  · by_cases hr : a % 12 = 0
    · have q1 : (a % 12 == 0) = true := by rw [beq_iff_eq]; exact hr
      have q2 : (a % 12 != 0) = false := by rw [bne, q1]; rfl
      clear hr
      go_enter Tryz.func27, Tryz.ntmps27
      go_wp2
      go_ret
      exact ⟨rfl, rfl⟩
    · have q1 : (a % 12 == 0) = false := by rw [beq_eq_false_iff_ne]; exact hr
      have q2 : (a % 12 != 0) = true := by rw [bne, q1]; rfl
      clear hr
      go_enter Tryz.func27, Tryz.ntmps27
      go_wp2
      go_ret
      exact ⟨rfl, rfl⟩
  · obtain ⟨m, rfl⟩ : ∃ m : Nat, a = -(m : Int) := ⟨a.natAbs, by omega⟩
    have e1 := tdiv_neg m 12
    have e2 := tmod_neg m 12
    obtain ⟨t, ht⟩ : ∃ t, (m : Int) / ((12 : Nat) : Int) = t := ⟨_, rfl⟩
    obtain ⟨r, hr⟩ : ∃ r, (m : Int) % ((12 : Nat) : Int) = r := ⟨_, rfl⟩
    rw [ht] at e1
    rw [hr] at e2
    have f1 : (-(m : Int)).tdiv 12 = -t := e1
    have f2 : (-(m : Int)).tmod 12 = -r := e2
    have hb : 0 ≤ t ∧ t ≤ m ∧ 0 ≤ r ∧ r < 12 ∧ (m : Int) = 12 * t + r := by omega
    clear e1 e2 ht hr
    have HB := Lib.hid hb
    have ht0 : 0 ≤ t := hb.1
    have ht1 : t ≤ 1125899906842624 := by omega
    have hm : 0 < (m : Int) := by omega
    clear hb
    by_cases hz : r = 0
    · have q1 : (-r == 0) = true := by rw [beq_iff_eq]; omega
      have q2 : (-r != 0) = false := by rw [bne, q1]; rfl
      have HZ := Lib.hid hz
      clear hz
      go_enter Tryz.func27, Tryz.ntmps27
      go_wp2
      go_ret
      exact ⟨ret_int (by have := HZ.out; have := HB.out; omega), rfl⟩
    · have q1 : (-r == 0) = false := by rw [beq_eq_false_iff_ne]; omega
      have q2 : (-r != 0) = true := by rw [bne, q1]; rfl
      go_enter Tryz.func27, Tryz.ntmps27
      go_wp2
      go_ret
      exact ⟨ret_int (by have := HB.out; omega), rfl⟩
set_option maxHeartbeats 800000 in
theorem zfdiv86400 (a : Int) (h0 : -1125899906842624 ≤ a) (h1 : a ≤ 1125899906842624) (w : World) :
    Calls Tryz.prog 27 #[.int .i64 a, .int .i64 86400] w fun e w' => e = .returned (.int .i64 (a / 86400)) ∧ w = w' := by
  by_cases hn : 0 ≤ a
  · by_cases hr : a % 86400 = 0
    · have q1 : (a % 86400 == 0) = true := by rw [beq_iff_eq]; exact hr
      have q2 : (a % 86400 != 0) = false := by rw [bne, q1]; rfl
      clear hr
      go_enter Tryz.func27, Tryz.ntmps27
      go_wp2
      go_ret
      exact ⟨rfl, rfl⟩
    · have q1 : (a % 86400 == 0) = false := by rw [beq_eq_false_iff_ne]; exact hr
      have q2 : (a % 86400 != 0) = true := by rw [bne, q1]; rfl
      clear hr
      go_enter Tryz.func27, Tryz.ntmps27
      go_wp2
      go_ret
      exact ⟨rfl, rfl⟩
  · obtain ⟨m, rfl⟩ : ∃ m : Nat, a = -(m : Int) := ⟨a.natAbs, by omega⟩
    have e1 := tdiv_neg m 86400
    have e2 := tmod_neg m 86400
    obtain ⟨t, ht⟩ : ∃ t, (m : Int) / ((86400 : Nat) : Int) = t := ⟨_, rfl⟩
    obtain ⟨r, hr⟩ : ∃ r, (m : Int) % ((86400 : Nat) : Int) = r := ⟨_, rfl⟩
    rw [ht] at e1
    rw [hr] at e2
    have f1 : (-(m : Int)).tdiv 86400 = -t := e1
    have f2 : (-(m : Int)).tmod 86400 = -r := e2
    have hb : 0 ≤ t ∧ t ≤ m ∧ 0 ≤ r ∧ r < 86400 ∧ (m : Int) = 86400 * t + r := by omega
    clear e1 e2 ht hr
    have HB := Lib.hid hb
    have ht0 : 0 ≤ t := hb.1
    have ht1 : t ≤ 1125899906842624 := by omega
    have hm : 0 < (m : Int) := by omega
    clear hb
    by_cases hz : r = 0
    · have q1 : (-r == 0) = true := by rw [beq_iff_eq]; omega
      have q2 : (-r != 0) = false := by rw [bne, q1]; rfl
      have HZ := Lib.hid hz
      clear hz
      go_enter Tryz.func27, Tryz.ntmps27
      go_wp2
      go_ret
      exact ⟨ret_int (by have := HZ.out; have := HB.out; omega), rfl⟩
    · have q1 : (-r == 0) = false := by rw [beq_eq_false_iff_ne]; omega
      have q2 : (-r != 0) = true := by rw [bne, q1]; rfl
      go_enter Tryz.func27, Tryz.ntmps27
      go_wp2
      go_ret
      exact ⟨ret_int (by have := HB.out; omega), rfl⟩
set_option maxHeartbeats 800000 in
theorem zfdiv7 (a : Int) (h0 : -1125899906842624 ≤ a) (h1 : a ≤ 1125899906842624) (w : World) :
    Calls Tryz.prog 27 #[.int .i64 a, .int .i64 7] w fun e w' => e = .returned (.int .i64 (a / 7)) ∧ w = w' := by
  by_cases hn : 0 ≤ a
  · by_cases hr : a % 7 = 0
    · have q1 : (a % 7 == 0) = true := by rw [beq_iff_eq]; exact hr
      have q2 : (a % 7 != 0) = false := by rw [bne, q1]; rfl
      clear hr
      go_enter Tryz.func27, Tryz.ntmps27
      go_wp2
      go_ret
      exact ⟨rfl, rfl⟩
    · have q1 : (a % 7 == 0) = false := by rw [beq_eq_false_iff_ne]; exact hr
      have q2 : (a % 7 != 0) = true := by rw [bne, q1]; rfl
      clear hr
      go_enter Tryz.func27, Tryz.ntmps27
      go_wp2
      go_ret
      exact ⟨rfl, rfl⟩
  · obtain ⟨m, rfl⟩ : ∃ m : Nat, a = -(m : Int) := ⟨a.natAbs, by omega⟩
    have e1 := tdiv_neg m 7
    have e2 := tmod_neg m 7
    obtain ⟨t, ht⟩ : ∃ t, (m : Int) / ((7 : Nat) : Int) = t := ⟨_, rfl⟩
    obtain ⟨r, hr⟩ : ∃ r, (m : Int) % ((7 : Nat) : Int) = r := ⟨_, rfl⟩
    rw [ht] at e1
    rw [hr] at e2
    have f1 : (-(m : Int)).tdiv 7 = -t := e1
    have f2 : (-(m : Int)).tmod 7 = -r := e2
    have hb : 0 ≤ t ∧ t ≤ m ∧ 0 ≤ r ∧ r < 7 ∧ (m : Int) = 7 * t + r := by omega
    clear e1 e2 ht hr
    have HB := Lib.hid hb
    have ht0 : 0 ≤ t := hb.1
    have ht1 : t ≤ 1125899906842624 := by omega
    have hm : 0 < (m : Int) := by omega
    clear hb
    by_cases hz : r = 0
    · have q1 : (-r == 0) = true := by rw [beq_iff_eq]; omega
      have q2 : (-r != 0) = false := by rw [bne, q1]; rfl
      have HZ := Lib.hid hz
      clear hz
      go_enter Tryz.func27, Tryz.ntmps27
      go_wp2
      go_ret
      exact ⟨ret_int (by have := HZ.out; have := HB.out; omega), rfl⟩
    · have q1 : (-r == 0) = false := by rw [beq_eq_false_iff_ne]; omega
      have q2 : (-r != 0) = true := by rw [bne, q1]; rfl
      go_enter Tryz.func27, Tryz.ntmps27
      go_wp2
      go_ret
      exact ⟨ret_int (by have := HB.out; omega), rfl⟩
theorem zfmod12 (a : Int) (h0 : -1125899906842624 ≤ a) (h1 : a ≤ 1125899906842624) (w : World) :
    Calls Tryz.prog 28 #[.int .i64 a, .int .i64 12] w fun e w' => e = .returned (.int .i64 (a % 12)) ∧ w = w' := by
  have H := Lib.hid (fun w => zfdiv12 a h0 h1 w)
  obtain ⟨t, ht⟩ : ∃ t, a / 12 = t := ⟨_, rfl⟩
  rw [ht] at H
  have hb : -1125899906842624 ≤ t ∧ t ≤ 1125899906842624 ∧ 0 ≤ a - t * 12 ∧ a - t * 12 < 12 := by omega
  have he : a - t * 12 = a % 12 := by omega
  rw [← he]
  clear ht he
  go_enter Tryz.func28, Tryz.ntmps28
  go_wp2_with fail
  refine (H.out _).mono ?_
  rintro e w1 ⟨rfl, rfl⟩
  go_wp2_with fail
  go_ret
  exact ⟨rfl, rfl⟩
theorem zfmod7 (a : Int) (h0 : -1125899906842624 ≤ a) (h1 : a ≤ 1125899906842624) (w : World) :
    Calls Tryz.prog 28 #[.int .i64 a, .int .i64 7] w fun e w' => e = .returned (.int .i64 (a % 7)) ∧ w = w' := by
  have H := Lib.hid (fun w => zfdiv7 a h0 h1 w)
  obtain ⟨t, ht⟩ : ∃ t, a / 7 = t := ⟨_, rfl⟩
  rw [ht] at H
  have hb : -1125899906842624 ≤ t ∧ t ≤ 1125899906842624 ∧ 0 ≤ a - t * 7 ∧ a - t * 7 < 7 := by omega
  have he : a - t * 7 = a % 7 := by omega
  rw [← he]
  clear ht he
  go_enter Tryz.func28, Tryz.ntmps28
  go_wp2_with fail
  refine (H.out _).mono ?_
  rintro e w1 ⟨rfl, rfl⟩
  go_wp2_with fail
  go_ret
  exact ⟨rfl, rfl⟩

set_option maxHeartbeats 1600000 in
theorem dfc_any (y m : Int) (h0 : -1099511627776 ≤ y) (h1 : y ≤ 1099511627776) (hm0 : 1 ≤ m) (hm1 : m ≤ 12) (w : World) :
    Calls Tryz.prog 29 #[.int .i64 y, .int .i64 m, .int .i64 1] w fun e w' => e = .returned (.int .i64 (dfc y m 1)) ∧ w = w' := by
  obtain ⟨E, hE⟩ : ∃ E, (if m ≤ 2 then y - 1 else y) / 400 = E := ⟨_, rfl⟩
  have hd : dfc y m 1 = E * 146097 + (((if m ≤ 2 then y - 1 else y) - E * 400) * 365 + ((if m ≤ 2 then y - 1 else y) - E * 400) / 4 - ((if m ≤ 2 then y - 1 else y) - E * 400) / 100 + ((153 * (if 2 < m then m - 3 else m + 9) + 2) / 5 + 1 - 1)) - 719468 := by
    have : (if m ≤ 2 then y - 1 else y) % 400 = (if m ≤ 2 then y - 1 else y) - E * 400 := by omega
    unfold dfc
    rw [hE, this]
  rw [hd]
  clear hd
  by_cases hm : m ≤ 2
  · rw [if_pos hm] at hE ⊢
    rw [if_neg (show ¬ 2 < m by omega)]
    have hb : 0 ≤ (y - 1) - E * 400 ∧ (y - 1) - E * 400 < 400 ∧ -3000000000 ≤ E ∧ E ≤ 3000000000 := by omega
    by_cases hn : 0 ≤ (y - 1)
    · have hE' : (y - 1) / 400 = E := hE
      clear hE
      go_enter Tryz.func29, Tryz.ntmps29
      go_wp2
      go_ret
      exact ⟨ret_int (by omega), rfl⟩
    · have ht : ((y - 1) - 399).tdiv 400 = E := by
        obtain ⟨k, hk⟩ : ∃ k : Nat, (y - 1) - 399 = -(k : Int) := ⟨(399 - (y - 1)).toNat, by omega⟩
        have := tdiv_neg k 400
        rw [hk]
        rw [show (400 : Int) = ((400 : Nat) : Int) from rfl, this]
        omega
      clear hE
      go_enter Tryz.func29, Tryz.ntmps29
      go_wp2
      go_ret
      exact ⟨ret_int (by omega), rfl⟩
  · rw [if_neg hm] at hE ⊢
    rw [if_pos (show 2 < m by omega)]
    have hb : 0 ≤ y - E * 400 ∧ y - E * 400 < 400 ∧ -3000000000 ≤ E ∧ E ≤ 3000000000 := by omega
    by_cases hn : 0 ≤ y
    · have hE' : y / 400 = E := hE
      clear hE
      go_enter Tryz.func29, Tryz.ntmps29
      go_wp2
      go_ret
      exact ⟨ret_int (by omega), rfl⟩
    · have ht : (y - 399).tdiv 400 = E := by
        obtain ⟨k, hk⟩ : ∃ k : Nat, y - 399 = -(k : Int) := ⟨(399 - y).toNat, by omega⟩
        have := tdiv_neg k 400
        rw [hk]
        rw [show (400 : Int) = ((400 : Nat) : Int) from rfl, this]
        omega
      clear hE
      go_enter Tryz.func29, Tryz.ntmps29
      go_wp2
      go_ret
      exact ⟨ret_int (by omega), rfl⟩

set_option maxHeartbeats 1600000 in
theorem civ_any (z : Int) (h0 : -109951162777600 ≤ z) (h1 : z ≤ 109951162777600) (w : World) :
    Calls Tryz.prog 30 #[.int .i64 z] w fun e w' => e = .returned (.tuple #[.int .i64 (civY z), .int .i64 (civMo z), .int .i64 (civD z)]) ∧ w = w' := by
  obtain ⟨era, Y, hY0, hY1, hd0, hd1, hA, hlt, hg1, hcen, hcy⟩ := parts (z + 106751991073400)
  obtain ⟨hy, hdy⟩ := yoe_of Y _ hY0 hY1 hd0 hlt
  have hst : 0 ≤ startY Y := by unfold startY; omega
  have hend : startY Y + gYd (z + 106751991073400) < 146097 := by
    have : startY (Y + 1) + (if Y = 399 then 1 else 0) ≤ 146097 := by
      unfold startY
      by_cases h : Y = 399
      · rw [if_pos h]; omega
      · rw [if_neg h]; omega
    omega
  obtain ⟨D, hD⟩ : ∃ D, (z + 719468) % 146097 = D := ⟨_, rfl⟩
  obtain ⟨E, hE⟩ : ∃ E, (z + 719468) / 146097 = E := ⟨_, rfl⟩
  have hDe : D = startY Y + gYd (z + 106751991073400) := by omega
  rw [← hDe] at hy hdy
  generalize gYd (z + 106751991073400) = yd at hd0 hd1 hdy hend hlt hDe hA
  obtain ⟨q, hq⟩ : ∃ q, (5 * yd + 2) / 153 = q := ⟨_, rfl⟩
  have hqb : 0 ≤ q ∧ q ≤ 11 := by omega
  have hmp : mpOf D = q := by unfold mpOf; rw [hdy, hq]
  have r1 : civY z = if civM q ≤ 2 then Y + E * 400 + 1 else Y + E * 400 := by unfold civY; rw [hD, hE, hmp, hy]
  have r2 : civMo z = civM q := by unfold civMo; rw [hD, hmp]
  have r3 : civD z = yd - (153 * q + 2) / 5 + 1 := by unfold civD; rw [hD, hmp, hdy]
  rw [r1, r2, r3]
  have y1 : (D - D / 1460 + D / 36524 - D / 146096) / 365 = Y := hy
  have y2 : D - (365 * Y + Y / 4 - Y / 100) = yd := by
    have := hdy
    unfold doyOf at this
    rw [hy] at this
    exact this
  have y3 : z + 719468 - E * 146097 = D := by omega
  have hDb : 0 ≤ D ∧ D < 146097 := by omega
  have hEb : -1000000000 ≤ E ∧ E ≤ 1000000000 := by omega
  have hbb : (153 * q + 2) / 5 ≤ yd := by omega
  clear r1 r2 r3 hmp hdy hy hst hend hlt hDe hA hcen hcy hg1 hD
  unfold civM
  by_cases hn : 0 ≤ z + 719468
  · have hE' : (z + 719468) / 146097 = E := hE
    clear hE
    by_cases h10 : q < 10
    · rw [if_pos h10, if_neg (show ¬ q + 3 ≤ 2 by omega)]
      have h12 : ¬ q + 3 ≤ 2 := by omega
      go_enter Tryz.func30, Tryz.ntmps30
      go_wp2
      go_ret3
      exact ⟨ret_three (by omega) (by omega) (by omega), rfl⟩
    · rw [if_neg h10, if_pos (show q - 9 ≤ 2 by omega)]
      have h12 : q - 9 ≤ 2 := by omega
      go_enter Tryz.func30, Tryz.ntmps30
      go_wp2
      go_ret3
      exact ⟨ret_three (by omega) (by omega) (by omega), rfl⟩
  · have ht : (z + 719468 - 146096).tdiv 146097 = E := by
      obtain ⟨k, hk⟩ : ∃ k : Nat, z + 719468 - 146096 = -(k : Int) := ⟨(146096 - (z + 719468)).toNat, by omega⟩
      have := tdiv_neg k 146097
      rw [hk]
      rw [show (146097 : Int) = ((146097 : Nat) : Int) from rfl, this]
      omega
    clear hE
    by_cases h10 : q < 10
    · rw [if_pos h10, if_neg (show ¬ q + 3 ≤ 2 by omega)]
      have h12 : ¬ q + 3 ≤ 2 := by omega
      go_enter Tryz.func30, Tryz.ntmps30
      go_wp2
      go_ret3
      exact ⟨ret_three (by omega) (by omega) (by omega), rfl⟩
    · rw [if_neg h10, if_pos (show q - 9 ≤ 2 by omega)]
      have h12 : q - 9 ≤ 2 := by omega
      go_enter Tryz.func30, Tryz.ntmps30
      go_wp2
      go_ret3
      exact ⟨ret_three (by omega) (by omega) (by omega), rfl⟩

/-- Unix seconds of a broken-down time, each field of whatever size. -/
def unixOf (y mo d h mi s : Int) : Int := (dfc (y + mo / 12) (mo % 12 + 1) 1 + d - 1) * 86400 + h * 3600 + mi * 60 + s
theorem dfc_bound (y m : Int) (h0 : -2147483648 ≤ y) (h1 : y ≤ 2147483648) (hm0 : 1 ≤ m) (hm1 : m ≤ 12) : -1099511627776 ≤ dfc y m 1 ∧ dfc y m 1 ≤ 1099511627776 := by
  unfold dfc
  by_cases h : m ≤ 2
  · rw [if_pos h, if_neg (show ¬ 2 < m by omega)]
    omega
  · rw [if_neg h, if_pos (show 2 < m by omega)]
    omega
set_option maxHeartbeats 1600000 in
theorem unixOf_any (y mo d h mi s : Int) (hy0 : -1073741824 ≤ y) (hy1 : y ≤ 1073741824) (ho0 : -131072 ≤ mo) (ho1 : mo ≤ 131072) (hd0 : -131072 ≤ d) (hd1 : d ≤ 131072) (hh0 : -131072 ≤ h) (hh1 : h ≤ 131072) (hi0 : -131072 ≤ mi) (hi1 : mi ≤ 131072) (hs0 : -131072 ≤ s) (hs1 : s ≤ 131072) (w : World) :
    Calls Tryz.prog 21 #[.int .i64 y, .int .i64 mo, .int .i64 d, .int .i64 h, .int .i64 mi, .int .i64 s] w fun e w' => e = .returned (.int .i64 (unixOf y mo d h mi s)) ∧ w = w' := by
  have H1 := Lib.hid (fun w => zfdiv12 mo (by omega) (by omega) w)
  have H2 := Lib.hid (fun w => zfmod12 mo (by omega) (by omega) w)
  have H3 := Lib.hid (fun w => dfc_any (y + mo / 12) (mo % 12 + 1) (by omega) (by omega) (by omega) (by omega) w)
  have hb := dfc_bound (y + mo / 12) (mo % 12 + 1) (by omega) (by omega) (by omega) (by omega)
  unfold unixOf
  obtain ⟨t, ht⟩ : ∃ t, mo / 12 = t := ⟨_, rfl⟩
  obtain ⟨r, hr⟩ : ∃ r, mo % 12 = r := ⟨_, rfl⟩
  have htb : -131072 ≤ t ∧ t ≤ 131072 ∧ 0 ≤ r ∧ r < 12 := by omega
  rw [ht] at H1 H3 hb ⊢
  rw [hr] at H2 H3 hb ⊢
  generalize dfc (y + t) (r + 1) 1 = c at H3 hb ⊢
  clear ht hr
  go_enter Tryz.func21, Tryz.ntmps21
  go_wp2_with fail
  refine (H1.out _).mono ?_
  rintro e w1 ⟨rfl, rfl⟩
  go_wp2_with fail
  refine (H2.out _).mono ?_
  rintro e w2 ⟨rfl, rfl⟩
  go_wp2_with fail
  refine (H3.out _).mono ?_
  rintro e w3 ⟨rfl, rfl⟩
  go_wp2_with fail
  go_ret
  exact ⟨ret_int (by omega), rfl⟩

/-- The fields of a unix second. -/
def fieldsV (u : Int) : Value := .tuple #[.int .i64 (civY (u / 86400)), .int .i64 (civMo (u / 86400) - 1), .int .i64 (civD (u / 86400)), .int .i64 (u % 86400 / 3600), .int .i64 (u % 3600 / 60), .int .i64 (u % 60), .int .i64 ((u / 86400 + 4) % 7), .int .i64 (u / 86400 - dfc (civY (u / 86400)) 1 1)]
theorem civ_bound (z : Int) (h0 : -109951162777600 ≤ z) (h1 : z ≤ 109951162777600) : -1099511627776 ≤ civY z ∧ civY z ≤ 1099511627776 ∧ 1 ≤ civMo z ∧ civMo z ≤ 12 := by
  obtain ⟨era, Y, hY0, hY1, hd0, hd1, hA, hlt, hg1, hcen, hcy⟩ := parts (z + 106751991073400)
  obtain ⟨c1, c2, _⟩ := calendar (z + 106751991073400) z rfl
  have hj : gJf (z + 106751991073400) = 0 ∨ gJf (z + 106751991073400) = 1 := by unfold gJf; split <;> omega
  obtain ⟨m1, m2, m3⟩ := months _ hd0 hd1
  have hst : 0 ≤ startY Y ∧ startY Y ≤ 146097 := by unfold startY; omega
  have hy : gY (z + 106751991073400) = 400 * era + Y - 292277022400 + gJf (z + 106751991073400) := by unfold gY; omega
  have hm : gM (z + 106751991073400) = (5 * gYd (z + 106751991073400) + 2) / 153 + 3 - 12 * gJf (z + 106751991073400) := by unfold gM; rw [m1]
  have hq : gJf (z + 106751991073400) = if 10 ≤ (5 * gYd (z + 106751991073400) + 2) / 153 then 1 else 0 := by
    unfold gJf
    by_cases h : 306 ≤ gYd (z + 106751991073400)
    · rw [if_pos h, if_pos (m3.1 h)]
    · rw [if_neg h, if_neg (fun h' => h (m3.2 h'))]
  rw [c1, c2, hy, hm]
  refine ⟨by omega, by omega, ?_, ?_⟩
  · rw [hq]; split <;> omega
  · rw [hq]; split <;> omega
set_option maxHeartbeats 1600000 in
theorem fields_any (u : Int) (h0 : -8796093022208 ≤ u) (h1 : u ≤ 8796093022208) (w : World) :
    Calls Tryz.prog 22 #[.int .i64 u] w fun e w' => e = .returned (fieldsV u) ∧ w = w' := by
  obtain ⟨z, hz⟩ : ∃ z, u / 86400 = z := ⟨_, rfl⟩
  have hzb : -101806633 ≤ z ∧ z ≤ 101806633 ∧ 0 ≤ u - z * 86400 ∧ u - z * 86400 < 86400 := by omega
  obtain ⟨b1, b2, b3, b4⟩ := civ_bound z (by omega) (by omega)
  have H1 := Lib.hid (fun w => zfdiv86400 u (by omega) (by omega) w)
  have H2 := Lib.hid (fun w => civ_any z (by omega) (by omega) w)
  have H3 := Lib.hid (fun w => zfmod7 (z + 4) (by omega) (by omega) w)
  have H4 := Lib.hid (fun w => dfc_any (civY z) 1 b1 b2 (by omega) (by omega) w)
  have r1 : u % 86400 / 3600 = (u - z * 86400) / 3600 := by omega
  have r2 : u % 3600 / 60 = (u - z * 86400) % 3600 / 60 := by omega
  have r3 : u % 60 = (u - z * 86400) % 60 := by omega
  have hc : -219902325555200 ≤ dfc (civY z) 1 1 ∧ dfc (civY z) 1 1 ≤ 219902325555200 ∧ -219902325555200 ≤ civD z ∧ civD z ≤ 219902325555200 := by
    obtain ⟨c1, c2, c3, c4, c5, c6⟩ := calendar (z + 106751991073400) z rfl
    have k1 : gYday (z + 106751991073400) ≤ 800 ∧ -800 ≤ gYday (z + 106751991073400) := by
      have hg := (gbounds (z + 106751991073400) (by omega))
      have hl : gLeap (z + 106751991073400) = 0 ∨ gLeap (z + 106751991073400) = 1 := by unfold gLeap; split <;> omega
      have hj : gJf (z + 106751991073400) = 0 ∨ gJf (z + 106751991073400) = 1 := by unfold gJf; split <;> omega
      unfold gYday
      split <;> omega
    have k2 : 0 ≤ gD (z + 106751991073400) ∧ gD (z + 106751991073400) ≤ 100 := by unfold gD; omega
    rw [c1, c3]
    omega
  unfold fieldsV
  rw [hz] at H1 ⊢
  rw [r1, r2, r3]
  generalize civY z = cy at b1 b2 H2 H4 hc ⊢
  generalize civMo z = cm at b3 b4 H2 ⊢
  generalize civD z = cd at H2 hc ⊢
  generalize dfc cy 1 1 = c0 at H4 hc ⊢
  generalize hwd : (z + 4) % 7 = wd at H3 ⊢
  clear r1 r2 r3 hz hwd
  go_enter Tryz.func22, Tryz.ntmps22
  go_wp2_with fail
  refine (H1.out _).mono ?_
  rintro e w1 ⟨rfl, rfl⟩
  go_wp2_with fail
  refine (H2.out _).mono ?_
  rintro e w2 ⟨rfl, rfl⟩
  go_wp2_with fail
  first
    | (refine (H3.out _).mono ?_
       rintro e w3 ⟨rfl, rfl⟩
       go_wp2_with fail
       refine (H4.out _).mono ?_
       rintro e w4 ⟨rfl, rfl⟩)
    | (refine (H4.out _).mono ?_
       rintro e w3 ⟨rfl, rfl⟩
       go_wp2_with fail
       refine (H3.out _).mono ?_
       rintro e w4 ⟨rfl, rfl⟩)
  go_wp2_with fail
  exact bodyPost_ret (by simp [results, Tryz.results22, go_sem]) rfl ⟨rfl, rfl⟩
end Go.Proofs.YtmbegjbhmeihiaaGreatDoor
