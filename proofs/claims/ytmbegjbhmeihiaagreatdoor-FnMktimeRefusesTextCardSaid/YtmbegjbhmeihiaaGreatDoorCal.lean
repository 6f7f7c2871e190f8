/-
  The calendar: the library's days counted from a far March and the laws' own civil count agree. No program in this text.
-/
import Derived.KernelRfl
namespace Go.Proofs.YtmbegjbhmeihiaaGreatDoor
set_option linter.unusedVariables false
set_option linter.unusedSimpArgs false

/-- Days of the unix count, of a civil date. -/
def dfc (y m d : Int) : Int :=
  ((if m ≤ 2 then y - 1 else y) / 400) * 146097 + (((if m ≤ 2 then y - 1 else y) % 400) * 365 + ((if m ≤ 2 then y - 1 else y) % 400) / 4 - ((if m ≤ 2 then y - 1 else y) % 400) / 100 + ((153 * (if 2 < m then m - 3 else m + 9) + 2) / 5 + d - 1)) - 719468
/-- Years of the era, of a day of the era. -/
def yoeOf (doe : Int) : Int := (doe - doe / 1460 + doe / 36524 - doe / 146096) / 365
def doyOf (doe : Int) : Int := doe - (365 * yoeOf doe + yoeOf doe / 4 - yoeOf doe / 100)
def mpOf (doe : Int) : Int := (5 * doyOf doe + 2) / 153
def civM (mp : Int) : Int := if mp < 10 then mp + 3 else mp - 9
/-- The civil date of a day of the unix count. -/
def civY (z : Int) : Int := if civM (mpOf ((z + 719468) % 146097)) ≤ 2 then yoeOf ((z + 719468) % 146097) + (z + 719468) / 146097 * 400 + 1 else yoeOf ((z + 719468) % 146097) + (z + 719468) / 146097 * 400
def civMo (z : Int) : Int := civM (mpOf ((z + 719468) % 146097))
def civD (z : Int) : Int := doyOf ((z + 719468) % 146097) - (153 * mpOf ((z + 719468) % 146097) + 2) / 5 + 1

/-- The library's parts of an absolute day. -/
def gCen (A : Int) : Int := (4 * A + 3) / 146097
def gCd (A : Int) : Int := (4 * A + 3) % 146097 / 4
def gCy (A : Int) : Int := (4 * gCd A + 3) / 1461
def gYd (A : Int) : Int := (4 * gCd A + 3) % 1461 / 4
def gJf (A : Int) : Int := if 306 ≤ gYd A then 1 else 0
def gM (A : Int) : Int := (2141 * gYd A + 197913) / 65536 - 12 * gJf A
def gD (A : Int) : Int := 1 + (2141 * gYd A + 197913) % 65536 / 2141
def gY (A : Int) : Int := gCen A * 100 - 292277022400 + gCy A + gJf A
def gLeap (A : Int) : Int := if gCy A % 4 = 0 ∧ (gCy A ≠ 0 ∨ gCen A % 4 = 0) then 1 else 0
def gYday (A : Int) : Int := gYd A + 60 + (if gJf A = 0 then gLeap A else 0) - 365 * gJf A

theorem months_all : ((List.range 366).all fun n => decide ((2141 * (n : Int) + 197913) / 65536 = (5 * (n : Int) + 2) / 153 + 3) && decide (1 + (2141 * (n : Int) + 197913) % 65536 / 2141 = (n : Int) - (153 * ((5 * (n : Int) + 2) / 153) + 2) / 5 + 1) && (decide (306 ≤ (n : Int)) == decide (10 ≤ (5 * (n : Int) + 2) / 153))) = true := by kernel_rfl
theorem months (n : Int) (h0 : 0 ≤ n) (h : n < 366) : (2141 * n + 197913) / 65536 = (5 * n + 2) / 153 + 3 ∧ 1 + (2141 * n + 197913) % 65536 / 2141 = n - (153 * ((5 * n + 2) / 153) + 2) / 5 + 1 ∧ (306 ≤ n ↔ 10 ≤ (5 * n + 2) / 153) := by
  obtain ⟨k, rfl⟩ : ∃ k : Nat, n = k := ⟨n.toNat, by omega⟩
  have hs := List.all_eq_true.1 months_all k (List.mem_range.2 (by omega))
  simp only [Bool.and_eq_true, decide_eq_true_eq, beq_iff_eq, decide_eq_decide] at hs
  exact ⟨hs.1.1, hs.1.2, hs.2⟩
theorem mono1 (a b k : Int) (hk : 1 ≤ k) (h : a ≤ b) : a / k ≤ b / k := Int.ediv_le_ediv (by omega) h

def startY (Y : Int) : Int := 365 * Y + Y / 4 - Y / 100
def nOf (doe : Int) : Int := doe - doe / 1460 + doe / 36524 - doe / 146096
theorem starts_all : ((List.range 400).all fun Y => decide (365 * (Y : Int) ≤ nOf (startY Y)) && decide (nOf (startY (Y + 1) - 1 + (if Y = 399 then 1 else 0)) < 365 * ((Y : Int) + 1))) = true := by kernel_rfl
theorem nOf_mono (a b : Int) (h0 : 0 ≤ a) (h : a ≤ b) (hb : b ≤ 146096) : nOf a ≤ nOf b := by
  unfold nOf
  have h1 := mono1 a b 36524 (by omega) h
  have h2 : b / 1460 - a / 1460 ≤ b - a := by omega
  rcases Int.lt_or_le b 146096 with h3 | h3
  · have e1 : a / 146096 = 0 := by omega
    have e2 : b / 146096 = 0 := by omega
    omega
  · obtain rfl : b = 146096 := by omega
    rcases Int.lt_or_le a 146096 with h4 | h4
    · have e1 : a / 146096 = 0 := by omega
      have e2 : a / 36524 ≤ 3 := by omega
      omega
    · obtain rfl : a = 146096 := by omega
      exact Int.le_refl _
/-- A day of the era by its year of the era and its day of that year. -/
theorem yoe_of (Y yd : Int) (h0 : 0 ≤ Y) (h1 : Y < 400) (hd0 : 0 ≤ yd) (hd : startY Y + yd < startY (Y + 1) + (if Y = 399 then 1 else 0)) : yoeOf (startY Y + yd) = Y ∧ doyOf (startY Y + yd) = yd := by
  obtain ⟨n, rfl⟩ : ∃ n : Nat, Y = n := ⟨Y.toNat, by omega⟩
  have hs := List.all_eq_true.1 starts_all n (List.mem_range.2 (by omega))
  simp only [Bool.and_eq_true, decide_eq_true_eq] at hs
  have hc : (if n = 399 then (1 : Int) else 0) = (if (n : Int) = 399 then 1 else 0) := by
    by_cases h : n = 399
    · rw [if_pos h, if_pos (by omega)]
    · rw [if_neg h, if_neg (by omega)]
  rw [hc] at hs
  have hb : 0 ≤ startY n := by unfold startY; omega
  have ht : startY (n + 1) + (if (n : Int) = 399 then 1 else 0) ≤ 146097 := by
    unfold startY
    by_cases h : (n : Int) = 399
    · rw [if_pos h]; omega
    · rw [if_neg h]; omega
  have m1 := nOf_mono (startY n) (startY n + yd) hb (by omega) (by omega)
  have m2 := nOf_mono (startY n + yd) (startY (n + 1) - 1 + (if (n : Int) = 399 then 1 else 0)) (by omega) (by omega) (by omega)
  have e : yoeOf (startY n + yd) = n := by
    show nOf (startY n + yd) / 365 = n
    omega
  refine ⟨e, ?_⟩
  unfold doyOf
  rw [e]
  unfold startY
  omega

/-- The days of a date as the library counts them. -/
theorem abs_days (y' : Int) : 146097 * (y' / 100) / 4 + 1461 * (y' % 100) / 4 = y' / 400 * 146097 + (y' % 400 * 365 + y' % 400 / 4 - y' % 400 / 100) := by
  obtain ⟨era, he⟩ : ∃ era, y' / 400 = era := ⟨_, rfl⟩
  obtain ⟨Y, hY⟩ : ∃ Y, y' % 400 = Y := ⟨_, rfl⟩
  have hy : y' = 400 * era + Y := by omega
  have hb : 0 ≤ Y ∧ Y < 400 := by omega
  obtain ⟨t, ht⟩ : ∃ t, Y / 100 = t := ⟨_, rfl⟩
  obtain ⟨cy, hcy⟩ : ∃ cy, Y % 100 = cy := ⟨_, rfl⟩
  have hYt : Y = 100 * t + cy := by omega
  have e1 : y' / 100 = 4 * era + t := by omega
  have e2 : y' % 100 = cy := by omega
  have ht4 : t = 0 ∨ t = 1 ∨ t = 2 ∨ t = 3 := by omega
  rw [he, hY, e1, e2, ht]
  clear he hY e1 e2
  subst hYt
  clear ht hcy hy
  have e3 : (100 * t + cy) / 4 = 25 * t + cy / 4 := by omega
  have e4 : 1461 * cy / 4 = 365 * cy + cy / 4 := by omega
  rw [e3, e4]
  have e5 : 146097 * (4 * era + t) / 4 = 146097 * era + 36524 * t := by
    rcases ht4 with rfl | rfl | rfl | rfl <;> omega
  rw [e5]
  omega

/-- The parts of an absolute day, over era and day of the era. -/
theorem parts (A : Int) : ∃ era Y : Int, 0 ≤ Y ∧ Y < 400 ∧ 0 ≤ gYd A ∧ gYd A < 366 ∧ A = 146097 * era + startY Y + gYd A ∧ startY Y + gYd A < startY (Y + 1) + (if Y = 399 then 1 else 0) ∧ gCen A * 100 + gCy A = 400 * era + Y ∧ gCen A = 4 * era + Y / 100 ∧ gCy A = Y % 100 := by
  obtain ⟨era, he⟩ : ∃ era, A / 146097 = era := ⟨_, rfl⟩
  obtain ⟨doe, hdoe⟩ : ∃ doe, A % 146097 = doe := ⟨_, rfl⟩
  have hA : A = 146097 * era + doe := by omega
  have hd0 : 0 ≤ doe ∧ doe < 146097 := by omega
  clear he hdoe
  obtain ⟨cc, hcc⟩ : ∃ cc, (4 * doe + 3) / 146097 = cc := ⟨_, rfl⟩
  have hcb : 146097 * cc ≤ 4 * doe + 3 ∧ 4 * doe + 3 < 146097 * cc + 146097 := by omega
  have hc4 : cc = 0 ∨ cc = 1 ∨ cc = 2 ∨ cc = 3 := by omega
  clear hcc
  have hr : (4 * A + 3) % 146097 = 4 * doe + 3 - 146097 * cc := by omega
  have hc : gCen A = 4 * era + cc := by unfold gCen; omega
  obtain ⟨c, hcd⟩ : ∃ c, gCd A = c := ⟨_, rfl⟩
  have hcv : c = doe - 36524 * cc := by
    rw [← hcd]
    unfold gCd
    rw [hr]
    rcases hc4 with rfl | rfl | rfl | rfl <;> omega
  have hy : gCy A = (4 * c + 3) / 1461 := by unfold gCy; rw [hcd]
  have hyd : gYd A = (4 * c + 3) % 1461 / 4 := by unfold gYd; rw [hcd]
  clear hcd hr
  have hcr : 0 ≤ c ∧ 4 * c ≤ 146093 + cc := by
    rcases hc4 with rfl | rfl | rfl | rfl <;> omega
  obtain ⟨cy, hcy⟩ : ∃ cy, (4 * c + 3) / 1461 = cy := ⟨_, rfl⟩
  have hcyb : 1461 * cy ≤ 4 * c + 3 ∧ 4 * c + 3 < 1461 * cy + 1461 := by omega
  have hcy9 : 0 ≤ cy ∧ cy ≤ 99 := by omega
  have hr2 : (4 * c + 3) % 1461 = 4 * c + 3 - 1461 * cy := by omega
  obtain ⟨f, hf⟩ : ∃ f, cy / 4 = f := ⟨_, rfl⟩
  have hfb : 4 * f ≤ cy ∧ cy ≤ 4 * f + 3 := by omega
  have hyd2 : gYd A = c - 365 * cy - f := by rw [hyd, hr2]; omega
  rw [hcy] at hy
  clear hcy hyd hr2
  obtain ⟨yd, hydd⟩ : ∃ yd, gYd A = yd := ⟨_, rfl⟩
  rw [hydd] at hyd2
  rw [hydd, hc, hy]
  clear hydd hc hy
  have s4 : (100 * cc + cy) / 4 = 25 * cc + f := by omega
  have s100 : (100 * cc + cy) / 100 = cc := by omega
  have hst : startY (100 * cc + cy) = 36524 * cc + 365 * cy + f := by unfold startY; rw [s4, s100]; omega
  refine ⟨era, 100 * cc + cy, by omega, by omega, by omega, by omega, by rw [hst]; omega, ?_, by omega, by omega, by omega⟩
  rw [hst]
  unfold startY
  by_cases h9 : cy = 99
  · subst h9
    have hf24 : f = 24 := by omega
    subst hf24
    rcases hc4 with rfl | rfl | rfl | rfl
    · rw [if_neg (by omega)]; omega
    · rw [if_neg (by omega)]; omega
    · rw [if_neg (by omega)]; omega
    · rw [if_pos (by omega)]; omega
  · have t100 : (100 * cc + cy + 1) / 100 = cc := by omega
    obtain ⟨g, hg⟩ : ∃ g, (cy + 1) / 4 = g := ⟨_, rfl⟩
    have t4 : (100 * cc + cy + 1) / 4 = 25 * cc + g := by omega
    rw [t100, t4, if_neg (by omega)]
    omega

theorem dfc_late (E Y m d : Int) (h0 : 0 ≤ Y) (h1 : Y < 400) (hm : 2 < m) : dfc (400 * E + Y) m d = E * 146097 + (startY Y + ((153 * (m - 3) + 2) / 5 + d - 1)) - 719468 := by
  have e1 : (400 * E + Y) / 400 = E := by omega
  have e2 : (400 * E + Y) % 400 = Y := by omega
  unfold dfc startY
  rw [if_neg (show ¬ m ≤ 2 by omega), if_pos hm, e1, e2]
  omega
theorem dfc_early (E Y m d : Int) (h0 : 0 ≤ Y) (h1 : Y < 400) (hm : m ≤ 2) : dfc (400 * E + Y + 1) m d = E * 146097 + (startY Y + ((153 * (m + 9) + 2) / 5 + d - 1)) - 719468 := by
  have e0 : 400 * E + Y + 1 - 1 = 400 * E + Y := by omega
  have e1 : (400 * E + Y) / 400 = E := by omega
  have e2 : (400 * E + Y) % 400 = Y := by omega
  unfold dfc startY
  rw [if_pos hm, if_neg (show ¬ 2 < m by omega), e0, e1, e2]
  omega

/-- THE PLAIN LAW: an absolute day, as the library dates it and as the laws' own count does. -/
theorem calendar (A z : Int) (hz : A = z + 106751991073400) : civY z = gY A ∧ civMo z = gM A ∧ civD z = gD A ∧ dfc (gY A) (gM A) 1 + gD A - 1 = z ∧ z - dfc (gY A) 1 1 = gYday A - 1 ∧ (z + 4) % 7 = (A + 3) % 7 := by
  obtain ⟨era, Y, hY0, hY1, hd0, hd1, hA, hlt, h1, hcen, hcy⟩ := parts A
  obtain ⟨hy, hdy⟩ := yoe_of Y (gYd A) hY0 hY1 hd0 hlt
  obtain ⟨m1, m2, m3⟩ := months (gYd A) hd0 hd1
  have hend : startY Y + gYd A < 146097 := by
    have : startY (Y + 1) + (if Y = 399 then 1 else 0) ≤ 146097 := by
      unfold startY
      by_cases h : Y = 399
      · rw [if_pos h]; omega
      · rw [if_neg h]; omega
    omega
  have hst : 0 ≤ startY Y := by unfold startY; omega
  obtain ⟨E, hE⟩ : ∃ E, era - 730692556 = E := ⟨_, rfl⟩
  obtain ⟨S, hS⟩ : ∃ S, startY Y = S := ⟨_, rfl⟩
  obtain ⟨yd, hyd⟩ : ∃ yd, gYd A = yd := ⟨_, rfl⟩
  obtain ⟨q, hq⟩ : ∃ q, (5 * yd + 2) / 153 = q := ⟨_, rfl⟩
  rw [hyd] at hd0 hd1 hA hlt hy hdy hend m1 m2 m3
  rw [hq] at m1 m2 m3
  have hq11 : 0 ≤ q ∧ q ≤ 11 := by omega
  have hmp : mpOf (startY Y + yd) = q := by unfold mpOf; rw [hdy, hq]
  have e1 : (z + 719468) % 146097 = startY Y + yd := by rw [hS] at hA hend hst ⊢; omega
  have e2 : (z + 719468) / 146097 = E := by rw [hS] at hA hend hst; omega
  have hgY : gY A = 400 * E + Y + gJf A := by unfold gY; omega
  have hgD : gD A = yd - (153 * q + 2) / 5 + 1 := by unfold gD; rw [hyd]; exact m2
  have hgM : gM A = q + 3 - 12 * gJf A := by unfold gM; rw [hyd, m1]
  have hgJ : gJf A = if 10 ≤ q then 1 else 0 := by
    unfold gJf
    rw [hyd]
    by_cases h : 306 ≤ yd
    · rw [if_pos h, if_pos (m3.1 h)]
    · rw [if_neg h, if_neg (fun h' => h (m3.2 h'))]
  have hlp : gLeap A = if Y % 100 % 4 = 0 ∧ (Y % 100 ≠ 0 ∨ Y / 100 = 0) then 1 else 0 := by
    unfold gLeap
    rw [hcy, hcen]
    have e : (4 * era + Y / 100) % 4 = Y / 100 := by omega
    rw [e]
  have hg : gYday A = yd + 60 + (if gJf A = 0 then gLeap A else 0) - 365 * gJf A := by unfold gYday; rw [hyd]
  have hz2 : z = E * 146097 + S + yd - 719468 := by rw [hS] at hA; omega
  refine ⟨?_, ?_, ?_, ?_, ?_, by omega⟩
  · unfold civY
    rw [e1, e2, hmp, hy, hgY, hgJ]
    unfold civM
    by_cases h : 10 ≤ q
    · rw [if_pos h, if_neg (show ¬ q < 10 by omega), if_pos (show q - 9 ≤ 2 by omega)]; omega
    · rw [if_neg h, if_pos (show q < 10 by omega), if_neg (show ¬ q + 3 ≤ 2 by omega)]; omega
  · unfold civMo
    rw [e1, hmp, hgM, hgJ]
    unfold civM
    by_cases h : 10 ≤ q
    · rw [if_pos h, if_neg (show ¬ q < 10 by omega)]; omega
    · rw [if_neg h, if_pos (show q < 10 by omega)]; omega
  · unfold civD
    rw [e1, hmp, hdy, hgD]
  · rw [hgY, hgM, hgD, hgJ]
    by_cases h : 10 ≤ q
    · rw [if_pos h, dfc_early E Y _ 1 hY0 hY1 (by omega), hS, show q + 3 - 12 * 1 + 9 = q by omega]
      omega
    · rw [if_neg h, show 400 * E + Y + 0 = 400 * E + Y by omega, dfc_late E Y _ 1 hY0 hY1 (by omega), hS, show q + 3 - 12 * 0 - 3 = q by omega]
      omega
  · rw [hg, hgY, hgJ, hlp]
    by_cases h : 10 ≤ q
    · rw [if_pos h, dfc_early E Y 1 1 hY0 hY1 (by omega), hS, if_neg (show ¬ (1 : Int) = 0 by omega)]
      omega
    · rw [if_neg h, if_pos (show (0 : Int) = 0 from rfl)]
      by_cases h0 : Y = 0
      · subst h0
        have hS0 : S = 0 := by rw [← hS]; rfl
        have h399 : startY 399 = 145731 := rfl
        rw [if_pos ⟨by omega, Or.inr (by omega)⟩, show 400 * E + 0 + 0 = 400 * (E - 1) + 399 + 1 by omega, dfc_early (E - 1) 399 1 1 (by omega) (by omega) (by omega), h399]
        omega
      · have hSm : S - startY (Y - 1) = 365 + (Y / 4 - (Y - 1) / 4) - (Y / 100 - (Y - 1) / 100) := by rw [← hS]; unfold startY; omega
        rw [show 400 * E + Y + 0 = 400 * E + (Y - 1) + 1 by omega, dfc_early E (Y - 1) 1 1 (by omega) (by omega) (by omega)]
        by_cases h4 : Y % 100 % 4 = 0 ∧ (Y % 100 ≠ 0 ∨ Y / 100 = 0)
        · rw [if_pos h4]
          have : Y / 4 - (Y - 1) / 4 = 1 := by omega
          have : Y / 100 - (Y - 1) / 100 = 0 := by omega
          omega
        · rw [if_neg h4]
          have : Y / 4 - (Y - 1) / 4 = Y / 100 - (Y - 1) / 100 := by
            by_cases h5 : Y % 100 = 0
            · omega
            · have : Y % 4 ≠ 0 := by omega
              omega
          omega
/-- The days of a date as the library counts them, month and year brought into their ranges, and the laws' own count. -/
theorem date_days (y m : Int) (hm1 : 1 ≤ m) (hm2 : m ≤ 12) :
    146097 * (((if m < 3 then y - 1 else y) + 292277022400) / 100) / 4 + (1461 * (((if m < 3 then y - 1 else y) + 292277022400) % 100) / 4 + (979 * (if m < 3 then m + 12 else m) - 2919) / 32) = dfc y m 1 + 106751991073400 := by
  have key : ∀ y' : Int, 146097 * ((y' + 292277022400) / 100) / 4 + 1461 * ((y' + 292277022400) % 100) / 4 = y' / 400 * 146097 + (y' % 400 * 365 + y' % 400 / 4 - y' % 400 / 100) + 106751990353932 := fun y' => by
    have e1 : (y' + 292277022400) / 400 = y' / 400 + 730692556 := by omega
    have e2 : (y' + 292277022400) % 400 = y' % 400 := by omega
    rw [abs_days, e1, e2]
    omega
  unfold dfc
  by_cases h : m < 3
  · have k := key (y - 1)
    have e : (979 * (m + 12) - 2919) / 32 = (153 * (m + 9) + 2) / 5 := by
      have : m = 1 ∨ m = 2 := by omega
      rcases this with rfl | rfl <;> rfl
    rw [if_pos h, if_pos h, if_pos (show m ≤ 2 by omega), if_neg (show ¬ 2 < m by omega), e]
    omega
  · have k := key y
    have e : (979 * m - 2919) / 32 = (153 * (m - 3) + 2) / 5 := by
      have : m = 3 ∨ m = 4 ∨ m = 5 ∨ m = 6 ∨ m = 7 ∨ m = 8 ∨ m = 9 ∨ m = 10 ∨ m = 11 ∨ m = 12 := by omega
      rcases this with rfl | rfl | rfl | rfl | rfl | rfl | rfl | rfl | rfl | rfl <;> rfl
    rw [if_neg h, if_neg h, if_neg (show ¬ m ≤ 2 by omega), if_pos (show 2 < m by omega), e]
    omega
end Go.Proofs.YtmbegjbhmeihiaaGreatDoor
