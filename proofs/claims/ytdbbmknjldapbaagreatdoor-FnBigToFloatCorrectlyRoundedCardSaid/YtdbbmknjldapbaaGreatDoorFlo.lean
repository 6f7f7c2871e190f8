/-
  Multiples of 1/512 as float64: exact sums, differences, products, quotients, comparisons and conversions. No program in this text.
-/
import Derived.Laws.FloatArith
namespace Go.Proofs.YtdbbmknjldapbaaGreatDoor
set_option linter.unusedVariables false
set_option linter.unusedSimpArgs false
open Ieee

theorem dbl_least : double.leastPlace = -1074 := by decide
theorem dbl_binade : double.binade = 4503599627370496 := by decide
theorem dbl_inf : double.infRung = 9218868437227405312 := by decide
theorem dbl_sign : double.signWeight = 9223372036854775808 := by decide

theorem cut_exact (s : Bool) (q d : Nat) (hq : 0 < q) : Toward.even.cut s (q * 2 ^ d) d = q := by
  have hp := Nat.two_pow_pos d
  have hn : q * 2 ^ d ≠ 0 := Nat.ne_of_gt (Nat.mul_pos hq hp)
  have hle : d ≤ (q * 2 ^ d).log2 + 2 := by
    have : d ≤ (q * 2 ^ d).log2 := (Nat.le_log2 hn).2 (Nat.le_mul_of_pos_left _ hq)
    omega
  have hg : 1 <<< d = 2 ^ d := by rw [Nat.shiftLeft_eq, Nat.one_mul]
  have h0 : (2 ^ d == 0) = false := by rw [beq_eq_false_iff_ne]; omega
  unfold Toward.cut
  simp only [Nat.min_eq_left hle, hg, Nat.mul_div_cancel _ hp, Nat.mul_mod_left, Nat.mul_zero, Nat.not_lt_zero, decide_false, Bool.false_or, h0, Bool.false_and, Bool.toNat_false, Nat.add_zero]
theorem log2_shift (a j l : Nat) (hl : 2 ^ l ≤ a) (hu : a < 2 ^ (l + 1)) : (a * 2 ^ j).log2 = l + j := by
  have hp := Nat.two_pow_pos j
  have hp' := Nat.two_pow_pos l
  have ha : a * 2 ^ j ≠ 0 := Nat.ne_of_gt (Nat.mul_pos (by omega) hp)
  refine (Nat.log2_eq_iff ha).2 ⟨?_, ?_⟩
  · rw [Nat.pow_add]; exact Nat.mul_le_mul_right _ hl
  · rw [show l + j + 1 = l + 1 + j by omega, Nat.pow_add]; exact (Nat.mul_lt_mul_right hp).2 hu
theorem kept_bounds (a l : Nat) (hl : 2 ^ l ≤ a) (hu : a < 2 ^ (l + 1)) (h52 : l ≤ 52) : 4503599627370496 ≤ a * 2 ^ (52 - l) ∧ a * 2 ^ (52 - l) < 9007199254740992 := by
  have hp := Nat.two_pow_pos (52 - l)
  have e1 : 2 ^ l * 2 ^ (52 - l) = 4503599627370496 := by rw [← Nat.pow_add, show l + (52 - l) = 52 by omega]
  have e2 : 2 ^ (l + 1) * 2 ^ (52 - l) = 9007199254740992 := by rw [← Nat.pow_add, show l + 1 + (52 - l) = 53 by omega]
  exact ⟨e1 ▸ Nat.mul_le_mul_right _ hl, e2 ▸ (Nat.mul_lt_mul_right hp).2 hu⟩
theorem nearest_num (s : Bool) (a j l : Nat) (hl : 2 ^ l ≤ a) (hu : a < 2 ^ (l + 1)) (h52 : l ≤ 52) :
    double.nearest s (a * 2 ^ j) (-9 - (j : Int)) = double.word s ((l + 1013) * 4503599627370496 + a * 2 ^ (52 - l)) := by
  have hp := Nat.two_pow_pos j
  have hp' := Nat.two_pow_pos l
  have ha : a * 2 ^ j ≠ 0 := Nat.ne_of_gt (Nat.mul_pos (by omega) hp)
  have hlast : max ((-9 - (j : Int)) + ((l + j : Nat) : Int) - (double.fractionBits : Int)) double.leastPlace = (l : Int) - 61 := by
    rw [dbl_least, show ((double.fractionBits : Nat) : Int) = 52 from rfl]
    omega
  have hkept : Toward.even.cut s ((a * 2 ^ j) <<< ((-9 - (j : Int)) - ((l : Int) - 61)).toNat) ((l : Int) - 61 - (-9 - (j : Int))).toNat = a * 2 ^ (52 - l) := by
    by_cases hj : j ≤ 52 - l
    · rw [show ((-9 - (j : Int)) - ((l : Int) - 61)).toNat = 52 - l - j by omega, show ((l : Int) - 61 - (-9 - (j : Int))).toNat = 0 by omega, Nat.shiftLeft_eq, Nat.mul_assoc, ← Nat.pow_add, show j + (52 - l - j) = 52 - l by omega]
      have := cut_exact s (a * 2 ^ (52 - l)) 0 (Nat.mul_pos (by omega) (Nat.two_pow_pos _))
      rwa [Nat.pow_zero, Nat.mul_one] at this
    · rw [show ((-9 - (j : Int)) - ((l : Int) - 61)).toNat = 0 by omega, show ((l : Int) - 61 - (-9 - (j : Int))).toNat = j - (52 - l) by omega, Nat.shiftLeft_zero]
      have := cut_exact s (a * 2 ^ (52 - l)) (j - (52 - l)) (Nat.mul_pos (by omega) (Nat.two_pow_pos _))
      rwa [Nat.mul_assoc, ← Nat.pow_add, show 52 - l + (j - (52 - l)) = j by omega] at this
  have hb := kept_bounds a l hl hu h52
  unfold Format.nearest
  rw [if_neg ha]
  simp only [log2_shift a j l hl hu, hlast, hkept]
  rw [dbl_least, dbl_binade, dbl_inf, show ((l : Int) - 61 - -1074).toNat = l + 1013 by omega, Nat.min_eq_left (by omega)]
theorem nearest_int (s : Bool) (n l : Nat) (hl : 2 ^ l ≤ n) (hu : n < 2 ^ (l + 1)) (h52 : l ≤ 43) :
    double.nearest s n 0 = double.word s ((l + 9 + 1013) * 4503599627370496 + n * 2 ^ (52 - l)) := by
  have hp' := Nat.two_pow_pos l
  have hn : n ≠ 0 := by omega
  have hlog : n.log2 = l := (Nat.log2_eq_iff hn).2 ⟨hl, hu⟩
  have hlast : max (0 + ((l : Nat) : Int) - (double.fractionBits : Int)) double.leastPlace = (l : Int) - 52 := by
    rw [dbl_least, show ((double.fractionBits : Nat) : Int) = 52 from rfl]
    omega
  have hkept : Toward.even.cut s (n <<< (0 - ((l : Int) - 52)).toNat) ((l : Int) - 52 - 0).toNat = n * 2 ^ (52 - l) := by
    rw [show (0 - ((l : Int) - 52)).toNat = 52 - l by omega, show ((l : Int) - 52 - 0).toNat = 0 by omega, Nat.shiftLeft_eq]
    have := cut_exact s (n * 2 ^ (52 - l)) 0 (Nat.mul_pos (by omega) (Nat.two_pow_pos _))
    rwa [Nat.pow_zero, Nat.mul_one] at this
  have hb := kept_bounds n l hl hu (by omega)
  unfold Format.nearest
  rw [if_neg hn]
  simp only [hlog, hlast, hkept]
  rw [dbl_least, dbl_binade, dbl_inf, show ((l : Int) - 52 - -1074).toNat = l + 9 + 1013 by omega, Nat.min_eq_left (by omega)]
theorem read_word (s : Bool) (r : Nat) (h1 : 4503599627370496 ≤ r) (h2 : r < 9218868437227405312) :
    double.read (double.word s r) = .number s (4503599627370496 + r % 4503599627370496) (-1074 + ((r / 4503599627370496 - 1 : Nat) : Int)) := by
  have hm : double.word s r % 9223372036854775808 = r := by
    unfold Format.word
    rw [dbl_sign]
    cases s
    · rw [if_neg (by decide)]; omega
    · rw [if_pos rfl]; omega
  have hs : (double.word s r / 9223372036854775808 % 2 == 1) = s := by
    unfold Format.word
    rw [dbl_sign]
    cases s
    · rw [if_neg (by decide), beq_eq_false_iff_ne]; omega
    · rw [if_pos rfl, beq_iff_eq]; omega
  unfold Format.read
  simp only [dbl_sign, dbl_binade, dbl_inf, dbl_least, hm, hs]
  rw [if_neg (by omega), if_pos h2]

/-- The datum d is the number z / 512. -/
def Is (d : Datum) (z : Int) : Prop := ∃ (s : Bool) (j : Nat), d = .number s (z.natAbs * 2 ^ j) (-9 - (j : Int)) ∧ (z ≠ 0 → s = decide (z < 0))
/-- How far the float z / 512 is shifted. -/
def cj (z : Int) : Nat := if z = 0 then 1065 else 52 - z.natAbs.log2
/-- The word x reads as z / 512. -/
def Fl (x : Nat) (z : Int) : Prop := ∃ s : Bool, double.read x = .number s (z.natAbs * 2 ^ cj z) (-9 - (cj z : Int)) ∧ (z ≠ 0 → s = decide (z < 0))
theorem Fl.is {x : Nat} {z : Int} (h : Fl x z) : Is (double.read x) z := by
  obtain ⟨s, h1, h2⟩ := h
  exact ⟨s, cj z, h1, h2⟩
theorem log2_split (a : Nat) (ha : a ≠ 0) : 2 ^ a.log2 ≤ a ∧ a < 2 ^ (a.log2 + 1) := (Nat.log2_eq_iff ha).1 rfl
theorem log2_le52 (a : Nat) (ha : a ≠ 0) (h : a < 9007199254740992) : a.log2 ≤ 52 := by
  have h1 := (log2_split a ha).1
  rcases Nat.lt_or_ge a.log2 53 with h2 | h2
  · omega
  · have := Nat.pow_le_pow_right (n := 2) (by omega) h2
    have e : (2 : Nat) ^ 53 = 9007199254740992 := by decide
    omega
theorem fl_of_word (s : Bool) (z : Int) (hz : z ≠ 0) (hb : z.natAbs < 9007199254740992) (hs : s = decide (z < 0)) :
    Fl (double.word s ((z.natAbs.log2 + 1013) * 4503599627370496 + z.natAbs * 2 ^ (52 - z.natAbs.log2))) z := by
  have ha : z.natAbs ≠ 0 := by omega
  obtain ⟨hl, hu⟩ := log2_split _ ha
  have h52 := log2_le52 _ ha hb
  have hk := kept_bounds _ _ hl hu h52
  refine ⟨s, ?_, fun _ => hs⟩
  rw [read_word _ _ (by omega) (by omega)]
  unfold cj
  rw [if_neg hz]
  generalize z.natAbs * 2 ^ (52 - z.natAbs.log2) = K at hk ⊢
  generalize z.natAbs.log2 = l at h52 ⊢
  congr 1
  · omega
  · omega
theorem fl_zero (s : Bool) : Fl (double.word s 0) 0 := by
  refine ⟨s, ?_, fun h => absurd rfl h⟩
  have h1 : (0 : Int).natAbs * 2 ^ cj 0 = 0 := by rw [Int.natAbs_zero]; exact Nat.zero_mul _
  have h2 : (-9 - (cj 0 : Int)) = -1074 := by decide
  rw [h1, h2]
  cases s
  · show double.read 0 = _
    decide
  · show double.read 9223372036854775808 = _
    decide
theorem fl_write {d : Datum} {z : Int} (h : Is d z) (hb : z.natAbs < 9007199254740992) : Fl (double.write d) z := by
  obtain ⟨s, j, rfl, hs⟩ := h
  show Fl (double.nearest s (z.natAbs * 2 ^ j) (-9 - (j : Int))) z
  by_cases hz : z = 0
  · subst hz
    have : double.nearest s ((0 : Int).natAbs * 2 ^ j) (-9 - (j : Int)) = double.word s 0 := by
      unfold Format.nearest
      rw [if_pos (by simp)]
    rw [this]
    exact fl_zero s
  · have ha : z.natAbs ≠ 0 := by omega
    obtain ⟨hl, hu⟩ := log2_split _ ha
    rw [nearest_num s z.natAbs j z.natAbs.log2 hl hu (log2_le52 _ ha hb)]
    exact fl_of_word s z hz hb (hs hz)
theorem fl_int_of (s : Bool) (n : Int) (hb : n.natAbs < 17592186044416) (hs : n ≠ 0 → s = decide (n < 0)) : Fl (double.nearest s n.natAbs 0) (512 * n) := by
  by_cases hz : n = 0
  · subst hz
    exact fl_zero s
  · have ha : n.natAbs ≠ 0 := by omega
    obtain ⟨hl, hu⟩ := log2_split _ ha
    have h43 : n.natAbs.log2 ≤ 43 := by
      rcases Nat.lt_or_ge n.natAbs.log2 44 with h2 | h2
      · omega
      · have := Nat.pow_le_pow_right (n := 2) (by omega) h2
        have e : (2 : Nat) ^ 44 = 17592186044416 := by decide
        omega
    have e1 : (512 * n).natAbs = n.natAbs * 2 ^ 9 := by rw [Int.natAbs_mul]; show 512 * n.natAbs = n.natAbs * 512; omega
    have e2 : (512 * n).natAbs.log2 = n.natAbs.log2 + 9 := by rw [e1]; exact log2_shift _ _ _ hl hu
    have h := fl_of_word s (512 * n) (by omega) (by omega) (by rw [hs hz, decide_eq_decide]; omega)
    rw [e2, e1, Nat.mul_assoc, ← Nat.pow_add, show 9 + (52 - (n.natAbs.log2 + 9)) = 52 - n.natAbs.log2 by omega] at h
    rw [nearest_int s n.natAbs _ hl hu h43]
    exact h
/-- float64(n). -/
theorem fl_ofInt (n : Int) (hb : n.natAbs < 17592186044416) : Fl (floatOfInt .f64 n) (512 * n) :=
  fl_int_of (decide (n < 0)) n hb (fun _ => rfl)

theorem signed_is (s : Bool) (z : Int) (j up : Nat) (h : z ≠ 0 → s = decide (z < 0)) : signed s (z.natAbs * 2 ^ j) up = z * ((2 ^ (j + up) : Nat) : Int) := by
  have e : (z.natAbs * 2 ^ j) <<< up = z.natAbs * 2 ^ (j + up) := by rw [Nat.shiftLeft_eq, Nat.mul_assoc, ← Nat.pow_add]
  unfold signed
  rw [e]
  generalize 2 ^ (j + up) = P
  by_cases hz : z = 0
  · subst hz
    simp
  · rw [h hz]
    by_cases hn : z < 0
    · rw [if_pos (by simpa using hn), Int.natCast_mul, show ((z.natAbs : Nat) : Int) = -z by omega, Int.neg_mul, Int.neg_neg]
    · rw [if_neg (by simpa using hn), Int.natCast_mul, show ((z.natAbs : Nat) : Int) = z by omega]
theorem natAbs_mul_cast (z : Int) (P : Nat) : (z * (P : Int)).natAbs = z.natAbs * P := by rw [Int.natAbs_mul, Int.natAbs_natCast]
theorem is_sum {a b : Datum} {x y : Int} (ha : Is a x) (hb : Is b y) : ∃ d, a.sum b = some d ∧ Is d (x + y) := by
  obtain ⟨s, i, rfl, hs⟩ := ha
  obtain ⟨t, j, rfl, ht⟩ := hb
  have hbase : min (-9 - (i : Int)) (-9 - (j : Int)) = -9 - ((max i j : Nat) : Int) := by omega
  have e1 : signed s (x.natAbs * 2 ^ i) ((-9 - (i : Int)) - (-9 - ((max i j : Nat) : Int))).toNat = x * ((2 ^ (max i j) : Nat) : Int) := by
    rw [signed_is s x i _ hs]
    congr 3
    omega
  have e2 : signed t (y.natAbs * 2 ^ j) ((-9 - (j : Int)) - (-9 - ((max i j : Nat) : Int))).toNat = y * ((2 ^ (max i j) : Nat) : Int) := by
    rw [signed_is t y j _ ht]
    congr 3
    omega
  refine ⟨_, rfl, ?_⟩
  simp only [hbase, e1, e2, ← Int.add_mul]
  have hP : (0 : Int) < ((2 ^ (max i j) : Nat) : Int) := by have := Nat.two_pow_pos (max i j); omega
  refine ⟨_, max i j, by rw [natAbs_mul_cast], fun hz => ?_⟩
  have hz' : (x + y) * ((2 ^ (max i j) : Nat) : Int) ≠ 0 := Int.mul_ne_zero hz (by omega)
  rw [if_neg hz', decide_eq_decide]
  constructor
  · intro h
    rcases Int.lt_or_le (x + y) 0 with h1 | h1
    · exact h1
    · have := Int.mul_nonneg h1 (Int.le_of_lt hP); omega
  · intro h
    exact Int.mul_neg_of_neg_of_pos h hP
theorem is_neg {b : Datum} {y : Int} (hb : Is b y) : Is b.opposite (-y) := by
  obtain ⟨t, j, rfl, ht⟩ := hb
  refine ⟨!t, j, by rw [Int.natAbs_neg]; rfl, fun h => ?_⟩
  rw [ht (by omega), ← decide_not, decide_eq_decide]
  omega
theorem fl_add {x y : Nat} {a b : Int} (hx : Fl x a) (hy : Fl y b) (hz : (a + b).natAbs < 9007199254740992) : ∃ r, floatBits .add .f64 x y = some r ∧ Fl r (a + b) := by
  obtain ⟨d, h1, h2⟩ := is_sum hx.is hy.is
  exact ⟨double.write d, by show ((double.read x).sum (double.read y)).map double.write = _; rw [h1]; rfl, fl_write h2 hz⟩
theorem fl_sub {x y : Nat} {a b : Int} (hx : Fl x a) (hy : Fl y b) (hz : (a - b).natAbs < 9007199254740992) : ∃ r, floatBits .sub .f64 x y = some r ∧ Fl r (a - b) := by
  obtain ⟨d, h1, h2⟩ := is_sum hx.is (is_neg hy.is)
  rw [show a + -b = a - b by omega] at h2
  exact ⟨double.write d, by show ((double.read x).sum (double.read y).opposite).map double.write = _; rw [h1]; rfl, fl_write h2 hz⟩
theorem fl_mul {x y : Nat} {a b c : Int} (hx : Fl x a) (hy : Fl y b) (hc : a * b = 512 * c) (hz : c.natAbs < 9007199254740992) : ∃ r, floatBits .mul .f64 x y = some r ∧ Fl r c := by
  obtain ⟨s, i, hi, hs⟩ := hx.is
  obtain ⟨t, j, hj, ht⟩ := hy.is
  have hn : a.natAbs * b.natAbs = 512 * c.natAbs := by rw [← Int.natAbs_mul, hc, Int.natAbs_mul]; rfl
  have h2 : Is (.number (s ^^ t) (a.natAbs * 2 ^ i * (b.natAbs * 2 ^ j)) ((-9 - (i : Int)) + (-9 - (j : Int)))) c := by
    refine ⟨s ^^ t, i + j + 9, ?_, fun h => ?_⟩
    · congr 1
      · rw [show a.natAbs * 2 ^ i * (b.natAbs * 2 ^ j) = (a.natAbs * b.natAbs) * (2 ^ i * 2 ^ j) by rw [Nat.mul_assoc, Nat.mul_assoc, Nat.mul_left_comm (2 ^ i)], hn, Nat.pow_add, Nat.pow_add]
        show 512 * c.natAbs * (2 ^ i * 2 ^ j) = c.natAbs * (2 ^ i * 2 ^ j * 512)
        rw [Nat.mul_comm 512, Nat.mul_assoc, Nat.mul_comm 512]
      · omega
    · have ha : a ≠ 0 := fun e => by rw [e, Int.zero_mul] at hc; omega
      have hb : b ≠ 0 := fun e => by rw [e, Int.mul_zero] at hc; omega
      rw [hs ha, ht hb]
      rcases Int.lt_or_lt_of_ne ha with h1 | h1 <;> rcases Int.lt_or_lt_of_ne hb with h3 | h3
      · have := Int.mul_pos_of_neg_of_neg h1 h3
        rw [decide_eq_true h1, decide_eq_true h3, decide_eq_false (by omega)]; rfl
      · have := Int.mul_neg_of_neg_of_pos h1 h3
        rw [decide_eq_true h1, decide_eq_false (by omega), decide_eq_true (by omega)]; rfl
      · have := Int.mul_neg_of_pos_of_neg h1 h3
        rw [decide_eq_false (by omega), decide_eq_true h3, decide_eq_true (by omega)]; rfl
      · have := Int.mul_pos h1 h3
        rw [decide_eq_false (by omega), decide_eq_false (by omega), decide_eq_false (by omega)]; rfl
  refine ⟨double.write _, ?_, fl_write h2 hz⟩
  show ((double.read x).product (double.read y)).map double.write = _
  rw [hi, hj]
  rfl
theorem log2_canon (z : Int) (hz : z ≠ 0) (hb : z.natAbs < 9007199254740992) : (z.natAbs * 2 ^ cj z).log2 = 52 := by
  have ha : z.natAbs ≠ 0 := by omega
  obtain ⟨hl, hu⟩ := log2_split _ ha
  have h52 := log2_le52 _ ha hb
  unfold cj
  rw [if_neg hz, log2_shift _ _ _ hl hu]
  omega
theorem quotient_num (dg : Nat) (s : Bool) (m : Nat) (i : Int) (t : Bool) (n : Nat) (j : Int) (hn : n ≠ 0) :
    Datum.quotient dg (.number s m i) (.number t n j) = some (.number (s ^^ t) (2 * ((m <<< (dg + n.log2 - m.log2)) / n) + ((m <<< (dg + n.log2 - m.log2)) % n != 0).toNat) (i - j - ((dg + n.log2 - m.log2 : Nat) : Int) - 1)) := by
  unfold Datum.quotient
  simp only [if_neg hn]
/-- x / y, y at least 1/4 and the quotient a multiple of 1/512. -/
theorem fl_div {x y : Nat} {a b c : Int} (hx : Fl x a) (hy : Fl y b) (hb : 128 ≤ b) (hb2 : b.natAbs < 9007199254740992) (ha2 : a.natAbs < 9007199254740992) (hc : 512 * a = c * b) (hz : c.natAbs < 9007199254740992) :
    ∃ r, floatBits .quo .f64 x y = some r ∧ Fl r c := by
  obtain ⟨s, hi, hs⟩ := hx
  obtain ⟨t, hj, ht⟩ := hy
  have hb0 : b ≠ 0 := by omega
  have hbn : b.natAbs ≠ 0 := by omega
  obtain ⟨bl, bu⟩ := log2_split _ hbn
  have hcb : cj b ≤ 45 := by
    unfold cj
    rw [if_neg hb0]
    have : 7 ≤ b.natAbs.log2 := (Nat.le_log2 hbn).2 (by show 128 ≤ _; omega)
    omega
  have hlb := log2_canon b hb0 hb2
  have hn : b.natAbs * 2 ^ cj b ≠ 0 := Nat.ne_of_gt (Nat.mul_pos (by omega) (Nat.two_pow_pos _))
  by_cases ha : a = 0
  · subst ha
    have hc0 : c = 0 := by
      rcases Int.mul_eq_zero.1 (show c * b = 0 by omega) with h | h
      · exact h
      · exact absurd h hb0
    subst hc0
    have e : ((cj 0 : Nat) : Int) = 1065 := by decide
    rw [Int.natAbs_zero, Nat.zero_mul, e] at hi
    have h2 : Is (.number (s ^^ t) 0 ((-9 - (1065 : Int)) - (-9 - (cj b : Int)) - ((106 : Nat) : Int) - 1)) 0 := by
      refine ⟨s ^^ t, 1163 - cj b, ?_, fun h => absurd rfl h⟩
      rw [Int.natAbs_zero, Nat.zero_mul]
      congr 1
      omega
    refine ⟨double.write _, ?_, fl_write h2 (by decide)⟩
    show ((double.read x).quotient (52 + 2) (double.read y)).map double.write = _
    rw [hi, hj, quotient_num _ _ _ _ _ _ _ hn, hlb, show (0 : Nat).log2 = 0 from rfl, Nat.zero_shiftLeft, Nat.zero_div, Nat.zero_mod]
    rfl
  · have hla := log2_canon a ha ha2
    have hc0 : c ≠ 0 := fun e => by rw [e, Int.zero_mul] at hc; omega
    have hca : cj a ≤ 52 := by unfold cj; rw [if_neg ha]; omega
    have hnat : 512 * a.natAbs = c.natAbs * b.natAbs := by
      have := congrArg Int.natAbs hc
      rw [Int.natAbs_mul, Int.natAbs_mul] at this
      exact this
    have hdiv : (a.natAbs * 2 ^ cj a) <<< 54 = c.natAbs * 2 ^ (cj a + 45 - cj b) * (b.natAbs * 2 ^ cj b) := by
      rw [Nat.shiftLeft_eq, Nat.mul_assoc, ← Nat.pow_add, show cj a + 54 = 9 + ((cj a + 45 - cj b) + cj b) by omega, Nat.pow_add, Nat.pow_add]
      show a.natAbs * (512 * _) = _
      rw [← Nat.mul_assoc, Nat.mul_comm a.natAbs 512, hnat, Nat.mul_assoc, Nat.mul_assoc, Nat.mul_left_comm b.natAbs]
    have h2 : Is (.number (s ^^ t) (2 * (c.natAbs * 2 ^ (cj a + 45 - cj b))) ((-9 - (cj a : Int)) - (-9 - (cj b : Int)) - ((54 : Nat) : Int) - 1)) c := by
      refine ⟨s ^^ t, cj a + 46 - cj b, ?_, fun h => ?_⟩
      · have e1 : 2 * (c.natAbs * 2 ^ (cj a + 45 - cj b)) = c.natAbs * 2 ^ (cj a + 46 - cj b) := by
          rw [show cj a + 46 - cj b = 1 + (cj a + 45 - cj b) by omega, Nat.pow_add, Nat.pow_one, Nat.mul_left_comm]
        have e2 : (-9 - (cj a : Int)) - (-9 - (cj b : Int)) - ((54 : Nat) : Int) - 1 = -9 - ((cj a + 46 - cj b : Nat) : Int) := by omega
        rw [e1, e2]
      · rw [hs ha, ht hb0, decide_eq_false (show ¬ b < 0 by omega), Bool.xor_false, decide_eq_decide]
        constructor
        · intro h1
          rcases Int.lt_or_le c 0 with h3 | h3
          · exact h3
          · have := Int.mul_nonneg h3 (show (0 : Int) ≤ b by omega); omega
        · intro h1
          have := Int.mul_neg_of_neg_of_pos h1 (show (0 : Int) < b by omega); omega
    refine ⟨double.write _, ?_, fl_write h2 hz⟩
    have hp : 0 < b.natAbs * 2 ^ cj b := Nat.pos_of_ne_zero hn
    show ((double.read x).quotient (52 + 2) (double.read y)).map double.write = _
    rw [hi, hj, quotient_num _ _ _ _ _ _ _ hn, hla, hlb, show 52 + 2 + 52 - 52 = 54 from rfl, hdiv, Nat.mul_div_cancel _ hp, Nat.mul_mod_left]
    rfl
theorem fl_order {x y : Nat} {a b : Int} (hx : Fl x a) (hy : Fl y b) : double.order x y = some (compare a b) := by
  obtain ⟨s, i, hi, hs⟩ := hx.is
  obtain ⟨t, j, hj, ht⟩ := hy.is
  show (double.read x).order (double.read y) = _
  rw [hi, hj]
  have hbase : min (-9 - (i : Int)) (-9 - (j : Int)) = -9 - ((max i j : Nat) : Int) := by omega
  have e1 : signed s (a.natAbs * 2 ^ i) ((-9 - (i : Int)) - (-9 - ((max i j : Nat) : Int))).toNat = a * ((2 ^ (max i j) : Nat) : Int) := by
    rw [signed_is s a i _ hs]
    congr 3
    omega
  have e2 : signed t (b.natAbs * 2 ^ j) ((-9 - (j : Int)) - (-9 - ((max i j : Nat) : Int))).toNat = b * ((2 ^ (max i j) : Nat) : Int) := by
    rw [signed_is t b j _ ht]
    congr 3
    omega
  have hP : (0 : Int) < ((2 ^ (max i j) : Nat) : Int) := by have := Nat.two_pow_pos (max i j); omega
  show some (compare (signed s (a.natAbs * 2 ^ i) ((-9 - (i : Int)) - min (-9 - (i : Int)) (-9 - (j : Int))).toNat) (signed t (b.natAbs * 2 ^ j) ((-9 - (j : Int)) - min (-9 - (i : Int)) (-9 - (j : Int))).toNat)) = _
  rw [hbase, e1, e2]
  generalize ((2 ^ (max i j) : Nat) : Int) = P at hP
  congr 1
  simp only [compare, compareOfLessAndEq]
  have l1 : a * P < b * P ↔ a < b := ⟨fun h => Int.lt_of_mul_lt_mul_right h (Int.le_of_lt hP), fun h => Int.mul_lt_mul_of_pos_right h hP⟩
  have l2 : a * P = b * P ↔ a = b := ⟨fun h => Int.eq_of_mul_eq_mul_right (by omega) h, fun h => by rw [h]⟩
  simp only [l1, l2]
/-- ==, at equal numbers. -/
theorem fl_eq {x y : Nat} {a : Int} (hx : Fl x a) (hy : Fl y a) : double.order x y = some .eq := by
  rw [fl_order hx hy]
  simp [compare, compareOfLessAndEq]
theorem fl_lt {x y : Nat} {a b : Int} (hx : Fl x a) (hy : Fl y b) (h : a < b) : double.order x y = some .lt := by
  rw [fl_order hx hy]
  simp [compare, compareOfLessAndEq, h]
theorem fl_gt {x y : Nat} {a b : Int} (hx : Fl x a) (hy : Fl y b) (h : b < a) : double.order x y = some .gt := by
  rw [fl_order hx hy]
  have h1 : ¬ a < b := by omega
  have h2 : ¬ a = b := by omega
  simp [compare, compareOfLessAndEq, h1, h2]

/-- How a cut of |z| / 512 comes out: the whole part, and whether anything is left. -/
theorem cut_parts (m j : Nat) : (m * 2 ^ j) / (1 <<< min (9 + j) ((m * 2 ^ j).log2 + 2)) = m / 512 ∧ ((m * 2 ^ j) % (1 <<< min (9 + j) ((m * 2 ^ j).log2 + 2)) ≠ 0 ↔ m % 512 ≠ 0) := by
  have hj := Nat.two_pow_pos j
  rw [Nat.shiftLeft_eq, Nat.one_mul]
  by_cases hm : m = 0
  · subst hm
    simp
  have hn : m * 2 ^ j ≠ 0 := Nat.ne_of_gt (Nat.mul_pos (by omega) hj)
  rcases Nat.lt_or_ge ((m * 2 ^ j).log2 + 2) (9 + j) with h | h
  · rw [Nat.min_eq_right (Nat.le_of_lt h)]
    obtain ⟨h1, h2⟩ := log2_split _ hn
    have h3 : m * 2 ^ j < 2 ^ ((m * 2 ^ j).log2 + 2) := Nat.lt_of_lt_of_le h2 (Nat.pow_le_pow_right (by omega) (by omega))
    rw [Nat.div_eq_of_lt h3, Nat.mod_eq_of_lt h3]
    have h4 : m * 2 ^ j < 2 ^ (7 + j) := Nat.lt_of_lt_of_le h2 (Nat.pow_le_pow_right (by omega) (by omega))
    have h5 : m < 128 := by
      rw [Nat.pow_add] at h4
      exact Nat.lt_of_mul_lt_mul_right h4
    exact ⟨by omega, ⟨fun _ => by omega, fun _ => hn⟩⟩
  · rw [Nat.min_eq_left h, show 9 + j = j + 9 by omega, Nat.pow_add, Nat.mul_comm m, Nat.mul_div_mul_left _ _ hj, Nat.mul_mod_mul_left]
    refine ⟨rfl, ⟨fun h1 h2 => h1 (by show 2 ^ j * (m % 512) = 0; rw [h2, Nat.mul_zero]), fun h1 => Nat.ne_of_gt (Nat.mul_pos hj (by show 0 < m % 512; omega))⟩⟩
theorem signed0 (s : Bool) (n : Nat) : signed s n 0 = if s then -(n : Int) else (n : Int) := by
  unfold signed
  rw [Nat.shiftLeft_zero]
/-- int64(v). -/
theorem fl_toInt {x : Nat} {z : Int} (h : Fl x z) : (double.read x).toInt .zero = some (z.tdiv 512) := by
  obtain ⟨s, j, hj, hs⟩ := h.is
  rw [hj]
  have e : (-(-9 - (j : Int))).toNat = 9 + j := by omega
  have e0 : (-9 - (j : Int)).toNat = 0 := by omega
  unfold Datum.toInt Datum.integral Toward.cut
  simp only [e, e0, Nat.shiftLeft_zero, (cut_parts z.natAbs j).1, Bool.toNat_false, Nat.add_zero, signed0]
  congr 1
  by_cases hz : z = 0
  · subst hz
    cases s <;> rfl
  · rw [hs hz]
    rcases Int.lt_or_le z 0 with hn | hn
    · rw [if_pos (by simpa using hn)]
      obtain ⟨n, rfl⟩ : ∃ n : Nat, z = -(n : Int) := ⟨z.natAbs, by omega⟩
      rw [Int.neg_tdiv, Int.natAbs_neg, Int.natAbs_natCast]
      rfl
    · rw [if_neg (by simp; omega)]
      obtain ⟨n, rfl⟩ : ∃ n : Nat, z = (n : Int) := ⟨z.natAbs, by omega⟩
      rw [Int.natAbs_natCast]
      rfl
/-- math.Floor(v). -/
theorem fl_floor {x : Nat} {z : Int} (h : Fl x z) (hb : z.natAbs < 9007199254740480) : Fl (double.write ((double.read x).integral .down)) (512 * (z / 512)) := by
  obtain ⟨s, j, hj, hs⟩ := h.is
  rw [hj]
  have e : (-(-9 - (j : Int))).toNat = 9 + j := by omega
  have e0 : (-9 - (j : Int)).toNat = 0 := by omega
  obtain ⟨c1, c2⟩ := cut_parts z.natAbs j
  have key : ∃ t : Bool, ((Datum.number s (z.natAbs * 2 ^ j) (-9 - (j : Int))).integral .down) = .number t (z / 512).natAbs 0 ∧ (z / 512 ≠ 0 → t = decide (z / 512 < 0)) := by
    refine ⟨s, ?_, ?_⟩
    · unfold Datum.integral Toward.cut
      simp only [e, e0, Nat.shiftLeft_zero, c1]
      congr 1
      generalize (z.natAbs * 2 ^ j) % (1 <<< min (9 + j) ((z.natAbs * 2 ^ j).log2 + 2)) = R at c2 ⊢
      by_cases hz : z = 0
      · subst hz
        have : R = 0 := by
          rcases Nat.eq_zero_or_pos R with h | h
          · exact h
          · exact absurd rfl (c2.1 (by omega))
        subst this
        cases s <;> rfl
      · rw [hs hz]
        rcases Int.lt_or_le z 0 with hn | hn
        · rw [decide_eq_true hn]
          by_cases hR : R = 0
          · have h5 : z.natAbs % 512 = 0 := by
              rcases Nat.eq_zero_or_pos (z.natAbs % 512) with h | h
              · exact h
              · exact absurd hR (c2.2 (by omega))
            subst hR
            show z.natAbs / 512 + 0 = _
            omega
          · have h5 := c2.1 hR
            have hb : (true && R != 0) = true := by simpa using hR
            rw [hb]
            show z.natAbs / 512 + 1 = _
            omega
        · rw [decide_eq_false (by omega)]
          show z.natAbs / 512 + 0 = _
          omega
    · intro h1
      have hz : z ≠ 0 := fun e => by subst e; exact h1 rfl
      rw [hs hz, decide_eq_decide]
      omega
  obtain ⟨t, h1, h2⟩ := key
  rw [h1]
  exact fl_int_of t (z / 512) (by omega) h2
theorem fl_billion : Fl 4741671816366391296 (512 * 1000000000) := ⟨false, by decide, fun _ => by decide⟩
theorem fl_512 : Fl 4647714815446351872 (512 * 512) := ⟨false, by decide, fun _ => by decide⟩
end Go.Proofs.YtdbbmknjldapbaaGreatDoor
