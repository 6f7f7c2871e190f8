/-
  Decimal digits multiplied by a power of two; two numerals compared digit by digit. No program in this text.
-/
import Derived.Test.YtdbbmknjldapbaaGreatDoorRs
namespace Go.Proofs.YtdbbmknjldapbaaGreatDoor
set_option linter.unusedVariables false
set_option linter.unusedSimpArgs false

theorem dg_le (D : List UInt8) (h : Digs D) (r : Nat) : dg D r ≤ 9 := by
  unfold dg
  split
  · rename_i hr
    have := h.at_ r hr
    omega
  · omega
/-- Less at j: less ever after. -/
theorem VV_lt_mono {D S : List UInt8} (hd : Digs D) {j : Nat} (h : VV D j < VV S j) : ∀ n, j ≤ n → VV D n < VV S n := by
  intro n hn
  induction n with
  | zero =>
    obtain rfl : j = 0 := by omega
    exact h
  | succ n ih =>
    rcases Nat.lt_or_ge n j with e | e
    · obtain rfl : j = n + 1 := by omega
      exact h
    · have := ih e
      have := dg_le D hd n
      rw [VV_step, VV_step]
      omega
theorem VV_ge_out {D S : List UInt8} {j : Nat} (hS : S.length ≤ j) (h : VV S j ≤ VV D j) : ∀ n, j ≤ n → VV S n ≤ VV D n := by
  intro n hn
  induction n with
  | zero =>
    obtain rfl : j = 0 := by omega
    exact h
  | succ n ih =>
    rcases Nat.lt_or_ge n j with e | e
    · obtain rfl : j = n + 1 := by omega
      exact h
    · have := ih e
      rw [VV_out S n (by omega), VV_step D]
      omega
/-- D against S, as fractions. -/
def LessF (D S : List UInt8) : Prop := valD D * 10 ^ S.length < valD S * 10 ^ D.length
theorem lessF_iff (D S : List UInt8) : LessF D S ↔ VV D (D.length + S.length) < VV S (D.length + S.length) := by
  unfold LessF
  rw [VV_all D _ (by omega), VV_all S _ (by omega), Nat.add_sub_cancel_left, Nat.add_sub_cancel]
theorem VV_eq_of (D S : List UInt8) (i : Nat) (hi : i ≤ D.length) (hi2 : i ≤ S.length) (h : ∀ j (h1 : j < D.length) (h2 : j < S.length), j < i → D[j] = S[j]) : VV D i = VV S i := by
  induction i with
  | zero => rw [VV_zero, VV_zero]
  | succ i ih =>
    rw [VV_in D i (by omega), VV_in S i (by omega), ih (by omega) (by omega) (fun j h1 h2 h3 => h j h1 h2 (by omega)), h i (by omega) (by omega) (by omega)]
/-- The compared numeral ends: not less. -/
theorem less_end (D S : List UInt8) (h : ∀ j (h1 : j < D.length) (h2 : j < S.length), j < S.length → D[j] = S[j]) (hl : S.length ≤ D.length) : ¬ LessF D S := by
  rw [lessF_iff]
  have := VV_ge_out (D := D) (S := S) (j := S.length) (Nat.le_refl _) (Nat.le_of_eq (VV_eq_of D S S.length hl (Nat.le_refl _) (fun j h1 h2 h3 => h j h1 h2 h3)).symm) (D.length + S.length) (by omega)
  omega
/-- The digits end ahead of it: less. -/
theorem less_short (D S : List UInt8) (hd : Digs D) (hs : Digs S) (h : ∀ j (h1 : j < D.length) (h2 : j < S.length), j < D.length → D[j] = S[j]) (hl : D.length < S.length) (hz : ∀ h : 0 < S.length, (S[S.length - 1]'(by omega)).toNat ≠ 48) : LessF D S := by
  rw [lessF_iff]
  have h1 := VV_eq_of D S D.length (Nat.le_refl _) (by omega) (fun j h1 h2 h3 => h j h1 h2 h3)
  have h2 := VV_ge_out (D := S) (S := D) (j := D.length) (Nat.le_refl _) (Nat.le_of_eq h1) (S.length - 1) (by omega)
  have h3 : VV D S.length < VV S S.length := by
    have e : S.length = S.length - 1 + 1 := by omega
    have a := VV_out D (S.length - 1) (by omega)
    have b := VV_in S (S.length - 1) (by omega)
    have c := hz (by omega)
    have d := hs.at_ (S.length - 1) (by omega)
    rw [← e] at a b
    omega
  exact VV_lt_mono hd h3 _ (by omega)
/-- They part at i. -/
theorem less_at (D S : List UInt8) (hd : Digs D) (hs : Digs S) (i : Nat) (hi : i < D.length) (hi2 : i < S.length) (h : ∀ j (h1 : j < D.length) (h2 : j < S.length), j < i → D[j] = S[j]) (hne : D[i].toNat ≠ S[i].toNat) : LessF D S ↔ D[i].toNat < S[i].toNat := by
  rw [lessF_iff]
  have h1 := VV_eq_of D S i (by omega) (by omega) h
  have a := VV_in D i hi
  have b := VV_in S i hi2
  have c := hd.at_ i hi
  have d := hs.at_ i hi2
  constructor
  · intro hlt
    refine Decidable.byContradiction fun hge => ?_
    have := VV_lt_mono hs (show VV S (i + 1) < VV D (i + 1) by omega) (D.length + S.length) (by omega)
    omega
  · intro hlt
    exact VV_lt_mono hd (show VV D (i + 1) < VV S (i + 1) by omega) (D.length + S.length) (by omega)
/-- The digits of g from a on, l of them. -/
def seg (g : Nat → UInt8) (a l : Nat) : List UInt8 := (List.range l).map fun i => g (a + i)
theorem seg_length (g : Nat → UInt8) (a l : Nat) : (seg g a l).length = l := by simp [seg]
theorem seg_get (g : Nat → UInt8) (a l k : Nat) (h : k < (seg g a l).length) : (seg g a l)[k] = g (a + k) := by simp [seg]
theorem seg_cons (g : Nat → UInt8) (a l : Nat) : seg g a (l + 1) = g a :: seg g (a + 1) l := by
  apply List.ext_getElem
  · simp [seg]
  · intro i h1 h2
    cases i with
    | zero => simp [seg]
    | succ i => simp [seg, show a + (i + 1) = a + 1 + i by omega]
theorem seg_congr (f g : Nat → UInt8) (a l : Nat) (h : ∀ i, a ≤ i → i < a + l → f i = g i) : seg f a l = seg g a l := by
  unfold seg
  exact List.map_congr_left (fun i hi => h _ (by omega) (by have := List.mem_range.1 hi; omega))
theorem seg_pre (g : Nat → UInt8) (l : Nat) : seg g 0 l = pre g l := by simp [seg, pre]
/-- What stands while a product's digits are put down from the last one on: those from j + dl on, n carried. -/
structure Mul (f : Nat → UInt8) (nd K dl : Nat) (g : Nat → UInt8) (j n : Nat) : Prop where
  le : j ≤ nd
  val : valD (seg f j (nd - j)) * K = n * 10 ^ (nd - j) + valD (seg g (j + dl) (nd - j))
  lt : n < K
  dig : ∀ i, j + dl ≤ i → i < nd + dl → 48 ≤ (g i).toNat ∧ (g i).toNat ≤ 57
  rest : ∀ i, i < j → g i = f i
theorem Mul.start (f : Nat → UInt8) (nd K dl : Nat) (hK : 0 < K) : Mul f nd K dl f nd 0 :=
  ⟨Nat.le_refl _, by rw [Nat.sub_self]; simp [seg, valD], hK, fun i h1 h2 => absurd h2 (by omega), fun i _ => rfl⟩
theorem Mul.step {f : Nat → UInt8} {nd K dl : Nat} {g : Nat → UInt8} {r n : Nat} (h : Mul f nd K dl g (r + 1) n) (hf : 48 ≤ (f r).toNat ∧ (f r).toNat ≤ 57) (c : UInt8) (hc : c.toNat = (n + ((f r).toNat - 48) * K) % 10 + 48) :
    Mul f nd K dl (fun i => if i = r + dl then c else g i) r ((n + ((f r).toNat - 48) * K) / 10) := by
  have hle := h.le
  have e1 : nd - r = nd - (r + 1) + 1 := by omega
  have hv := h.val
  have hl := h.lt
  refine ⟨by omega, ?_, ?_, fun i h1 h2 => ?_, fun i h1 => ?_⟩
  · rw [e1, seg_cons, valD_cons, seg_length, seg_cons, valD_cons, seg_length, if_pos rfl, hc, Nat.add_sub_cancel, seg_congr (fun i => if i = r + dl then c else g i) g (r + dl + 1) _ (fun i h1 h2 => if_neg (by omega)), Nat.add_mul, hv, show r + 1 + dl = r + dl + 1 by omega]
    generalize valD (seg g (r + dl + 1) (nd - (r + 1))) = O
    generalize (f r).toNat - 48 = x
    rw [Nat.pow_succ]
    generalize 10 ^ (nd - (r + 1)) = T
    have hd := Nat.div_add_mod (n + x * K) 10
    generalize (n + x * K) / 10 = q at *
    generalize (n + x * K) % 10 = m at *
    rw [show x * T * K = x * K * T by rw [Nat.mul_assoc, Nat.mul_comm T, ← Nat.mul_assoc], ← Nat.add_assoc, ← Nat.add_mul, Nat.add_comm (x * K), ← hd, Nat.add_mul, show q * (T * 10) = 10 * q * T by rw [Nat.mul_comm T, ← Nat.mul_assoc, Nat.mul_comm q], Nat.add_assoc]
  · have : ((f r).toNat - 48) * K ≤ 9 * K := Nat.mul_le_mul_right _ (by omega)
    omega
  · by_cases e : i = r + dl
    · rw [if_pos e, hc]
      omega
    · rw [if_neg e]
      exact h.dig i (by omega) h2
  · rw [if_neg (by omega)]
    exact h.rest i (by omega)
/-- .. and ahead of the first digit: those from a on. -/
structure Car (V L : Nat) (g : Nat → UInt8) (a n : Nat) : Prop where
  le : a ≤ L
  val : V = n * 10 ^ (L - a) + valD (seg g a (L - a))
  dig : ∀ i, a ≤ i → i < L → 48 ≤ (g i).toNat ∧ (g i).toNat ≤ 57
theorem Mul.car {f : Nat → UInt8} {nd K dl : Nat} {g : Nat → UInt8} {n : Nat} (h : Mul f nd K dl g 0 n) : Car (valD (pre f nd) * K) (nd + dl) g dl n :=
  ⟨by omega, by have := h.val; rw [Nat.sub_zero, seg_pre, Nat.zero_add] at this; rw [show nd + dl - dl = nd by omega]; exact this, fun i h1 h2 => h.dig i (by omega) h2⟩
theorem Car.step {V L : Nat} {g : Nat → UInt8} {a n : Nat} (h : Car V L g (a + 1) n) (c : UInt8) (hc : c.toNat = n % 10 + 48) : Car V L (fun i => if i = a then c else g i) a (n / 10) := by
  have hle := h.le
  have e1 : L - a = L - (a + 1) + 1 := by omega
  refine ⟨by omega, ?_, fun i h1 h2 => ?_⟩
  · rw [e1, seg_cons, valD_cons, seg_length, if_pos rfl, hc, Nat.add_sub_cancel, seg_congr (fun i => if i = a then c else g i) g (a + 1) _ (fun i h1 h2 => if_neg (by omega)), h.val, Nat.pow_succ]
    generalize 10 ^ (L - (a + 1)) = T
    have hd := Nat.div_add_mod n 10
    generalize n / 10 = q at *
    generalize n % 10 = m at *
    rw [← hd, Nat.add_mul, show q * (T * 10) = 10 * q * T by rw [Nat.mul_comm T, ← Nat.mul_assoc, Nat.mul_comm q], Nat.add_assoc]
  · by_cases e : i = a
    · rw [if_pos e, hc]
      omega
    · rw [if_neg e]
      exact h.dig i (by omega) h2
theorem seg_digs {g : Nat → UInt8} {a l L : Nat} (h : ∀ i, a ≤ i → i < L → 48 ≤ (g i).toNat ∧ (g i).toNat ≤ 57) (hl : a + l ≤ L) : Digs (seg g a l) := fun b hb => by
  obtain ⟨i, hi, rfl⟩ := List.mem_iff_getElem.1 hb
  rw [seg_get]
  rw [seg_length] at hi
  exact h _ (by omega) (by omega)
/-- Something is carried: there is room. -/
theorem Car.room {V L : Nat} {g : Nat → UInt8} {a n : Nat} (h : Car V L g a n) (hV : V < 10 ^ L) (hn : 0 < n) : 0 < a := by
  rcases Nat.eq_zero_or_pos a with e | e
  · subst e
    have hv := h.val
    rw [Nat.sub_zero] at hv
    have : 1 * 10 ^ L ≤ n * 10 ^ L := Nat.mul_le_mul_right _ hn
    omega
  · exact e
/-- Nothing is carried: the first place is reached. -/
theorem Car.done {V L : Nat} {g : Nat → UInt8} {a : Nat} (h : Car V L g a 0) (hL : 0 < L) (hV : 10 ^ (L - 1) ≤ V) : a = 0 ∧ V = valD (pre g L) ∧ (g 0).toNat ≠ 48 := by
  have hv := h.val
  rw [Nat.zero_mul, Nat.zero_add] at hv
  have hlt := valD_lt_pow (seg g a (L - a)) (seg_digs h.dig (by have := h.le; omega))
  rw [seg_length, ← hv] at hlt
  have ha : a = 0 := by
    rcases Nat.eq_zero_or_pos a with e | e
    · exact e
    · have : 10 ^ (L - a) ≤ 10 ^ (L - 1) := Nat.pow_le_pow_right (by decide) (by omega)
      omega
  subst ha
  rw [Nat.sub_zero, seg_pre] at hv
  refine ⟨rfl, hv, fun h0 => ?_⟩
  obtain ⟨l, rfl⟩ : ∃ l, L = l + 1 := ⟨L - 1, by omega⟩
  rw [← seg_pre, seg_cons, valD_cons, h0, Nat.sub_self, Nat.zero_mul, Nat.zero_add] at hv
  have := valD_lt_pow (seg g (0 + 1) l) (seg_digs (L := l + 1) (fun i h1 h2 => h.dig i (by omega) h2) (by omega))
  rw [seg_length, ← hv] at this
  rw [Nat.add_sub_cancel] at hV
  omega
end Go.Proofs.YtdbbmknjldapbaaGreatDoor
