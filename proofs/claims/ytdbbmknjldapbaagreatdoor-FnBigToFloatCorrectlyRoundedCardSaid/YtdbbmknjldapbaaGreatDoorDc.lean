/-
  Decimal fractions, shifted by powers of two digit by digit. No program in this text.
-/
import Derived.Test.YtdbbmknjldapbaaGreatDoorParse
namespace Go.Proofs.YtdbbmknjldapbaaGreatDoor
set_option linter.unusedVariables false
set_option linter.unusedSimpArgs false

theorem fold_from : ∀ (l : List UInt8) (v : Nat), l.foldl (fun v b => v * 10 + (b.toNat - 48)) v = v * 10 ^ l.length + valD l
  | [], v => by simp [valD]
  | b :: t, v => by
    unfold valD
    rw [List.foldl_cons, List.foldl_cons, fold_from t, fold_from t (0 * 10 + (b.toNat - 48)), List.length_cons, Nat.pow_succ', Nat.add_mul, Nat.zero_mul, Nat.zero_add, Nat.mul_assoc, Nat.add_assoc]
theorem valD_append (a b : List UInt8) : valD (a ++ b) = valD a * 10 ^ b.length + valD b := by
  unfold valD
  rw [List.foldl_append, fold_from]
  rfl
theorem valD_nil : valD [] = 0 := rfl
theorem valD_one (b : UInt8) : valD [b] = b.toNat - 48 := by simp [valD]
theorem valD_cons (b : UInt8) (l : List UInt8) : valD (b :: l) = (b.toNat - 48) * 10 ^ l.length + valD l := by
  rw [show b :: l = [b] ++ l from rfl, valD_append, valD_one]
def Digs (D : List UInt8) : Prop := ∀ b ∈ D, 48 ≤ b.toNat ∧ b.toNat ≤ 57
theorem Digs.at_ {D : List UInt8} (h : Digs D) (k : Nat) (hk : k < D.length) : 48 ≤ D[k].toNat ∧ D[k].toNat ≤ 57 := h _ (List.getElem_mem hk)
theorem valD_lt_pow : ∀ (D : List UInt8), Digs D → valD D < 10 ^ D.length
  | [], _ => by simp [valD]
  | b :: t, h => by
    have hb := h b (List.mem_cons_self ..)
    have ht := valD_lt_pow t (fun x hx => h x (List.mem_cons_of_mem _ hx))
    rw [valD_cons, List.length_cons, Nat.pow_succ']
    have : (b.toNat - 48) * 10 ^ t.length ≤ 9 * 10 ^ t.length := Nat.mul_le_mul_right _ (by omega)
    omega
theorem valD_ge_pow (D : List UInt8) (hd : Digs D) (hp : 0 < D.length) (h0 : D[0].toNat ≠ 48) : 10 ^ (D.length - 1) ≤ valD D := by
  cases D with
  | nil => simp at hp
  | cons b t =>
    have hb := hd b (List.mem_cons_self ..)
    rw [List.getElem_cons_zero] at h0
    rw [valD_cons, List.length_cons, Nat.add_sub_cancel]
    have : 1 * 10 ^ t.length ≤ (b.toNat - 48) * 10 ^ t.length := Nat.mul_le_mul_right _ (by omega)
    omega
/-- The value of the first r digits, zeros behind the last one. -/
def VV (D : List UInt8) (r : Nat) : Nat := valD (D.take r) * 10 ^ (r - D.length)
def dg (D : List UInt8) (r : Nat) : Nat := if h : r < D.length then D[r].toNat - 48 else 0
theorem VV_zero (D : List UInt8) : VV D 0 = 0 := by simp [VV, valD]
theorem VV_step (D : List UInt8) (r : Nat) : VV D (r + 1) = VV D r * 10 + dg D r := by
  unfold VV dg
  by_cases h : r < D.length
  · rw [dif_pos h, valD_step D r h, show r + 1 - D.length = 0 by omega, show r - D.length = 0 by omega, Nat.pow_zero, Nat.mul_one, Nat.mul_one]
  · rw [dif_neg h, List.take_of_length_le (by omega), List.take_of_length_le (by omega), show r + 1 - D.length = r - D.length + 1 by omega, Nat.pow_succ, Nat.add_zero, Nat.mul_assoc]
theorem VV_in (D : List UInt8) (r : Nat) (h : r < D.length) : VV D (r + 1) = VV D r * 10 + (D[r].toNat - 48) := by
  rw [VV_step]
  unfold dg
  rw [dif_pos h]
theorem VV_out (D : List UInt8) (r : Nat) (h : D.length ≤ r) : VV D (r + 1) = VV D r * 10 := by
  rw [VV_step]
  unfold dg
  rw [dif_neg (by omega), Nat.add_zero]
theorem VV_all (D : List UInt8) (r : Nat) (h : D.length ≤ r) : VV D r = valD D * 10 ^ (r - D.length) := by
  unfold VV
  rw [List.take_of_length_le h]
theorem VV_ge (D : List UInt8) (hd : Digs D) (hp : 0 < D.length) (h0 : D[0].toNat ≠ 48) (r : Nat) : 10 ^ r ≤ VV D (r + 1) := by
  induction r with
  | zero =>
    have := hd.at_ 0 hp
    rw [VV_in D 0 hp, VV_zero]
    omega
  | succ r ih =>
    rw [VV_step, Nat.pow_succ]
    omega
/-- A decimal fraction: digits D, the point behind the dp-th; its value p / 2^e. -/
structure Dec (D : List UInt8) (dp p e : Nat) : Prop where
  digs : Digs D
  pos : 0 < D.length
  head : ∀ h : 0 < D.length, D[0].toNat ≠ 48
  val : valD D * 2 ^ e * 10 ^ dp = p * 10 ^ D.length
/-- .. with nothing but digits that count. -/
def Trimmed (D : List UInt8) : Prop := ∀ h : 0 < D.length, (D[D.length - 1]'(by omega)).toNat ≠ 48
/-- The right shift's end. -/
theorem rs_val (D O : List UInt8) (dp dp' p e k r r1 : Nat) (hv : valD D * 2 ^ e * 10 ^ dp = p * 10 ^ D.length) (hr : D.length ≤ r) (hV : VV D r = valD O * (10 * 2 ^ k)) (hl : O.length + r1 = r) (hp : dp' + r1 = dp + 1) :
    valD O * 2 ^ (e + k) * 10 ^ dp' = p * 10 ^ O.length := by
  have h10 := Nat.pow_pos (n := r1) (show 0 < 10 by decide)
  apply Nat.eq_of_mul_eq_mul_right h10
  rw [VV_all D r hr] at hV
  have e1 : valD O * 2 ^ (e + k) * 10 ^ dp' * 10 ^ r1 = valD O * (10 * 2 ^ k) * 2 ^ e * 10 ^ dp := by
    rw [Nat.mul_assoc _ (10 ^ dp'), ← Nat.pow_add, hp, Nat.pow_succ, Nat.pow_add]
    simp only [Nat.mul_assoc, Nat.mul_comm, Nat.mul_left_comm]
  have e2 : p * 10 ^ O.length * 10 ^ r1 = p * 10 ^ D.length * 10 ^ (r - D.length) := by
    rw [Nat.mul_assoc, Nat.mul_assoc, ← Nat.pow_add, ← Nat.pow_add, hl, show D.length + (r - D.length) = r by omega]
  rw [e1, e2, ← hV, ← hv]
  simp only [Nat.mul_assoc, Nat.mul_comm, Nat.mul_left_comm]
/-- The left shift's end. -/
theorem ls_val (D O : List UInt8) (dp p e k dl : Nat) (hv : valD D * 2 ^ e * 10 ^ dp = p * 10 ^ D.length) (he : k ≤ e) (hO : valD O = valD D * 2 ^ k) (hl : O.length = D.length + dl) :
    valD O * 2 ^ (e - k) * 10 ^ (dp + dl) = p * 10 ^ O.length := by
  rw [hO, hl, Nat.pow_add, Nat.pow_add, Nat.mul_assoc (valD D), ← Nat.pow_add, show k + (e - k) = e by omega, ← Nat.mul_assoc, hv, Nat.mul_assoc]
theorem valD_zeros : ∀ z : Nat, valD (List.replicate z (48 : UInt8)) = 0
  | 0 => rfl
  | z + 1 => by
    rw [List.replicate_succ, valD_cons, valD_zeros z]
    simp
/-- Zeros at the end do not count. -/
theorem trim_val (D : List UInt8) (z dp p e : Nat) (hv : valD (D ++ List.replicate z 48) * 2 ^ e * 10 ^ dp = p * 10 ^ (D ++ List.replicate z 48).length) :
    valD D * 2 ^ e * 10 ^ dp = p * 10 ^ D.length := by
  rw [valD_append, valD_zeros, Nat.add_zero, List.length_append, List.length_replicate, Nat.pow_add] at hv
  have h10 := Nat.pow_pos (n := z) (show 0 < 10 by decide)
  apply Nat.eq_of_mul_eq_mul_right h10
  rw [← Nat.mul_assoc] at hv
  rw [← hv]
  simp only [Nat.mul_assoc, Nat.mul_comm, Nat.mul_left_comm]
/-- One step of the right shift's writing. -/
theorem rs_step (V O n k c : Nat) (h : V = O * (10 * 2 ^ k) + n) : V * 10 + c = (O * 10 + n / 2 ^ k) * (10 * 2 ^ k) + (n % 2 ^ k * 10 + c) := by
  have := Nat.div_add_mod n (2 ^ k)
  generalize 2 ^ k = K at *
  generalize n / K = q at *
  generalize n % K = m at *
  subst h
  rw [← this, Nat.add_mul, Nat.add_mul, Nat.add_mul]
  rw [show O * (10 * K) * 10 = O * 10 * (10 * K) by simp only [Nat.mul_assoc, Nat.mul_comm, Nat.mul_left_comm], show K * q * 10 = q * (10 * K) by simp only [Nat.mul_assoc, Nat.mul_comm, Nat.mul_left_comm]]
  omega
/-- Why the right shift ends: one more factor two a step. -/
theorem rs_two (n t k : Nat) (h : 2 ^ t ∣ n) (ht : t ≤ k) : 2 ^ (t + 1) ∣ n % 2 ^ k * 10 := by
  have h1 : 2 ^ t ∣ n % 2 ^ k := (Nat.dvd_mod_iff (Nat.pow_dvd_pow 2 ht)).2 h
  obtain ⟨c, hc⟩ := h1
  exact ⟨c * 5, by rw [hc, Nat.pow_succ, show (10 : Nat) = 2 * 5 from rfl]; simp only [Nat.mul_assoc, Nat.mul_comm, Nat.mul_left_comm]⟩
theorem rs_end (n k : Nat) (h : 2 ^ k ∣ n) : n % 2 ^ k * 10 = 0 := by rw [Nat.mod_eq_zero_of_dvd h, Nat.zero_mul]
end Go.Proofs.YtdbbmknjldapbaaGreatDoor
