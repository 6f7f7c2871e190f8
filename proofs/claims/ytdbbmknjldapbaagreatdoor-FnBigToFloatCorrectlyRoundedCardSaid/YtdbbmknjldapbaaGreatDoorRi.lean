/-
  The library's decimal rounded to a whole number (internal/strconv.shouldRoundUp, RoundedInteger), walked.
-/
import Derived.Test.YtdbbmknjldapbaaGreatDoorSh
import Derived.Test.YtdbbmknjldapbaaGreatDoorBigF
namespace Go.Proofs.YtdbbmknjldapbaaGreatDoor
set_option linter.unusedVariables false
set_option linter.unusedSimpArgs false
open Go.RowKit Go.Lib

theorem NumF.below {f : Nat → UInt8} {nd dp p e : Nat} (h : NumF f nd dp p e) : p < 2 ^ e * 10 ^ dp := by
  have h1 := valD_lt_pow (pre f nd) h.digs
  rw [pre_length] at h1
  have h2 := h.val
  have hp := Nat.mul_pos (Nat.two_pow_pos e) (Nat.pow_pos (n := dp) (show 0 < 10 by decide))
  have h3 := (Nat.mul_lt_mul_right hp).2 h1
  rw [← Nat.mul_assoc, h2] at h3
  refine Nat.lt_of_mul_lt_mul_right (a := 10 ^ nd) ?_
  rw [Nat.mul_comm (2 ^ e * 10 ^ dp)]
  exact h3
theorem NumF.above {f : Nat → UInt8} {nd dp p e : Nat} (h : NumF f nd dp p e) : 2 ^ e * 10 ^ dp ≤ 10 * p := by
  have h1 := valD_ge_pow (pre f nd) h.digs (by rw [pre_length]; exact h.pos) (by rw [pre_get]; exact h.head)
  rw [pre_length] at h1
  have h2 := h.val
  have h10 := Nat.pow_pos (n := nd) (show 0 < 10 by decide)
  have h3 := Nat.mul_le_mul_right (2 ^ e * 10 ^ dp) h1
  rw [← Nat.mul_assoc (valD _), h2] at h3
  have e1 : 10 ^ nd = 10 * 10 ^ (nd - 1) := by
    obtain ⟨m, rfl⟩ : ∃ m, nd = m + 1 := ⟨nd - 1, by have := h.pos; omega⟩
    rw [Nat.add_sub_cancel, Nat.pow_succ']
  refine Nat.le_of_mul_le_mul_right (?_ : 2 ^ e * 10 ^ dp * 10 ^ nd ≤ 10 * p * 10 ^ nd) h10
  calc 2 ^ e * 10 ^ dp * 10 ^ nd = 10 * (10 ^ (nd - 1) * (2 ^ e * 10 ^ dp)) := by rw [e1]; simp only [Nat.mul_assoc, Nat.mul_comm, Nat.mul_left_comm]
    _ ≤ 10 * (p * 10 ^ nd) := Nat.mul_le_mul_left _ h3
    _ = 10 * p * 10 ^ nd := by rw [Nat.mul_assoc]
/-- The whole part and the rest. -/
theorem NumF.parts {f : Nat → UInt8} {nd dp p e : Nat} (h : NumF f nd dp p e) (hd : dp < nd) :
    p / 2 ^ e = VV (pre f nd) dp ∧ p % 2 ^ e * 10 ^ (nd - dp) = valD (seg f dp (nd - dp)) * 2 ^ e := by
  have hsplit : pre f nd = pre f dp ++ seg f dp (nd - dp) := by
    apply List.ext_getElem
    · rw [List.length_append, pre_length, pre_length, seg_length]
      omega
    · intro i h1 h2
      rw [pre_get]
      by_cases hi : i < dp
      · rw [List.getElem_append_left (by rw [pre_length]; exact hi), pre_get]
      · rw [List.getElem_append_right (by rw [pre_length]; omega), seg_get]
        congr 1
        rw [pre_length]
        omega
  have hA : VV (pre f nd) dp = valD (pre f dp) := by
    unfold VV
    rw [pre_length, show dp - nd = 0 by omega, Nat.pow_zero, Nat.mul_one, hsplit, List.take_append_of_le_length (by rw [pre_length]; exact Nat.le_refl _), List.take_of_length_le (by rw [pre_length]; exact Nat.le_refl _)]
  have hB := valD_lt_pow (seg f dp (nd - dp)) (seg_digs (L := nd) (fun i h1 h2 => h.dig i h2) (by omega))
  rw [seg_length] at hB
  have hv := h.val
  rw [hsplit, valD_append, seg_length] at hv
  rw [hA]
  have h10 := Nat.pow_pos (n := dp) (show 0 < 10 by decide)
  have hv2 : (valD (pre f dp) * 10 ^ (nd - dp) + valD (seg f dp (nd - dp))) * 2 ^ e = p * 10 ^ (nd - dp) := by
    apply Nat.eq_of_mul_eq_mul_right h10
    rw [hv, Nat.mul_assoc, ← Nat.pow_add, show nd - dp + dp = nd by omega]
  have hl := Nat.pow_pos (n := nd - dp) (show 0 < 10 by decide)
  have hE := Nat.two_pow_pos e
  generalize valD (pre f dp) = A at *
  generalize valD (seg f dp (nd - dp)) = B at *
  generalize 10 ^ (nd - dp) = T at *
  generalize 2 ^ e = E at *
  have hq : p / E = A := by
    apply Nat.div_eq_of_lt_le
    · apply Nat.le_of_mul_le_mul_right _ hl
      rw [← hv2, Nat.add_mul]
      rw [show A * E * T = A * T * E by rw [Nat.mul_assoc, Nat.mul_comm E, ← Nat.mul_assoc]]
      omega
    · apply Nat.lt_of_mul_lt_mul_right (a := T)
      rw [← hv2, Nat.add_mul, Nat.add_mul, Nat.add_mul, Nat.one_mul, show A * E * T = A * T * E by rw [Nat.mul_assoc, Nat.mul_comm E, ← Nat.mul_assoc], Nat.mul_comm E T]
      exact Nat.add_lt_add_left ((Nat.mul_lt_mul_right hE).2 hB) _
  refine ⟨hq, ?_⟩
  have hm := Nat.div_add_mod p E
  rw [hq] at hm
  rw [← hm, Nat.add_mul, Nat.add_mul, show E * A * T = A * T * E by rw [Nat.mul_comm E, Nat.mul_assoc, Nat.mul_comm E, ← Nat.mul_assoc]] at hv2
  have := Nat.add_left_cancel hv2
  exact this.symm
theorem seg_snoc (g : Nat → UInt8) (a l : Nat) : seg g a (l + 1) = seg g a l ++ [g (a + l)] := by simp [seg, List.range_succ]
/-- Whether the digits behind the point round up. -/
def upF (f : Nat → UInt8) (nd dp : Nat) : Bool := if (f dp).toNat = 53 ∧ dp + 1 = nd then decide (((f (dp - 1)).toNat - 48) % 2 ≠ 0) else decide (53 ≤ (f dp).toNat)
theorem NumF.round {f : Nat → UInt8} {nd dp p e : Nat} (h : NumF f nd dp p e) (hd : dp < nd) (hp : 0 < dp) (ht : (f (nd - 1)).toNat ≠ 48) : nev p e = VV (pre f nd) dp + if upF f nd dp = true then 1 else 0 := by
  obtain ⟨h1, h2⟩ := h.parts hd
  obtain ⟨l, hl⟩ : ∃ l, nd - dp = l + 1 := ⟨nd - dp - 1, by omega⟩
  rw [hl, seg_cons, valD_cons, seg_length, Nat.pow_succ'] at h2
  have hc := h.dig dp hd
  have hB' := valD_lt_pow (seg f (dp + 1) l) (seg_digs (L := nd) (fun i h1 h2 => h.dig i h2) (by omega))
  rw [seg_length] at hB'
  have hB0 : 0 < l → 0 < valD (seg f (dp + 1) l) := fun h0 => by
    obtain ⟨m, rfl⟩ : ∃ m, l = m + 1 := ⟨l - 1, by omega⟩
    rw [seg_snoc, valD_append, valD_one]
    have := h.dig (nd - 1) (by omega)
    rw [show dp + 1 + m = nd - 1 by omega]
    omega
  have hBz : l = 0 → valD (seg f (dp + 1) l) = 0 := fun h0 => by subst h0; simp [seg, valD]
  have hodd : VV (pre f nd) dp % 2 = ((f (dp - 1)).toNat - 48) % 2 := by
    have := VVf_in f nd (dp - 1) (by omega)
    rw [show dp - 1 + 1 = dp by omega] at this
    rw [this]
    omega
  have hE := Nat.two_pow_pos e
  have htp := Nat.pow_pos (n := l) (show 0 < 10 by decide)
  have ht1 : l = 0 → 10 ^ l = 1 := fun h0 => by rw [h0]
  unfold nev upF
  rw [h1]
  generalize VV (pre f nd) dp = A at *
  generalize valD (seg f (dp + 1) l) = B' at *
  generalize p % 2 ^ e = R at *
  generalize 2 ^ e = E at *
  generalize 10 ^ l = t at *
  generalize (f (dp - 1)).toNat - 48 = y at *
  obtain ⟨c, hcc⟩ : ∃ c, (f dp).toNat = c + 48 := ⟨(f dp).toNat - 48, by omega⟩
  rw [hcc] at hc h2 ⊢
  rw [Nat.add_sub_cancel] at h2
  -- R * (10 t) = (c t + B') * E
  have k1 : E < 2 * R ↔ 10 * t < 2 * (c * t + B') := by
    constructor
    · intro hh
      apply Nat.lt_of_mul_lt_mul_right (a := E)
      calc 10 * t * E = E * (10 * t) := Nat.mul_comm _ _
        _ < 2 * R * (10 * t) := (Nat.mul_lt_mul_right (by omega)).2 hh
        _ = 2 * ((c * t + B') * E) := by rw [Nat.mul_assoc, h2]
        _ = 2 * (c * t + B') * E := by rw [Nat.mul_assoc]
    · intro hh
      apply Nat.lt_of_mul_lt_mul_right (a := 10 * t)
      calc E * (10 * t) = 10 * t * E := Nat.mul_comm _ _
        _ < 2 * (c * t + B') * E := (Nat.mul_lt_mul_right hE).2 hh
        _ = 2 * R * (10 * t) := by rw [Nat.mul_assoc, ← h2, Nat.mul_assoc]
  have k2 : 2 * R = E ↔ 2 * (c * t + B') = 10 * t := by
    constructor
    · intro hh
      apply Nat.eq_of_mul_eq_mul_right hE
      calc 2 * (c * t + B') * E = 2 * R * (10 * t) := by rw [Nat.mul_assoc, ← h2, Nat.mul_assoc]
        _ = 10 * t * E := by rw [hh, Nat.mul_comm]
    · intro hh
      apply Nat.eq_of_mul_eq_mul_right (show 0 < 10 * t by omega)
      calc 2 * R * (10 * t) = 2 * (c * t + B') * E := by rw [Nat.mul_assoc, h2, Nat.mul_assoc]
        _ = E * (10 * t) := by rw [hh, Nat.mul_comm]
  have hc9 : c ≤ 9 := by omega
  have hdl : dp + 1 = nd ↔ l = 0 := by omega
  simp only [k1, k2, hodd, hdl]
  clear k1 k2 h2 h1 hE hcc hodd hdl hl
  have hcase : c = 0 ∨ c = 1 ∨ c = 2 ∨ c = 3 ∨ c = 4 ∨ c = 5 ∨ c = 6 ∨ c = 7 ∨ c = 8 ∨ c = 9 := by omega
  congr 1
  have hif : ∀ (P Q : Prop) [Decidable P] [Decidable Q], (P ↔ Q) → ((if P then 1 else 0 : Nat) = if Q then 1 else 0) := fun P Q _ _ hPQ => by simp [hPQ]
  apply hif
  by_cases hl0 : l = 0
  · have a := hBz hl0
    have b := ht1 hl0
    rw [a, b]
    by_cases h5 : c = 5
    · subst h5
      rw [if_pos ⟨rfl, hl0⟩, decide_eq_true_eq]
      omega
    · rw [if_neg (by omega), decide_eq_true_eq]
      omega
  · have a := hB0 (by omega)
    rw [if_neg (by omega), decide_eq_true_eq]
    rcases hcase with rfl | rfl | rfl | rfl | rfl | rfl | rfl | rfl | rfl | rfl
    all_goals omega
end Go.Proofs.YtdbbmknjldapbaaGreatDoor
