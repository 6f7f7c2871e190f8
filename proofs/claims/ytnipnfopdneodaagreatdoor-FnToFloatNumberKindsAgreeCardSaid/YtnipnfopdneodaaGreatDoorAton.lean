/-
  The library's reading of an int's decimal text as a float: the nearest float.
-/
import Derived.Test.YtnipnfopdneodaaGreatDoorTon
import Derived.Test.YtnipnfopdneodaaGreatDoorUo
import Derived.Test.YtnipnfopdneodaaGreatDoorItoa105
namespace Go.Proofs.YtnipnfopdneodaaGreatDoor
set_option linter.unusedVariables false
set_option linter.unusedSimpArgs false
open Go.RowKit Go.Lib Go.Sort

theorem ba_at (L : List UInt8) (k : Nat) (h : k < L.length) (h' : k < (⟨L.toArray⟩ : ByteArray).size) : (⟨L.toArray⟩ : ByteArray)[k] = L[k] := by
  show (L.toArray)[k] = L[k]
  simp
theorem dec_at (u : Nat) (k : Nat) (h : k < (decDigits u).length) : 48 ≤ (decDigits u)[k].toNat ∧ (decDigits u)[k].toNat ≤ 57 := decDigits_digit u _ (List.getElem_mem h)
/-- parseFloat64 at a whole number. -/
theorem pf_whole (u : Nat) (h1 : 4503599627370496 ≤ u) (h2 : u < 18446744073709551616) (sg : Nat) (hs : sg = 0 ∨ sg = 9223372036854775808) (w : World) (hT : TabF w) :
    Calls Tryz.prog 55 #[.int .u64 (u : Int), .int .i64 0, .int .u64 (sg : Int)] w fun r w' => r = .returned (.tuple #[.float .f64 (sg + rung u), .nilIface]) ∧ Below w.heap.size w w' := by
  obtain ⟨b, b0, b1, b2, b3⟩ := log2_bits u h1 h2
  have hx : u * 2 ^ (64 - b) < 18446744073709551616 := by
    have := (Nat.mul_lt_mul_right (Nat.two_pow_pos (64 - b))).2 b3
    rw [← Nat.pow_add, show b + (64 - b) = 64 by omega] at this
    exact this
  refine pf64 u u b 0 0 9223372036854775808 sg hs (by omega) b1 b2 b3 (by omega) rfl (by omega) (by omega) (by omega) (by decide) ?_ ?_ w hT.pow hT.low
  · generalize u * 2 ^ (64 - b) = X at hx
    omega
  · have e : (2 : Nat) ^ 127 = 2 ^ (64 - b) * 9223372036854775808 * 2 ^ (b + 0) := by
      rw [show (9223372036854775808 : Nat) = 2 ^ 63 from rfl, ← Nat.pow_add, ← Nat.pow_add, show 64 - b + 63 + (b + 0) = 127 by omega]
    rw [e, ← Nat.mul_assoc, ← Nat.mul_assoc]
set_option maxRecDepth 100000 in
theorem atof_itoa (n : Int) (h0 : -9223372036854775808 ≤ n) (h1 : n ≤ 9223372036854775807) (w : World) (hT : TabF w) :
    Calls Tryz.prog 30 #[.string ⟨(itoa n).toArray⟩] w fun e w' => e = .returned (.tuple #[.float .f64 (floatOfInt .f64 n), .int .i64 ((⟨(itoa n).toArray⟩ : ByteArray).size : Int), .nilIface]) ∧ Below w.heap.size w w' := by
  by_cases hneg : n < 0
  · obtain ⟨u, rfl⟩ : ∃ u : Nat, n = -(u : Int) := ⟨n.natAbs, by omega⟩
    have hu1 : 1 ≤ u := by omega
    obtain ⟨b, t, eb, hb⟩ := dec_head u hu1
    have hN : NumAt ⟨(45 :: decDigits u).toArray⟩ 1 (decDigits u) := ⟨by simp [ByteArray.size], decDigits_pos u, dec_length_19 u (by omega), fun k hk hk' => by rw [ba_at _ _ (by simp; omega)]; simp, fun k hk => dec_at u k hk⟩
    have hh : ∀ h : 0 < (decDigits u).length, (decDigits u)[0].toNat ≠ 48 := fun h => by simp only [eb, List.getElem_cons_zero]; exact hb
    have h45 : ∀ h : 0 < (⟨(45 :: decDigits u).toArray⟩ : ByteArray).size, ((⟨(45 :: decDigits u).toArray⟩ : ByteArray)[0]).toNat = 45 := fun _ => rfl
    have hsz := hN.size
    have hps := hN.pos
    have hp1 : 1 < (⟨(45 :: decDigits u).toArray⟩ : ByteArray).size := by omega
    have e1 := hN.at_ 0 (by omega) (by omega)
    have d1 := hN.dig 0 (by omega)
    have e2 : (⟨(45 :: decDigits u).toArray⟩ : ByteArray)[1]'hp1 = (decDigits u)[0]'(by omega) := e1
    have HS := fun w => spec_neg _ hp1 (h45 _) (by rw [e2]; exact d1.1) (by rw [e2]; exact d1.2) w
    have HR := fun w => read_neg _ _ hN h45 hh w
    rw [valD_dec] at HR
    rw [itoa_neg u hu1]
    by_cases hd : u < 4503599627370496
    · exact atof_exact_neg _ _ HS u _ (by omega) (by omega) HR (fun w hT => exact_neg u hu1 hd w hT) w hT
    · rw [float_neg u hu1]
      exact atof_fast_neg _ _ HS u _ (by omega) (by omega) HR (fun w hT => pf_whole u (by omega) (by omega) 9223372036854775808 (Or.inr rfl) w hT) w hT
  · obtain ⟨u, rfl⟩ : ∃ u : Nat, n = u := ⟨n.toNat, by omega⟩
    rw [itoa_nonneg]
    have hN : NumAt ⟨(decDigits u).toArray⟩ 0 (decDigits u) := ⟨by simp [ByteArray.size], decDigits_pos u, dec_length_19 u (by omega), fun k hk hk' => ba_at _ _ hk _, fun k hk => dec_at u k hk⟩
    have hsz := hN.size
    have hps := hN.pos
    have hp0 : 0 < (⟨(decDigits u).toArray⟩ : ByteArray).size := by omega
    have e1 := hN.at_ 0 (by omega) (by omega)
    have d1 := hN.dig 0 (by omega)
    have e2 : (⟨(decDigits u).toArray⟩ : ByteArray)[0]'hp0 = (decDigits u)[0]'(by omega) := e1
    have HS := fun w => spec_pos _ hp0 (by rw [e2]; exact d1.1) (by rw [e2]; exact d1.2) w
    by_cases hu1 : 1 ≤ u
    · obtain ⟨b, t, eb, hb⟩ := dec_head u hu1
      have hh : ∀ h : 0 < (decDigits u).length, (decDigits u)[0].toNat ≠ 48 := fun h => by simp only [eb, List.getElem_cons_zero]; exact hb
      have HR := fun w => read_pos _ _ hN hh w
      rw [valD_dec] at HR
      by_cases hd : u < 4503599627370496
      · exact atof_exact_pos _ _ HS u _ (by omega) (by omega) HR (fun w hT => exact_pos u hd w hT) w hT
      · have hf : floatOfInt .f64 (u : Int) = 0 + rung u := by rw [float_nat, Nat.zero_add]
        rw [hf]
        exact atof_fast_pos _ _ HS u _ (by omega) (by omega) HR (fun w hT => pf_whole u (by omega) (by omega) 0 (Or.inl rfl) w hT) w hT
    · obtain rfl : u = 0 := by omega
      have e48 : decDigits 0 = [48] := zero105
      rw [show floatOfInt .f64 ((0 : Nat) : Int) = 0 from float_nat 0]
      rw [e48] at HS ⊢
      exact atof_zero _ _ HS (fun w => read_zero _ rfl (fun _ => rfl) w) w hT
end Go.Proofs.YtnipnfopdneodaaGreatDoor
