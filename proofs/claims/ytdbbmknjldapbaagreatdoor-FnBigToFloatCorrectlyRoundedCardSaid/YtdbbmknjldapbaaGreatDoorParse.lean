/-
  Reading a decimal numeral back. No program in this text.
-/
import Derived.Test.YtdbbmknjldapbaaGreatDoorNum
namespace Go.Proofs.YtdbbmknjldapbaaGreatDoor
set_option linter.unusedVariables false
set_option linter.unusedSimpArgs false

/-- The number that a list of digits names. -/
def valD (l : List UInt8) : Nat := l.foldl (fun v b => v * 10 + (b.toNat - 48)) 0
theorem valD_snoc (l : List UInt8) (b : UInt8) : valD (l ++ [b]) = valD l * 10 + (b.toNat - 48) := by unfold valD; rw [List.foldl_append]; rfl
theorem valD_dec (u : Nat) : valD (Lib.decDigits u) = u := by
  induction u using Nat.strongRecOn with
  | _ u ih =>
    rw [Lib.decDigits]
    split
    · rename_i h
      show valD ([] ++ [_]) = u
      rw [valD_snoc, UInt8.toNat_ofNat']
      simp [valD]
      omega
    · rename_i h
      rw [valD_snoc, ih (u / 10) (by omega), UInt8.toNat_ofNat']
      omega
theorem fold_ge : ∀ (l : List UInt8) (v : Nat), v ≤ l.foldl (fun v b => v * 10 + (b.toNat - 48)) v
  | [], v => Nat.le_refl _
  | b :: t, v => by
    rw [List.foldl_cons]
    exact Nat.le_trans (by omega) (fold_ge t _)
theorem valD_take (l : List UInt8) (j : Nat) : valD (l.take j) ≤ valD l := by
  conv => rhs; rw [← List.take_append_drop j l]
  unfold valD
  rw [List.foldl_append]
  exact fold_ge _ _
theorem valD_step (l : List UInt8) (j : Nat) (hj : j < l.length) : valD (l.take (j + 1)) = valD (l.take j) * 10 + (l[j].toNat - 48) := by
  rw [List.take_succ_eq_append_getElem hj, valD_snoc]
theorem dec_head (u : Nat) (h : 1 ≤ u) : ∃ b t, Lib.decDigits u = b :: t ∧ b.toNat ≠ 48 := by
  induction u using Nat.strongRecOn with
  | _ u ih =>
    rw [Lib.decDigits]
    split
    · rename_i h'
      exact ⟨_, [], rfl, by rw [UInt8.toNat_ofNat']; omega⟩
    · rename_i h'
      obtain ⟨b, t, e, hb⟩ := ih (u / 10) (by omega) (by omega)
      exact ⟨b, t ++ [_], by rw [e]; rfl, hb⟩
theorem dec_length_19 (u : Nat) (h : u ≤ 9223372036854775808) : (Lib.decDigits u).length ≤ 19 := by
  have aux : ∀ (k u : Nat), u < 10 ^ (k + 1) → (Lib.decDigits u).length ≤ k + 1 := by
    intro k
    induction k with
    | zero =>
      intro u hu
      rw [Lib.decDigits, dif_pos (by simpa using hu)]
      simp
    | succ k ih =>
      intro u hu
      rw [Lib.decDigits]
      split
      · simp
      · rw [List.length_append]
        have := ih (u / 10) (by rw [Nat.pow_succ] at hu; omega)
        simp only [List.length_singleton]
        omega
  exact aux 18 u (by omega)
theorem dec_inj {u v : Nat} (h : Lib.decDigits u = Lib.decDigits v) : u = v := by rw [← valD_dec u, ← valD_dec v, h]
theorem itoa_inj {n m : Int} (h : Lib.itoa n = Lib.itoa m) : n = m := by
  have hd : ∀ u v : Nat, 45 :: Lib.decDigits u ≠ Lib.decDigits v := fun u v e => by
    have := decDigits_digit v 45 (by rw [← e]; simp)
    simp at this
  unfold Lib.itoa at h
  split at h <;> split at h
  · have := dec_inj (List.cons.inj h).2; omega
  · exact absurd h (hd _ _)
  · exact absurd h.symm (hd _ _)
  · have := dec_inj h; omega
end Go.Proofs.YtdbbmknjldapbaaGreatDoor
