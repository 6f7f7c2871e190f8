/-
  The preview of a string whose bytes all pass, and of printable ASCII. No program in this text.
-/
import Derived.Test.YtcajagjgbalakaaGreatFmtEsc
namespace Go.Proofs.YtcajagjgbalakaaGreatFmt
set_option linter.unusedVariables false
set_option linter.unusedSimpArgs false

theorem plainB_ascii {b : UInt8} (h : plainB b = true) : b.toNat < 128 := by
  unfold plainB at h
  simp at h
  omega

theorem previewOf_short (full tail : List UInt8) (h : full.length ≤ 30) : previewOf full tail = full := by
  unfold previewOf; rw [if_pos h]
theorem previewOf_long (full tail : List UInt8) (h : 30 < full.length) : previewOf full tail = trimmed (30 - tail.length) (full.take 32) ++ tail := by
  unfold previewOf; rw [if_neg (by omega)]

theorem preview_ascii (full : List UInt8) (ha : ∀ b ∈ full, b.toNat < 128) (h : 30 < full.length) : previewOf full dots = full.take 25 ++ dots := by
  rw [previewOf_long full dots h]
  have hl : (full.take 32).length = 25 + ((full.take 32).length - 25) := by simp; omega
  have := trimmed_ascii 25 _ (full.take 32) hl (fun b hb => ha b (List.mem_of_mem_take hb))
  rw [show 30 - dots.length = 25 from rfl, this, List.take_take]
  congr 1

theorem quoted_safe (s : List UInt8) (h : ∀ b ∈ s, plainB b = true) : quoted s = 34 :: (s ++ [34]) := by
  unfold quoted; rw [escL_safe s h]
theorem quoted_safe_ascii (s : List UInt8) (h : ∀ b ∈ s, plainB b = true) : ∀ b ∈ quoted s, b.toNat < 128 := by
  rw [quoted_safe s h]
  intro b hb
  simp at hb
  rcases hb with rfl | hb | rfl
  · decide
  · exact plainB_ascii (h b hb)
  · decide
/-- THE PREVIEW OF A STRING WHOSE BYTES ALL PASS. -/
def prevSafe (s : List UInt8) : List UInt8 := if s.length ≤ 28 then 34 :: (s ++ [34]) else 34 :: (s.take 24 ++ dots)
theorem preview_safe (s : List UInt8) (h : ∀ b ∈ s, plainB b = true) : previewOf (quoted s) dots = prevSafe s := by
  unfold prevSafe
  have hq := quoted_safe s h
  by_cases hl : s.length ≤ 28
  · rw [if_pos hl, previewOf_short _ _ (by rw [hq]; simp; omega), hq]
  · rw [if_neg hl, preview_ascii _ (quoted_safe_ascii s h) (by rw [hq]; simp; omega), hq]
    simp only [List.take_succ_cons, List.cons_append]
    rw [List.take_append_of_le_length (by omega)]
theorem prevSafe_length (s : List UInt8) : (prevSafe s).length ≤ 30 := by
  unfold prevSafe
  split <;> simp [dots] <;> omega

/-- The JSON quoting of printable ASCII: only the quote and the backslash are escaped. -/
def escA : List UInt8 → List UInt8
  | [] => []
  | b :: t => (if b = 34 ∨ b = 92 then [92, b] else [b]) ++ escA t
theorem escL_ascii : ∀ (l : List UInt8), (∀ b ∈ l, 32 ≤ b.toNat ∧ b.toNat ≤ 126) → escL l = escA l
  | [], _ => rfl
  | b :: t, h => by
    have hb := h b (by simp)
    have ih := escL_ascii t (fun c hc => h c (by simp [hc]))
    by_cases hp : plainB b = true
    · rw [escL_plain_cons b t (by omega) hp, ih]
      have : ¬ (b = 34 ∨ b = 92) := by
        unfold plainB at hp
        simp at hp
        intro e
        rcases e with e | e
        · exact hp.1.2 e
        · exact hp.2 e
      simp [escA, this]
    · rw [escL_esc_cons b t (by omega) hp, ih]
      have : b = 34 ∨ b = 92 := by
        unfold plainB at hp
        simp at hp
        by_cases e : b = 34
        · exact Or.inl e
        · exact Or.inr (hp hb.1 hb.2 e)
      rcases this with rfl | rfl <;> simp [escA, escB]
theorem escA_ascii : ∀ (l : List UInt8), (∀ b ∈ l, 32 ≤ b.toNat ∧ b.toNat ≤ 126) → ∀ b ∈ escA l, b.toNat < 128
  | [], _, b, hb => by simp [escA] at hb
  | c :: t, h, b, hb => by
    have hc := h c (by simp)
    simp only [escA, List.mem_append] at hb
    rcases hb with hb | hb
    · split at hb
      · simp at hb
        rcases hb with rfl | rfl
        · decide
        · omega
      · simp at hb; subst hb; omega
    · exact escA_ascii t (fun d hd => h d (by simp [hd])) b hb
/-- THE PREVIEW OF PRINTABLE ASCII. -/
def prevAscii (s : List UInt8) : List UInt8 := if (34 :: (escA s ++ [34])).length ≤ 30 then 34 :: (escA s ++ [34]) else (34 :: (escA s ++ [34])).take 25 ++ dots
theorem preview_printable (s : List UInt8) (h : ∀ b ∈ s, 32 ≤ b.toNat ∧ b.toNat ≤ 126) : previewOf (quoted s) dots = prevAscii s := by
  unfold prevAscii
  have hq : quoted s = 34 :: (escA s ++ [34]) := by unfold quoted; rw [escL_ascii s h]
  by_cases hl : (34 :: (escA s ++ [34])).length ≤ 30
  · rw [if_pos hl, hq, previewOf_short _ _ hl]
  · rw [if_neg hl, hq, preview_ascii _ _ (by omega)]
    intro b hb
    simp at hb
    rcases hb with rfl | hb | rfl
    · decide
    · exact escA_ascii s h b hb
    · decide

/-- Any preview of a string has between 2 and 30 bytes and stands between quotes. -/
theorem trimmed_length (m : Nat) : ∀ (k : Nat) (l : List UInt8), l.length ≤ k → (trimmed m l).length ≤ m
  | 0, l, h => by
    obtain rfl : l = [] := List.eq_nil_of_length_eq_zero (by omega)
    simp [trimmed, trimTo]
  | k + 1, l, h => by
    by_cases hl : l.length ≤ m
    · rw [trimmed_le m l hl]; exact hl
    · have hne : l ≠ [] := by intro e; subst e; simp at hl
      have hw := decodeLastL_width l hne
      rw [trimmed_step m l (by omega)]
      exact trimmed_length m k _ (by simp; omega)
end Go.Proofs.YtcajagjgbalakaaGreatFmt
