/-
  Runes found by the laws' own length; texts that the encoder writes as they are; every preview is whole runes. No program in this text.
-/
import Derived.Test.YtcajagjgbalakaaGreatFmtEscB
import Derived.Test.YtcajagjgbalakaaGreatFmtRune
import Derived.Test.YtcajagjgbalakaaGreatFmtRuneLen
namespace Go.Proofs.YtcajagjgbalakaaGreatFmt
set_option linter.unusedVariables false
set_option linter.unusedSimpArgs false

/-- The laws' own length of the rune at place k of L. -/
def lenAt (L : List UInt8) (k : Nat) : Nat := lenZ (L.length - k) (at_ L k) (at_ L (k + 1)) (at_ L (k + 2)) (at_ L (k + 3))
theorem lenAt_eq (L : List UInt8) (k : Nat) : lenAt L k = if at_ L k < 128 then 1 else if (Lib.decodeL (L.drop k)).2 = 1 then 0 else (Lib.decodeL (L.drop k)).2 := by
  unfold lenAt
  rw [lenZ_eq _ _ _ _ _ (at_lt _ _) (at_lt _ _) (at_lt _ _) (at_lt _ _), decodeL_eq (L.drop k), at_drop, at_drop, at_drop, at_drop, List.length_drop]
  simp only [Nat.add_zero]
theorem decodeL_low (l : List UInt8) (h : at_ l 0 < 128) : (Lib.decodeL l).2 = 1 := by
  rw [decodeL_eq]
  simp only [Lib.decodeN, if_pos h]
theorem lenAt_rune (L : List UInt8) (k : Nat) (c m : List UInt8) (e : L.drop k = c ++ m) (hc : Rune c) : lenAt L k = c.length := by
  have hd := decodeL_rune c m hc
  have h0 : at_ L k = at_ c 0 := by
    have h1 := at_drop L k 0
    rw [Nat.add_zero, e, at_append_left c m 0 hc.one] at h1
    exact h1.symm
  rw [lenAt_eq, e, hd]
  by_cases h : at_ L k < 128
  · rw [if_pos h]
    have h2 := decodeL_low (c ++ m) (by rw [at_append_left c m 0 hc.one, ← h0]; exact h)
    rw [hd] at h2
    exact h2.symm
  · rw [if_neg h]
    have h1 : c.length ≠ 1 := fun x => h (by rw [h0]; exact hc.asc x)
    rw [if_neg h1]
/-- A rune of more than one byte that the laws' own length finds. -/
theorem lenAt_many (L : List UInt8) (k : Nat) (hk : k < L.length) (h : ¬ at_ L k < 128) (hz : lenAt L k ≠ 0) :
    k + lenAt L k ≤ L.length ∧ 1 ≤ lenAt L k ∧ Rune ((L.drop k).take (lenAt L k)) ∧ escL (L.drop k) = (L.drop k).take (lenAt L k) ++ escL (L.drop (k + lenAt L k)) := by
  have e := lenAt_eq L k
  rw [if_neg h] at e
  have hw := decodeL_width (L.drop k)
  by_cases h1 : (Lib.decodeL (L.drop k)).2 = 1
  · rw [if_pos h1] at e
    exact absurd e hz
  · rw [if_neg h1] at e
    obtain ⟨hr, hle⟩ := rune_head (L.drop k) (by omega)
    rw [← e] at hr hle h1
    rw [List.length_drop] at hle
    have hne : L.drop k ≠ [] := by
      intro x
      have := congrArg List.length x
      simp at this
      omega
    refine ⟨by omega, by omega, hr, ?_⟩
    rw [escL_step _ hne]
    have hst : stepE (L.drop k) = ((L.drop k).take (lenAt L k), lenAt L k) := by
      have h0 : at_ (L.drop k) 0 = at_ L k := by rw [at_drop, Nat.add_zero]
      rw [e] at h1 ⊢
      generalize L.drop k = l at *
      match l, hne with
      | b :: t, _ =>
        have hb : ¬ b.toNat < 128 := by rw [← h0] at h; exact h
        unfold stepE
        simp only [if_neg hb]
        rw [if_neg]
        rintro ⟨_, x⟩
        exact h1 x
    rw [hst, List.drop_drop]
theorem byte_drop (L : List UInt8) (k : Nat) (hk : k < L.length) : L.drop k = L[k] :: L.drop (k + 1) := List.drop_eq_getElem_cons hk
theorem at_get (L : List UInt8) (k : Nat) (hk : k < L.length) : at_ L k = L[k].toNat := by
  unfold at_
  rw [List.getD_eq_getElem?_getD, List.getElem?_eq_getElem hk, Option.getD_some]
/-- An ASCII byte that passes. -/
theorem low_step (L : List UInt8) (k : Nat) (hk : k < L.length) (h1 : 32 ≤ at_ L k) (h2 : at_ L k ≤ 126) (h3 : at_ L k ≠ 34) (h4 : at_ L k ≠ 92) :
    Rune [L[k]] ∧ L.take (k + 1) = L.take k ++ [L[k]] ∧ escL (L.drop k) = [L[k]] ++ escL (L.drop (k + 1)) := by
  rw [at_get L k hk] at h1 h2 h3 h4
  refine ⟨rune_ascii _ (by omega), by rw [List.take_succ_eq_append_getElem hk], ?_⟩
  rw [byte_drop L k hk]
  refine escL_plain_cons _ _ (by omega) ?_
  unfold plainB
  have e3 : L[k] ≠ 34 := fun e => h3 (by rw [e]; rfl)
  have e4 : L[k] ≠ 92 := fun e => h4 (by rw [e]; rfl)
  simp [h1, h2, e3, e4]
/-- SO FAR THE TEXT PASSES AS IT IS. -/
structure Passed (L : List UInt8) (k : Nat) : Prop where
  le : k ≤ L.length
  good : Good (L.take k)
  text : escL L = L.take k ++ escL (L.drop k)
theorem Passed.start (L : List UInt8) : Passed L 0 := ⟨Nat.zero_le _, .nil, rfl⟩
theorem Passed.low {L : List UInt8} {k : Nat} (h : Passed L k) (hk : k < L.length) (h1 : 32 ≤ at_ L k) (h2 : at_ L k ≤ 126) (h3 : at_ L k ≠ 34) (h4 : at_ L k ≠ 92) : Passed L (k + 1) := by
  obtain ⟨a, b, c⟩ := low_step L k hk h1 h2 h3 h4
  refine ⟨hk, ?_, ?_⟩
  · rw [b]; exact .snoc _ _ h.good a
  · rw [h.text, c, b, List.append_assoc]
theorem Passed.many {L : List UInt8} {k : Nat} (h : Passed L k) (hk : k < L.length) (h0 : ¬ at_ L k < 128) (hz : lenAt L k ≠ 0) : Passed L (k + lenAt L k) := by
  obtain ⟨a, a1, b, c⟩ := lenAt_many L k hk h0 hz
  have e : L.take (k + lenAt L k) = L.take k ++ (L.drop k).take (lenAt L k) := by rw [List.take_add]
  refine ⟨a, ?_, ?_⟩
  · rw [e]; exact .snoc _ _ h.good b
  · rw [h.text, c, e, List.append_assoc]
theorem Passed.done {L : List UInt8} (h : Passed L L.length) : escL L = L ∧ Good L := by
  refine ⟨?_, ?_⟩
  · rw [h.text, List.take_length, List.drop_length, escL_nil, List.append_nil]
  · have := h.good
    rwa [List.take_length] at this

theorem preview_good (L : List UInt8) : Good (previewOf (quoted L) dots) := by
  by_cases hl : (quoted L).length ≤ 30
  · rw [previewOf_short _ _ hl]
    exact quoted_good L
  · rw [previewOf_long _ _ (by omega)]
    obtain ⟨r, c, y, h1, h2, h3, h4, h5, h6⟩ := cut_good (quoted_good L) (by omega)
    rw [show 30 - dots.length = 25 from rfl, h1]
    exact h3.append (Good.ascii dots (by decide))
/-- THE CUT OF A LONG TEXT, as places: the greatest start of a rune up to 25. -/
theorem cut_places (L : List UInt8) (hl : 30 < (quoted L).length) : ∃ r, 0 < r ∧ r ≤ 25 ∧ previewOf (quoted L) dots = (quoted L).take r ++ dots ∧ at_ (quoted L) r / 64 ≠ 2 ∧ ∀ j, r < j → j ≤ 25 → at_ (quoted L) j / 64 = 2 := by
  obtain ⟨r, c, y, h1, h2, h3, h4, h5, h6⟩ := cut_good (quoted_good L) hl
  have hc := h5.four
  refine ⟨r.length, by omega, h4, ?_, ?_, fun j hj1 hj2 => ?_⟩
  · rw [previewOf_long _ _ hl, show 30 - dots.length = 25 from rfl, h1, h2, List.take_left]
  · rw [h2, at_append_right r _ _ (Nat.le_refl _), Nat.sub_self, at_append_left c y 0 h5.one]
    exact h5.lead
  · rw [h2, at_append_right r _ _ (by omega), at_append_left c y _ (by omega)]
    exact h5.cont (j - r.length) (by omega) (by omega)
end Go.Proofs.YtcajagjgbalakaaGreatFmt
