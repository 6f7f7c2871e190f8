/-
  The bytes that the encoder's encodeString writes, as a function on lists of bytes; plain text passes through; the preview's trimming. No program in this text.
-/
import Derived.Lib.SpaceU
import Derived.Lib.DecodeN
import Derived.Lib.ItoaNum
namespace Go.Proofs.YtcajagjgbalakaaGreatFmt
set_option linter.unusedVariables false
set_option linter.unusedSimpArgs false

/-- One lower-case hexadecimal digit. -/
def hexd (n : Nat) : UInt8 := if n < 10 then UInt8.ofNat (48 + n) else UInt8.ofNat (87 + n)
/-- What is written for an ASCII byte that does not pass as it is. -/
def escB (b : UInt8) : List UInt8 :=
  if b = 34 then [92, 34] else if b = 92 then [92, 92] else if b = 8 then [92, 98] else if b = 12 then [92, 102]
  else if b = 10 then [92, 110] else if b = 13 then [92, 114] else if b = 9 then [92, 116]
  else [92, 117, 48, 48, hexd (b.toNat / 16), hexd (b.toNat % 16)]
/-- An ASCII byte that passes as it is. -/
def plainB (b : UInt8) : Bool := decide (32 ≤ b.toNat) && decide (b.toNat ≤ 126) && (b != 34) && (b != 92)
/-- What is written for the head of l, and how many bytes of l it stands for. -/
def stepE (l : List UInt8) : List UInt8 × Nat :=
  match l with
  | [] => ([], 1)
  | b :: t =>
    if b.toNat < 128 then (if plainB b = true then ([b], 1) else (escB b, 1))
    else if (Lib.decodeL (b :: t)).1 = 65533 ∧ (Lib.decodeL (b :: t)).2 = 1 then ([92, 117, 102, 102, 102, 100], 1)
    else ((b :: t).take (Lib.decodeL (b :: t)).2, (Lib.decodeL (b :: t)).2)
def escF : Nat → List UInt8 → List UInt8
  | 0, _ => []
  | f + 1, l => if l = [] then [] else (stepE l).1 ++ escF f (l.drop (stepE l).2)
/-- The text of l between the quotes. -/
def escL (l : List UInt8) : List UInt8 := escF l.length l

theorem decode_width (s : ByteArray) (i : Nat) : 1 ≤ (Utf8.decode s i).2 ∧ (Utf8.decode s i).2 ≤ 4 := by
  rw [Lib.decode_at]
  unfold Lib.decodeN
  repeat' split
  all_goals simp
theorem decodeL_width (l : List UInt8) : 1 ≤ (Lib.decodeL l).2 ∧ (Lib.decodeL l).2 ≤ 4 := decode_width _ _

theorem stepE_pos (l : List UInt8) : 1 ≤ (stepE l).2 := by
  unfold stepE
  split
  · simp
  · have := decodeL_width
    split
    · split <;> simp
    · split
      · simp
      · exact (this _).1

theorem escF_enough : ∀ (f g : Nat) (l : List UInt8), l.length ≤ f → l.length ≤ g → escF f l = escF g l
  | 0, g, l, h, _ => by
    obtain rfl : l = [] := List.eq_nil_of_length_eq_zero (by omega)
    cases g <;> simp [escF]
  | f + 1, 0, l, _, h => by
    obtain rfl : l = [] := List.eq_nil_of_length_eq_zero (by omega)
    simp [escF]
  | f + 1, g + 1, l, h1, h2 => by
    unfold escF
    by_cases hl : l = []
    · rw [if_pos hl, if_pos hl]
    · rw [if_neg hl, if_neg hl]
      have hp := stepE_pos l
      have hlen : 0 < l.length := List.length_pos_iff.2 hl
      rw [escF_enough f g (l.drop (stepE l).2) (by simp; omega) (by simp; omega)]

theorem escL_nil : escL [] = [] := rfl
theorem escL_step (l : List UInt8) (h : l ≠ []) : escL l = (stepE l).1 ++ escL (l.drop (stepE l).2) := by
  have hp := stepE_pos l
  have hlen : 0 < l.length := List.length_pos_iff.2 h
  unfold escL
  obtain ⟨n, hn⟩ : ∃ n, l.length = n + 1 := ⟨l.length - 1, by omega⟩
  rw [hn]
  conv => lhs; unfold escF
  rw [if_neg h, escF_enough n (l.drop (stepE l).2).length (l.drop (stepE l).2) (by simp; omega) (Nat.le_refl _)]

/-- The whole text of a string: between two quotes. -/
def quoted (l : List UInt8) : List UInt8 := 34 :: (escL l ++ [34])

theorem escL_plain_cons (b : UInt8) (t : List UInt8) (h1 : b.toNat < 128) (h2 : plainB b = true) : escL (b :: t) = b :: escL t := by
  rw [escL_step _ (by simp)]
  simp [stepE, h1, h2]
theorem escL_esc_cons (b : UInt8) (t : List UInt8) (h1 : b.toNat < 128) (h2 : ¬ plainB b = true) : escL (b :: t) = escB b ++ escL t := by
  rw [escL_step _ (by simp)]
  simp [stepE, h1, h2]

/-- A string all of whose bytes pass. -/
theorem escL_safe : ∀ (l : List UInt8), (∀ b ∈ l, plainB b = true) → escL l = l
  | [], _ => rfl
  | b :: t, h => by
    have hb := h b (by simp)
    have hlt : b.toNat < 128 := by
      unfold plainB at hb
      simp at hb
      omega
    rw [escL_plain_cons b t hlt hb, escL_safe t (fun c hc => h c (by simp [hc]))]

/-- The preview's trimming: runes are struck off the end till at most m bytes are left. -/
def trimTo (m : Nat) : Nat → List UInt8 → List UInt8
  | 0, l => l
  | f + 1, l => if m < l.length then trimTo m f (l.take (l.length - (Lib.decodeLastL l).2)) else l

theorem decodeLastL_width (l : List UInt8) (h : l ≠ []) : 1 ≤ (Lib.decodeLastL l).2 ∧ (Lib.decodeLastL l).2 ≤ 4 ∧ (Lib.decodeLastL l).2 ≤ l.length := by
  have hlen : 0 < l.length := List.length_pos_iff.2 h
  unfold Lib.decodeLastL
  rw [if_neg h]
  split
  · simp; omega
  · simp only
    have := decodeL_width (l.drop (Lib.lastStart l))
    split
    · omega
    · simp; omega

theorem trimTo_enough (m : Nat) : ∀ (f g : Nat) (l : List UInt8), l.length ≤ f → l.length ≤ g → trimTo m f l = trimTo m g l
  | 0, g, l, h, _ => by
    obtain rfl : l = [] := List.eq_nil_of_length_eq_zero (by omega)
    cases g <;> simp [trimTo]
  | f + 1, 0, l, _, h => by
    obtain rfl : l = [] := List.eq_nil_of_length_eq_zero (by omega)
    simp [trimTo]
  | f + 1, g + 1, l, h1, h2 => by
    unfold trimTo
    by_cases hl : m < l.length
    · rw [if_pos hl, if_pos hl]
      have hne : l ≠ [] := by intro e; subst e; simp at hl
      have hw := decodeLastL_width l hne
      exact trimTo_enough m f g _ (by simp; omega) (by simp; omega)
    · rw [if_neg hl, if_neg hl]

def trimmed (m : Nat) (l : List UInt8) : List UInt8 := trimTo m l.length l
theorem trimmed_le (m : Nat) (l : List UInt8) (h : l.length ≤ m) : trimmed m l = l := by
  unfold trimmed
  cases hl : l.length with
  | zero => simp [trimTo]
  | succ n => unfold trimTo; rw [if_neg (by omega)]
theorem trimmed_step (m : Nat) (l : List UInt8) (h : m < l.length) : trimmed m l = trimmed m (l.take (l.length - (Lib.decodeLastL l).2)) := by
  have hne : l ≠ [] := by intro e; subst e; simp at h
  have hw := decodeLastL_width l hne
  unfold trimmed
  obtain ⟨n, hn⟩ : ∃ n, l.length = n + 1 := ⟨l.length - 1, by omega⟩
  conv => lhs; rw [hn]; unfold trimTo
  rw [if_pos h]
  exact trimTo_enough m _ _ _ (by simp; omega) (Nat.le_refl _)

/-- The preview of a value that is no array and no object: 'full' is the whole JSON text, 'tail' what stands for the rest. -/
def previewOf (full tail : List UInt8) : List UInt8 :=
  if full.length ≤ 30 then full else trimmed (30 - tail.length) (full.take 32) ++ tail
/-- The trailing text of a string's preview. -/
def dots : List UInt8 := [32, 46, 46, 46, 34]

/-- Of bytes that are all ASCII just the surplus is struck. -/
theorem trimmed_ascii (m : Nat) : ∀ (k : Nat) (l : List UInt8), l.length = m + k → (∀ b ∈ l, b.toNat < 128) → trimmed m l = l.take m
  | 0, l, hl, _ => by rw [trimmed_le m l (by omega), List.take_of_length_le (by omega)]
  | k + 1, l, hl, ha => by
    have hne : l ≠ [] := by intro e; subst e; simp at hl
    have hd : (Lib.decodeLastL l).2 = 1 := by
      unfold Lib.decodeLastL
      rw [if_neg hne, if_pos]
      rw [List.getD_eq_getElem?_getD, List.getElem?_eq_getElem (by omega), Option.getD_some]
      exact ha _ (List.getElem_mem _)
    rw [trimmed_step m l (by omega), hd, trimmed_ascii m k _ (by simp; omega) (fun b hb => ha b (List.mem_of_mem_take hb)), List.take_take]
    congr 1
    omega
end Go.Proofs.YtcajagjgbalakaaGreatFmt
