/-
  What the encoder has written when its loop over a string stands at byte k: plain laws on lists, no program.
-/
import Derived.Test.YtcajagjgbalakaaGreatFmtEscB
import Derived.Test.YtcajagjgbalakaaGreatFmtWriter
namespace Go.Proofs.YtcajagjgbalakaaGreatFmt
set_option linter.unusedVariables false
set_option linter.unusedSimpArgs false
open Go.RowKit

/-- Written: P; pending: the bytes from a to k; to come: what the bytes from k stand for. F: all of it. -/
structure Mid (L F P : List UInt8) (a k : Nat) : Prop where
  ak : a ≤ k
  kl : k ≤ L.length
  txt : P ++ ((L.drop a).take (k - a) ++ escL (L.drop k)) = F

theorem Mid.start (L P : List UInt8) : Mid L (P ++ escL L) P 0 0 := ⟨Nat.le_refl _, Nat.zero_le _, by simp⟩

theorem Mid.stop {L F P : List UInt8} {a : Nat} (h : Mid L F P a L.length) : P ++ L.drop a = F := by
  have := h.txt
  rw [List.drop_length, escL_nil, List.append_nil, List.take_of_length_le (by simp)] at this
  exact this

theorem take_more (L : List UInt8) (a k m : Nat) (h : a ≤ k) (hk : k + m ≤ L.length) : (L.drop a).take (k - a) ++ (L.drop k).take m = (L.drop a).take (k + m - a) := by
  rw [show k + m - a = (k - a) + m by omega, List.take_add, List.drop_drop, show a + (k - a) = k by omega]

/-- The rune at k passes as it is. -/
theorem Mid.pass {L F P : List UInt8} {a k : Nat} (h : Mid L F P a k) (hk : k < L.length) (m : Nat) (hm : k + m ≤ L.length) (hs : stepE (L.drop k) = ((L.drop k).take m, m)) : Mid L F P a (k + m) := by
  refine ⟨by have := h.ak; omega, hm, ?_⟩
  have t := h.txt
  rw [escL_step (L.drop k) (by intro e; have := congrArg List.length e; simp at this; omega), hs, List.drop_drop] at t
  rw [← take_more L a k m h.ak hm, List.append_assoc]
  exact t

/-- The bytes pending are written. -/
theorem Mid.flush {L F P : List UInt8} {a k : Nat} (h : Mid L F P a k) : Mid L F (P ++ (L.drop a).take (k - a)) k k :=
  ⟨Nat.le_refl _, h.kl, by rw [Nat.sub_self, List.take_zero, List.nil_append, List.append_assoc]; exact h.txt⟩

/-- The rune at k is written otherwise: E in its place. -/
theorem Mid.esc {L F P : List UInt8} {k : Nat} (h : Mid L F P k k) (hk : k < L.length) (E : List UInt8) (hs : stepE (L.drop k) = (E, 1)) : Mid L F (P ++ E) (k + 1) (k + 1) := by
  refine ⟨Nat.le_refl _, hk, ?_⟩
  have t := h.txt
  rw [escL_step (L.drop k) (by intro e; have := congrArg List.length e; simp at this; omega), hs, List.drop_drop, Nat.sub_self, List.take_zero, List.nil_append] at t
  rw [Nat.sub_self, List.take_zero, List.nil_append, List.append_assoc]
  exact t

/-- What stands written at any point is a beginning of the whole. -/
theorem Mid.pre {L F P : List UInt8} {a k : Nat} (h : Mid L F P a k) : ∃ B, P ++ B = F ++ [34] := ⟨_, by rw [← h.txt, List.append_assoc]⟩
theorem Mid.preEsc {L F P : List UInt8} {k : Nat} (h : Mid L F P k k) (hk : k < L.length) (E E1 E2 : List UInt8) (hs : stepE (L.drop k) = (E, 1)) (he : E = E1 ++ E2) : ∃ B, (P ++ E1) ++ B = F ++ [34] := by
  obtain ⟨B, hB⟩ := (h.esc hk E hs).pre
  exact ⟨E2 ++ B, by rw [← hB, he]; simp only [List.append_assoc]⟩

theorem plain_of (b : UInt8) (h1 : 32 ≤ b.toNat) (h2 : b.toNat ≤ 126) (h3 : b.toNat ≠ 34) (h4 : b.toNat ≠ 92) : plainB b = true := by
  have ne : ∀ c : UInt8, b.toNat ≠ c.toNat → ¬ b = c := fun c hc e => hc (by rw [e])
  unfold plainB
  simp [h1, h2, ne 34 h3, ne 92 h4]
theorem drop_head (L : List UInt8) (k : Nat) (b : UInt8) (h : L[k]? = some b) : L.drop k = b :: L.drop (k + 1) := by
  obtain ⟨hk, e⟩ := List.getElem?_eq_some_iff.1 h
  rw [List.drop_eq_getElem_cons hk, e]
theorem step_plain (L : List UInt8) (k : Nat) (b : UInt8) (h : L[k]? = some b) (h1 : b.toNat < 128) (h2 : plainB b = true) : stepE (L.drop k) = ((L.drop k).take 1, 1) := by
  rw [drop_head L k b h]
  simp [stepE, h1, h2]
theorem step_esc (L : List UInt8) (k : Nat) (b : UInt8) (h : L[k]? = some b) (h1 : b.toNat < 128) (h2 : ¬ plainB b = true) : stepE (L.drop k) = (escB b, 1) := by
  rw [drop_head L k b h]
  simp [stepE, h1, h2]
theorem step_at (L : List UInt8) (k : Nat) (b : UInt8) (h : L[k]? = some b) (c : UInt8) (hc : b.toNat = c.toNat) (h1 : c.toNat < 128) (h2 : plainB c = false) : stepE (L.drop k) = (escB c, 1) := by
  obtain rfl : b = c := UInt8.toNat_inj.1 hc
  exact step_esc L k b h h1 (by rw [h2]; decide)
theorem step_def (L : List UInt8) (k : Nat) (b : UInt8) (h : L[k]? = some b) (h1 : b.toNat < 32 ∨ b.toNat = 127) (h2 : ¬ (b.toNat = 8 ∨ b.toNat = 12 ∨ b.toNat = 10 ∨ b.toNat = 13 ∨ b.toNat = 9)) :
    stepE (L.drop k) = ([92, 117, 48, 48, hexd (b.toNat / 16), hexd (b.toNat % 16)], 1) := by
  have ne : ∀ c : UInt8, b.toNat ≠ c.toNat → ¬ b = c := fun c hc e => hc (by rw [e])
  rw [step_esc L k b h (by omega) (by unfold plainB; simp; omega)]
  unfold escB
  rw [if_neg (ne 34 (by show _ ≠ 34; omega)), if_neg (ne 92 (by show _ ≠ 92; omega)), if_neg (ne 8 (by show _ ≠ 8; omega)), if_neg (ne 12 (by show _ ≠ 12; omega)), if_neg (ne 10 (by show _ ≠ 10; omega)), if_neg (ne 13 (by show _ ≠ 13; omega)), if_neg (ne 9 (by show _ ≠ 9; omega))]
theorem step_bad (L : List UInt8) (k : Nat) (b : UInt8) (h : L[k]? = some b) (h1 : ¬ b.toNat < 128) (h2 : (Lib.decodeL (L.drop k)).1 = 65533 ∧ (Lib.decodeL (L.drop k)).2 = 1) : stepE (L.drop k) = ([92, 117, 102, 102, 102, 100], 1) := by
  rw [drop_head L k b h] at h2 ⊢
  simp only [stepE]
  rw [if_neg h1, if_pos h2]
theorem step_rune (L : List UInt8) (k : Nat) (b : UInt8) (h : L[k]? = some b) (h1 : ¬ b.toNat < 128) (h2 : ¬ ((Lib.decodeL (L.drop k)).1 = 65533 ∧ (Lib.decodeL (L.drop k)).2 = 1)) : stepE (L.drop k) = ((L.drop k).take (Lib.decodeL (L.drop k)).2, (Lib.decodeL (L.drop k)).2) := by
  rw [drop_head L k b h] at h2 ⊢
  simp only [stepE]
  rw [if_neg h1, if_neg h2]

theorem and15 (b : Nat) (h : b < 32) : bits BinOp.and IntKind.u8 (b : Int) 15 = ((b % 16 : Nat) : Int) := by
  have q : ∀ b : Fin 32, bits BinOp.and IntKind.u8 ((b.val : Nat) : Int) 15 = ((b.val % 16 : Nat) : Int) := by decide
  exact q ⟨b, h⟩
theorem hex_at (m : Nat) (h : m < (⟨#[48, 49, 50, 51, 52, 53, 54, 55, 56, 57, 97, 98, 99, 100, 101, 102]⟩ : ByteArray).size) : (⟨#[48, 49, 50, 51, 52, 53, 54, 55, 56, 57, 97, 98, 99, 100, 101, 102]⟩ : ByteArray)[m] = hexd m := by
  have h' : m < 16 := h
  have q : ∀ m : Fin 16, (⟨#[48, 49, 50, 51, 52, 53, 54, 55, 56, 57, 97, 98, 99, 100, 101, 102]⟩ : ByteArray)[m.val]'m.isLt = hexd m.val := by decide
  exact q ⟨m, h'⟩

/-- The writer is full in the midst: how the whole ends. -/
theorem wrote_full {S : Nat → Prop} {w w' : World} {bw bb n : Nat} {A full : List UInt8} {v : Value} (hO : Only S w w') (hp : ∃ B, A ++ B = full) (h1 : n ≤ A.length) (u : TypeId) (pv : Value) (h3 : LW w' bw bb n (A.take n)) :
    Wrote S w bw bb n full v (.panicked [{ v := .iface u pv, recovered := false }]) w' := by
  obtain ⟨B, rfl⟩ := hp
  refine ⟨hO, Or.inr ⟨by simp; omega, ⟨u, pv, rfl⟩, ?_⟩⟩
  rw [List.take_append_of_le_length h1]
  exact h3
end Go.Proofs.YtcajagjgbalakaaGreatFmt
