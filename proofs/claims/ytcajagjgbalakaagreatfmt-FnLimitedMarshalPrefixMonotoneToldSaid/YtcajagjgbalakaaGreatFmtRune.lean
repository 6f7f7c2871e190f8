/-
  Well-formed UTF-8 as a list of runes; what the preview's trimming leaves of such a text; everything that encodeString writes is such a text. No program in this text.
-/
import Derived.Test.YtcajagjgbalakaaGreatFmtEsc
import Derived.Lib.DecodeNEq
namespace Go.Proofs.YtcajagjgbalakaaGreatFmt
set_option linter.unusedVariables false
set_option linter.unusedSimpArgs false

/-- The byte at a place, 0 behind the end. -/
def at_ (l : List UInt8) (i : Nat) : Nat := (l.getD i 0).toNat
theorem at_lt (l : List UInt8) (i : Nat) : at_ l i < 256 := (l.getD i 0).toNat_lt
theorem at_append_left (l m : List UInt8) (i : Nat) (h : i < l.length) : at_ (l ++ m) i = at_ l i := by
  unfold at_; simp only [List.getD_eq_getElem?_getD, List.getElem?_append_left h]
theorem at_append_right (l m : List UInt8) (i : Nat) (h : l.length ≤ i) : at_ (l ++ m) i = at_ m (i - l.length) := by
  unfold at_; simp only [List.getD_eq_getElem?_getD, List.getElem?_append_right h]
theorem at_take (l : List UInt8) (k i : Nat) (h : i < k) : at_ (l.take k) i = at_ l i := by
  unfold at_
  simp only [List.getD_eq_getElem?_getD, List.getElem?_take, if_pos h]
theorem at_drop (l : List UInt8) (k i : Nat) : at_ (l.drop k) i = at_ l (k + i) := by
  unfold at_
  simp only [List.getD_eq_getElem?_getD, List.getElem?_drop]

theorem decodeL_eq (l : List UInt8) : Lib.decodeL l = Lib.decodeN l.length (at_ l 0) (at_ l 1) (at_ l 2) (at_ l 3) := by
  have hg : ∀ i, ((⟨l.toArray⟩ : ByteArray).get! i).toNat = at_ l i := by
    intro i
    unfold at_
    congr 1
    show l.toArray[i]! = _
    by_cases h : i < l.length
    · rw [getElem!_pos l.toArray i (by simpa using h)]
      simp [List.getD, h]
    · rw [getElem!_neg l.toArray i (by simpa using h)]
      simp [List.getD, h]
      rfl
  unfold Lib.decodeL
  rw [Lib.decode_at, hg, hg, hg, hg]
  rfl

/-- How long a rune its first byte announces. -/
def wOf (b : Nat) : Nat := if b < 128 then 1 else if b / 32 = 6 then 2 else if b / 16 = 14 then 3 else if b / 8 = 30 then 4 else 1

theorem decodeN_cases (n b0 b1 b2 b3 : Nat) : (Lib.decodeN n b0 b1 b2 b3).2 = 1 ∨ ((Lib.decodeN n b0 b1 b2 b3).2 = wOf b0 ∧ 2 ≤ wOf b0 ∧ wOf b0 ≤ 4 ∧ wOf b0 ≤ n ∧ 192 ≤ b0 ∧ b1 / 64 = 2 ∧ (3 ≤ wOf b0 → b2 / 64 = 2) ∧ (4 ≤ wOf b0 → b3 / 64 = 2)) := by
  unfold Lib.decodeN wOf
  repeat' split
  all_goals first | (left; rfl) | (right; refine ⟨?_, ?_, ?_, ?_, ?_, ?_, ?_, ?_⟩ <;> simp_all <;> omega) | (exfalso; omega)

set_option maxRecDepth 100000 in
set_option maxHeartbeats 4000000 in
theorem decodeN_stable (n m b0 b1 b2 b3 c2 c3 : Nat) (h : 2 ≤ (Lib.decodeN n b0 b1 b2 b3).2) (hm : (Lib.decodeN n b0 b1 b2 b3).2 ≤ m)
    (h2 : 3 ≤ (Lib.decodeN n b0 b1 b2 b3).2 → c2 = b2) (h3 : 4 ≤ (Lib.decodeN n b0 b1 b2 b3).2 → c3 = b3) : Lib.decodeN m b0 b1 c2 c3 = Lib.decodeN n b0 b1 b2 b3 := by
  revert h hm h2 h3
  unfold Lib.decodeN
  repeat' split
  all_goals intro h hm h2 h3
  all_goals simp at h hm h2 h3
  all_goals first | rfl | (exfalso; omega) | (subst h2; rfl) | (subst h2; subst h3; rfl) | (simp_all; omega)

/-- ONE RUNE, AND NO MORE. -/
structure Rune (c : List UInt8) : Prop where
  ne : c ≠ []
  wid : (Lib.decodeL c).2 = c.length
  asc : c.length = 1 → at_ c 0 < 128

theorem Rune.one {c : List UInt8} (h : Rune c) : 1 ≤ c.length := List.length_pos_iff.2 h.ne
theorem Rune.four {c : List UInt8} (h : Rune c) : c.length ≤ 4 := by rw [← h.wid]; exact (decodeL_width c).2
theorem Rune.facts {c : List UInt8} (h : Rune c) (h2 : 2 ≤ c.length) : c.length = wOf (at_ c 0) ∧ 192 ≤ at_ c 0 ∧ at_ c 1 / 64 = 2 ∧ (3 ≤ c.length → at_ c 2 / 64 = 2) ∧ (4 ≤ c.length → at_ c 3 / 64 = 2) := by
  have hw := h.wid
  rw [decodeL_eq] at hw
  rcases decodeN_cases c.length (at_ c 0) (at_ c 1) (at_ c 2) (at_ c 3) with e | ⟨e, _, _, _, e1, e2, e3, e4⟩
  · omega
  · rw [e] at hw
    exact ⟨hw.symm, e1, e2, fun x => e3 (by omega), fun x => e4 (by omega)⟩
theorem Rune.cont {c : List UInt8} (h : Rune c) (i : Nat) (h1 : 1 ≤ i) (hi : i < c.length) : at_ c i / 64 = 2 := by
  have := h.four
  obtain ⟨_, _, e1, e2, e3⟩ := h.facts (by omega)
  have : i = 1 ∨ i = 2 ∨ i = 3 := by omega
  rcases this with rfl | rfl | rfl
  · exact e1
  · exact e2 (by omega)
  · exact e3 (by omega)
theorem Rune.lead {c : List UInt8} (h : Rune c) : at_ c 0 / 64 ≠ 2 := by
  have h1 := h.one
  by_cases h2 : 2 ≤ c.length
  · have := (h.facts h2).2.1
    omega
  · have := h.asc (by omega)
    omega
theorem rune_ascii (b : UInt8) (h : b.toNat < 128) : Rune [b] := by
  refine ⟨by simp, ?_, fun _ => by simpa [at_] using h⟩
  rw [decodeL_eq]
  simp [Lib.decodeN, at_, h]

/-- What the decoder takes off the head, if it is more than one byte. -/
theorem rune_head (l : List UInt8) (h : 2 ≤ (Lib.decodeL l).2) : Rune (l.take (Lib.decodeL l).2) ∧ (Lib.decodeL l).2 ≤ l.length := by
  have hd := decodeL_eq l
  rcases decodeN_cases l.length (at_ l 0) (at_ l 1) (at_ l 2) (at_ l 3) with e | ⟨e, e0, e4, en, _⟩
  · rw [hd] at h; omega
  · have hle : (Lib.decodeL l).2 ≤ l.length := by rw [hd, e]; exact en
    have hlen : (l.take (Lib.decodeL l).2).length = (Lib.decodeL l).2 := by rw [List.length_take]; omega
    refine ⟨⟨fun x => ?_, ?_, fun x => ?_⟩, hle⟩
    · have := congrArg List.length x
      rw [hlen] at this
      simp at this
      omega
    · rw [hlen, decodeL_eq (l.take _), hlen]
      generalize hk : (Lib.decodeL l).2 = k at h hle hlen ⊢
      rw [at_take l k 0 (by omega), at_take l k 1 (by omega)]
      have hN : (Lib.decodeN l.length (at_ l 0) (at_ l 1) (at_ l 2) (at_ l 3)).2 = k := by rw [← hd]; exact hk
      rw [decodeN_stable l.length k (at_ l 0) (at_ l 1) (at_ l 2) (at_ l 3) _ _ (by omega) (by omega) (fun x => at_take l k 2 (by omega)) (fun x => at_take l k 3 (by omega))]
      exact hN
    · rw [hlen] at x; omega
/-- A rune at the head is what the decoder takes. -/
theorem decodeL_rune (c r : List UInt8) (h : Rune c) : (Lib.decodeL (c ++ r)).2 = c.length := by
  have h1 := h.one
  have hw := h.wid
  rw [decodeL_eq] at hw
  rw [decodeL_eq, at_append_left c r 0 (by omega)]
  by_cases h2 : 2 ≤ c.length
  · rw [at_append_left c r 1 (by omega)]
    rw [decodeN_stable c.length (c ++ r).length (at_ c 0) (at_ c 1) (at_ c 2) (at_ c 3) _ _ (by omega) (by simp; omega) (fun x => at_append_left c r 2 (by omega)) (fun x => at_append_left c r 3 (by omega))]
    exact hw
  · have := h.asc (by omega)
    simp only [Lib.decodeN, if_pos this]
    omega

/-- TEXTS OF WHOLE RUNES. -/
inductive Good : List UInt8 → Prop
  | nil : Good []
  | snoc (l c : List UInt8) : Good l → Rune c → Good (l ++ c)
theorem Good.append {l : List UInt8} (hl : Good l) : ∀ {m : List UInt8}, Good m → Good (l ++ m) := by
  intro m hm
  induction hm with
  | nil => simpa using hl
  | snoc m c _ hc ih => rw [← List.append_assoc]; exact .snoc _ _ ih hc
theorem Good.rune {c : List UInt8} (h : Rune c) : Good c := by simpa using Good.snoc [] c .nil h
theorem Good.cons {c l : List UInt8} (h : Rune c) (hl : Good l) : Good (c ++ l) := (Good.rune h).append hl
theorem Good.ascii : ∀ (l : List UInt8), (∀ b ∈ l, b.toNat < 128) → Good l
  | [], _ => .nil
  | b :: t, h => by
    have := Good.cons (rune_ascii b (h b (by simp))) (Good.ascii t fun c hc => h c (by simp [hc]))
    simpa using this
/-- A text of whole runes that is not empty begins with one. -/
theorem Good.split {l : List UInt8} (h : Good l) : l = [] ∨ ∃ c m, l = c ++ m ∧ Rune c ∧ Good m := by
  induction h with
  | nil => exact Or.inl rfl
  | snoc l c hl hc ih =>
    right
    rcases ih with rfl | ⟨d, m, rfl, hd, hm⟩
    · exact ⟨c, [], by simp, hc, .nil⟩
    · exact ⟨d, m ++ c, by simp, hd, .snoc _ _ hm hc⟩

theorem escB_ascii (b : UInt8) : ∀ x ∈ escB b, x.toNat < 128 := by
  have hx : ∀ n, n < 16 → (hexd n).toNat < 128 := by decide
  have h1 : b.toNat / 16 < 16 := by have := b.toNat_lt; omega
  have h2 : b.toNat % 16 < 16 := by omega
  intro x hxm
  unfold escB at hxm
  repeat' split at hxm
  all_goals simp at hxm
  all_goals first
    | (rcases hxm with rfl | rfl <;> decide)
    | (rcases hxm with rfl | rfl | rfl | rfl | rfl | rfl <;> first | decide | exact hx _ h1 | exact hx _ h2)

theorem decodeN_bad (n b0 b1 b2 b3 : Nat) (h : ¬ b0 < 128) (e : (Lib.decodeN n b0 b1 b2 b3).2 = 1) : (Lib.decodeN n b0 b1 b2 b3).1 = 65533 := by
  revert e
  unfold Lib.decodeN
  rw [if_neg h]
  repeat' split
  all_goals intro e
  all_goals first | rfl | (simp at e)

/-- WHATEVER THE STRING: what is written is whole runes. -/
theorem escL_good : ∀ (n : Nat) (l : List UInt8), l.length ≤ n → Good (escL l)
  | 0, l, h => by
    obtain rfl : l = [] := List.eq_nil_of_length_eq_zero (by omega)
    exact .nil
  | n + 1, l, h => by
    by_cases hl : l = []
    · subst hl; exact .nil
    · have hp := stepE_pos l
      have hlen : 0 < l.length := List.length_pos_iff.2 hl
      rw [escL_step l hl]
      refine Good.append ?_ (escL_good n _ (by simp; omega))
      match l, hl with
      | b :: t, _ =>
        unfold stepE
        dsimp only
        split
        · split
          · exact Good.rune (rune_ascii b (by assumption))
          · exact Good.ascii _ (escB_ascii b)
        · split
          · exact Good.ascii _ (by decide)
          · have hw := decodeL_width (b :: t)
            have hne : (Lib.decodeL (b :: t)).2 ≠ 1 := by
              intro e
              have hb : ¬ b.toNat < 128 := by assumption
              have hn : ¬ ((Lib.decodeL (b :: t)).1 = 65533 ∧ (Lib.decodeL (b :: t)).2 = 1) := by assumption
              apply hn
              refine ⟨?_, e⟩
              rw [decodeL_eq] at e ⊢
              have h0 : at_ (b :: t) 0 = b.toNat := rfl
              rw [h0] at e ⊢
              exact decodeN_bad _ _ _ _ _ hb e
            exact Good.rune (rune_head (b :: t) (by omega)).1
theorem quoted_good (l : List UInt8) : Good (quoted l) := by
  have h := Good.append (Good.rune (rune_ascii 34 (by decide))) ((escL_good l.length l (Nat.le_refl _)).append (Good.rune (rune_ascii 34 (by decide))))
  simpa [quoted] using h

theorem ls_at2 (l : List UInt8) (m : Nat) (h : l.length = m + 2) (r2 : Lib.runeStartB (l.getD m 0) = true) : Lib.lastStart l = m := by
  simp_all [Lib.lastStart]
  try (repeat' split)
  all_goals omega
theorem ls_at3 (l : List UInt8) (m : Nat) (h : l.length = m + 3) (r2 : Lib.runeStartB (l.getD (m + 1) 0) = false) (r3 : Lib.runeStartB (l.getD m 0) = true) : Lib.lastStart l = m := by
  simp_all [Lib.lastStart]
  try (repeat' split)
  all_goals omega
theorem ls_at4 (l : List UInt8) (m : Nat) (h : l.length = m + 4) (r2 : Lib.runeStartB (l.getD (m + 2) 0) = false) (r3 : Lib.runeStartB (l.getD (m + 1) 0) = false) (r4 : Lib.runeStartB (l.getD m 0) = true) : Lib.lastStart l = m := by
  simp_all [Lib.lastStart]
  try (repeat' split)
  all_goals omega
theorem start_of (l : List UInt8) (i : Nat) (h : at_ l i / 64 ≠ 2) : Lib.runeStartB (l.getD i 0) = true := by
  unfold Lib.runeStartB; unfold at_ at h; simpa using h
theorem cont_of (l : List UInt8) (i : Nat) (h : at_ l i / 64 = 2) : Lib.runeStartB (l.getD i 0) = false := by
  unfold Lib.runeStartB; unfold at_ at h; simpa using h

theorem lastStart_rune (l c : List UInt8) (h : Rune c) (h2 : 2 ≤ c.length) : Lib.lastStart (l ++ c) = l.length := by
  have h4 := h.four
  have hlead := h.lead
  have hat : ∀ k, k < c.length → at_ (l ++ c) (l.length + k) = at_ c k := by
    intro k hk
    rw [at_append_right l c _ (by omega)]
    congr 1
    omega
  have hlen : (l ++ c).length = l.length + c.length := by simp
  have s0 : Lib.runeStartB ((l ++ c).getD l.length 0) = true := start_of _ _ (by have := hat 0 (by omega); rw [Nat.add_zero] at this; rw [this]; exact hlead)
  have hcase : c.length = 2 ∨ c.length = 3 ∨ c.length = 4 := by omega
  rcases hcase with e | e | e
  · exact ls_at2 _ _ (by omega) s0
  · exact ls_at3 _ _ (by omega) (cont_of _ _ (by rw [hat 1 (by omega)]; exact h.cont 1 (by omega) (by omega))) s0
  · exact ls_at4 _ _ (by omega) (cont_of _ _ (by rw [hat 2 (by omega)]; exact h.cont 2 (by omega) (by omega))) (cont_of _ _ (by rw [hat 1 (by omega)]; exact h.cont 1 (by omega) (by omega))) s0

/-- A whole rune at the end is struck whole. -/
theorem last_good (l c : List UInt8) (h : Rune c) : (Lib.decodeLastL (l ++ c)).2 = c.length := by
  have h1 := h.one
  have hne : l ++ c ≠ [] := by intro e; have := congrArg List.length e; simp only [List.length_append, List.length_nil] at this; omega
  have hlast : ((l ++ c).getD ((l ++ c).length - 1) 0).toNat = at_ c (c.length - 1) := by
    show at_ (l ++ c) _ = _
    rw [at_append_right l c _ (by simp; omega)]
    congr 1
    simp
    omega
  unfold Lib.decodeLastL
  rw [if_neg hne, hlast]
  by_cases h2 : 2 ≤ c.length
  · have hb : ¬ at_ c (c.length - 1) < 128 := by
      have := h.cont (c.length - 1) (by omega) (by omega)
      omega
    rw [if_neg hb, lastStart_rune l c h h2]
    simp only [List.drop_left]
    rw [h.wid, if_pos (by simp)]
    exact h.wid
  · have e : c.length = 1 := by omega
    have := h.asc e
    rw [e, Nat.sub_self, if_pos this]

/-- What is struck, if it is more than one byte, is a rune. -/
theorem last_rune (m : List UInt8) (h : 2 ≤ (Lib.decodeLastL m).2) : ∃ s, s + (Lib.decodeLastL m).2 = m.length ∧ Rune (m.drop s) := by
  unfold Lib.decodeLastL at h ⊢
  by_cases h0 : m = []
  · rw [if_pos h0] at h; simp at h
  · rw [if_neg h0] at h ⊢
    split at h
    · simp at h
    · rename_i hb
      rw [if_neg hb]
      simp only at h ⊢
      split at h
      · rename_i he
        rw [if_pos he]
        refine ⟨Lib.lastStart m, he, ?_⟩
        have hr := (rune_head (m.drop (Lib.lastStart m)) h).1
        rwa [List.take_of_length_le (by simp; omega)] at hr
      · simp at h

/-- A rune's proper beginning at the end is struck byte by byte. -/
theorem last_part (l p q : List UInt8) (hq : q ≠ []) (hp : p ≠ []) (h : Rune (p ++ q)) : (Lib.decodeLastL (l ++ p)).2 = 1 := by
  have hpl : 0 < p.length := List.length_pos_iff.2 hp
  have hql : 0 < q.length := List.length_pos_iff.2 hq
  have hne : l ++ p ≠ [] := by intro e; have := congrArg List.length e; simp only [List.length_append, List.length_nil] at this; omega
  have hw := decodeLastL_width (l ++ p) hne
  rcases Nat.lt_or_ge (Lib.decodeLastL (l ++ p)).2 2 with h2 | h2
  · omega
  · exfalso
    obtain ⟨s, hs, hr⟩ := last_rune _ h2
    generalize (Lib.decodeLastL (l ++ p)).2 = w at *
    have hlen : (l ++ p).length = l.length + p.length := by simp
    have hrl : ((l ++ p).drop s).length = w := by simp only [List.length_drop]; omega
    have hfull : (p ++ q).length = p.length + q.length := by simp
    have hat : ∀ i, i < p.length → at_ (l ++ p) (l.length + i) = at_ (p ++ q) i := by
      intro i hi
      rw [at_append_right l p _ (by omega), at_append_left p q i hi]
      congr 1
      omega
    rcases Nat.lt_trichotomy w p.length with c | c | c
    · have e1 := hr.lead
      rw [at_drop] at e1
      have e2 := hat (p.length - w) (by omega)
      have e3 := h.cont (p.length - w) (by omega) (by omega)
      rw [show l.length + (p.length - w) = s + 0 by omega] at e2
      omega
    · have e0 : s = l.length := by omega
      subst e0
      rw [List.drop_left] at hr
      obtain ⟨f1, _⟩ := hr.facts (by omega)
      obtain ⟨g1, _⟩ := h.facts (by omega)
      rw [at_append_left p q 0 hpl, ← f1] at g1
      omega
    · have e1 := hr.cont (w - p.length) (by omega) (by omega)
      rw [at_drop] at e1
      have e2 := hat 0 hpl
      rw [show s + (w - p.length) = l.length + 0 by omega] at e1
      have e3 := h.lead
      omega

theorem trim_part (M : Nat) (l : List UInt8) (hM : M ≤ l.length) : ∀ (k : Nat) (p q : List UInt8), p.length = k → q ≠ [] → Rune (p ++ q) → trimmed M (l ++ p) = trimmed M l
  | 0, p, q, hk, _, _ => by
    obtain rfl : p = [] := List.eq_nil_of_length_eq_zero hk
    simp
  | k + 1, p, q, hk, hq, h => by
    have hp : p ≠ [] := by intro e; subst e; simp at hk
    rw [trimmed_step M (l ++ p) (by simp; omega), last_part l p q hq hp h]
    have e : (l ++ p).take ((l ++ p).length - 1) = l ++ p.take k := by
      rw [List.take_append]
      simp only [List.length_append]
      rw [List.take_of_length_le (by omega)]
      congr 2
      omega
    rw [e]
    refine trim_part M l hM k (p.take k) (p.drop k ++ q) (by simp; omega) ?_ ?_
    · intro x
      have := congrArg List.length x
      simp at this
      omega
    · rw [← List.append_assoc, List.take_append_drop]; exact h

theorem trim_good (M : Nat) {l : List UInt8} (h : Good l) : ∃ r x, trimmed M l = r ∧ l = r ++ x ∧ Good r ∧ r.length ≤ M ∧ (x = [] ∨ ∃ c y, x = c ++ y ∧ Rune c ∧ M < r.length + c.length) := by
  induction h with
  | nil => exact ⟨[], [], trimmed_le M [] (by simp), rfl, .nil, by simp, Or.inl rfl⟩
  | snoc l c hl hc ih =>
    by_cases hM : (l ++ c).length ≤ M
    · exact ⟨l ++ c, [], trimmed_le M _ hM, by simp, .snoc _ _ hl hc, hM, Or.inl rfl⟩
    · obtain ⟨r, x, e1, e2, e3, e4, e5⟩ := ih
      have hs : trimmed M (l ++ c) = trimmed M l := by
        rw [trimmed_step M (l ++ c) (by omega), last_good l c hc]
        congr 1
        simp
      refine ⟨r, x ++ c, by rw [hs, e1], by rw [e2]; simp, e3, e4, Or.inr ?_⟩
      rcases e5 with rfl | ⟨d, y, rfl, hd, hM2⟩
      · refine ⟨c, [], by simp, hc, ?_⟩
        simp at e2
        subst e2
        simp at hM
        omega
      · exact ⟨d, y ++ c, by simp, hd, hM2⟩

theorem good_take {t : List UInt8} (h : Good t) : ∀ (m : Nat), m ≤ t.length → ∃ l p q, t.take m = l ++ p ∧ Good l ∧ (p = [] ∨ (q ≠ [] ∧ Rune (p ++ q))) := by
  induction h with
  | nil => intro m hm; exact ⟨[], [], [], by simp, .nil, Or.inl rfl⟩
  | snoc l c hl hc ih =>
    intro m hm
    by_cases h1 : m ≤ l.length
    · obtain ⟨l', p, q, e, g, r⟩ := ih m h1
      exact ⟨l', p, q, by rw [List.take_append_of_le_length h1, e], g, r⟩
    · have e : (l ++ c).take m = l ++ c.take (m - l.length) := by
        rw [List.take_append, List.take_of_length_le (by omega)]
      by_cases h2 : c.length ≤ m - l.length
      · exact ⟨l ++ c, [], [], by rw [e, List.take_of_length_le h2]; simp, .snoc _ _ hl hc, Or.inl rfl⟩
      · refine ⟨l, c.take (m - l.length), c.drop (m - l.length), e, hl, Or.inr ⟨?_, by rw [List.take_append_drop]; exact hc⟩⟩
        intro x
        have := congrArg List.length x
        simp at this
        omega

/-- THE PREVIEW's CUT OF A LONG TEXT OF WHOLE RUNES: the greatest boundary up to 25. -/
theorem cut_good {t : List UInt8} (h : Good t) (hl : 30 < t.length) : ∃ r c y, trimmed 25 (t.take 32) = r ∧ t = r ++ (c ++ y) ∧ Good r ∧ r.length ≤ 25 ∧ Rune c ∧ 25 < r.length + c.length := by
  obtain ⟨l, p, q, e, hg, hp⟩ := good_take h (min 32 t.length) (by omega)
  have e32 : t.take 32 = l ++ p := by
    rw [← e]
    by_cases h32 : t.length ≤ 32
    · rw [Nat.min_eq_right h32, List.take_of_length_le h32, List.take_of_length_le (Nat.le_refl _)]
    · rw [Nat.min_eq_left (by omega)]
  have hlen : l.length + p.length = min 32 t.length := by
    have := congrArg List.length e32
    simp at this
    omega
  have hpl : p.length ≤ 3 := by
    rcases hp with rfl | ⟨hq, hr⟩
    · simp
    · have := hr.four
      have hql : 0 < q.length := List.length_pos_iff.2 hq
      simp at this
      omega
  have htr : trimmed 25 (t.take 32) = trimmed 25 l := by
    rw [e32]
    rcases hp with rfl | ⟨hq, hr⟩
    · simp
    · exact trim_part 25 l (by omega) p.length p q rfl hq hr
  obtain ⟨r, x, e1, e2, e3, e4, e5⟩ := trim_good 25 hg
  rcases e5 with rfl | ⟨c, y, rfl, hc, hM⟩
  · simp at e2
    subst e2
    omega
  · refine ⟨r, c, y ++ (p ++ t.drop 32), by rw [htr, e1], ?_, e3, e4, hc, hM⟩
    have := List.take_append_drop 32 t
    rw [e32, e2] at this
    simpa using this.symm
end Go.Proofs.YtcajagjgbalakaaGreatFmt
