/-
  Insertion into a sorted run, and the search by halves, over lists of integers. No program in this text.
-/
namespace Go.Proofs.YtmbegjbhmeihiaaGreatDoor
set_option linter.unusedVariables false
set_option linter.unusedSimpArgs false

/-- Ascending. -/
def Asc (l : List Int) : Prop := l.Pairwise (· ≤ ·)
theorem Asc.get {l : List Int} (h : Asc l) (i j : Nat) (hij : i ≤ j) (hj : j < l.length) : l[i]'(by omega) ≤ l[j] := by
  rcases Nat.lt_or_ge i j with h1 | h1
  · exact (List.pairwise_iff_getElem.1 h) i j (by omega) hj h1
  · have : i = j := by omega
    subst this
    exact Int.le_refl _
/-- What a round of the inner loop has laid: P stands up to j, then x, then the rest of P, then T. -/
def shiftTo (P T : List Int) (j : Nat) (x : Int) : List Int := P.take j ++ x :: (P.drop j ++ T)
theorem shiftTo_start (P T : List Int) (v : Int) : shiftTo P T P.length v = P ++ v :: T := by simp [shiftTo]
theorem shiftTo_len (P T : List Int) (j : Nat) (x : Int) (hj : j ≤ P.length) : (shiftTo P T j x).length = P.length + 1 + T.length := by
  simp [shiftTo]
  omega
theorem shiftTo_prev (P T : List Int) (j : Nat) (x : Int) (hj : j < P.length) : (shiftTo P T (j + 1) x)[j]? = some P[j] := by
  unfold shiftTo
  rw [List.getElem?_append_left (by rw [List.length_take]; omega), List.getElem?_take, if_pos (by omega), List.getElem?_eq_getElem hj]
theorem shiftTo_step (P T : List Int) (j : Nat) (x : Int) (hj : j < P.length) : (shiftTo P T (j + 1) x).set (j + 1) P[j] = shiftTo P T j P[j] := by
  unfold shiftTo
  have hl : (P.take (j + 1)).length = j + 1 := by rw [List.length_take]; omega
  rw [List.set_append_right _ _ (by omega), hl, Nat.sub_self, List.set_cons_zero]
  have e1 : P.take (j + 1) = P.take j ++ [P[j]] := by rw [List.take_succ_eq_append_getElem hj]
  have e2 : P.drop j = P[j] :: P.drop (j + 1) := List.drop_eq_getElem_cons hj
  rw [e2, e1]
  simp only [List.append_assoc, List.cons_append, List.nil_append]
theorem shiftTo_put (P T : List Int) (j : Nat) (x v : Int) (hj : j ≤ P.length) : (shiftTo P T j x).set j v = shiftTo P T j v := by
  unfold shiftTo
  have hl : (P.take j).length = j := by rw [List.length_take]; omega
  rw [List.set_append_right _ _ (by omega), hl, Nat.sub_self, List.set_cons_zero]
theorem insert_asc (P : List Int) (v : Int) (j : Nat) (hP : Asc P) (hj : j ≤ P.length) (hlo : ∀ (h : 0 < j), P[j - 1]'(by omega) ≤ v) (hhi : ∀ y ∈ P.drop j, v < y) : Asc (P.take j ++ v :: P.drop j) := by
  unfold Asc at hP ⊢
  rw [List.pairwise_append]
  refine ⟨hP.sublist (List.take_sublist _ _), ?_, ?_⟩
  · rw [List.pairwise_cons]
    exact ⟨fun y hy => Int.le_of_lt (hhi y hy), hP.sublist (List.drop_sublist _ _)⟩
  · intro a ha b hb
    obtain ⟨i, hi, rfl⟩ := List.getElem_of_mem ha
    rw [List.length_take] at hi
    rw [List.getElem_take]
    have h1 : P[i]'(by omega) ≤ P[j - 1]'(by omega) := Asc.get hP i (j - 1) (by omega) (by omega)
    have h2 := hlo (by omega)
    rcases List.mem_cons.1 hb with rfl | hb
    · omega
    · have := hhi b hb
      omega
theorem insert_mem (P T : List Int) (v : Int) (j : Nat) (y : Int) : y ∈ P.take j ++ v :: P.drop j ++ T ↔ y ∈ P ++ v :: T := by
  have : y ∈ P ↔ y ∈ P.take j ∨ y ∈ P.drop j := by rw [← List.mem_append, List.take_append_drop]
  simp only [List.mem_append, List.mem_cons, this]
  constructor
  · rintro ((h | h | h) | h)
    · exact Or.inl (Or.inl h)
    · exact Or.inr (Or.inl h)
    · exact Or.inl (Or.inr h)
    · exact Or.inr (Or.inr h)
  · rintro ((h | h) | h | h)
    · exact Or.inl (Or.inl h)
    · exact Or.inl (Or.inr (Or.inr h))
    · exact Or.inl (Or.inr (Or.inl h))
    · exact Or.inr h

/-- The search by halves: what is known of lo and hi. -/
structure Halves (l : List Int) (v : Int) (lo hi : Nat) : Prop where
  le : lo ≤ hi
  top : hi ≤ l.length
  low : ∀ (k : Nat) (h : k < lo), l[k]'(Nat.lt_of_lt_of_le h (Nat.le_trans le top)) < v
  high : ∀ (k : Nat) (h : k < l.length), hi ≤ k → v ≤ l[k]
theorem Halves.start (l : List Int) (v : Int) : Halves l v 0 l.length := ⟨Nat.zero_le _, Nat.le_refl _, fun k h => absurd h (Nat.not_lt_zero _), fun k h h' => by omega⟩
theorem Halves.up {l : List Int} {v : Int} {lo hi : Nat} (h : Halves l v lo hi) (hl : Asc l) (m : Nat) (h1 : lo ≤ m) (h2 : m < hi) (hm : l[m]'(by have := h.top; omega) < v) : Halves l v (m + 1) hi :=
  ⟨by omega, h.top, fun k hk => by have := hl.get k m (by omega) (by have := h.top; omega); omega, h.high⟩
theorem Halves.down {l : List Int} {v : Int} {lo hi : Nat} (h : Halves l v lo hi) (hl : Asc l) (m : Nat) (h1 : lo ≤ m) (h2 : m < hi) (hm : ¬ l[m]'(by have := h.top; omega) < v) : Halves l v lo m :=
  ⟨h1, by have := h.top; omega, h.low, fun k hk hmk => by have := hl.get m k hmk hk; omega⟩
theorem Halves.found {l : List Int} {v : Int} {lo : Nat} (h : Halves l v lo lo) (hl : Asc l) : v ∈ l ↔ ∃ hlt : lo < l.length, l[lo] = v := by
  constructor
  · intro hm
    obtain ⟨k, hk, rfl⟩ := List.getElem_of_mem hm
    rcases Nat.lt_or_ge k lo with h1 | h1
    · exact absurd (h.low k h1) (Int.lt_irrefl _)
    · rcases Nat.lt_or_ge lo l.length with h2 | h2
      · refine ⟨h2, ?_⟩
        have a := h.high lo h2 (Nat.le_refl _)
        have b := hl.get lo k h1 hk
        omega
      · omega
  · rintro ⟨hlt, rfl⟩
    exact List.getElem_mem hlt
end Go.Proofs.YtmbegjbhmeihiaaGreatDoor
