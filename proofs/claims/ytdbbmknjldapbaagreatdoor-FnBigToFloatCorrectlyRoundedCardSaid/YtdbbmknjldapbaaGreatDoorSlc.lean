/-
  Slices read as lists: an argument's slice opened; a block of the call's own that a loop fills. No program in this text.
-/
import Derived.Test.YtdbbmknjldapbaaGreatDoorAid
import Derived.ChangeSlices
import Derived.Deep.Strs
import Derived.Laws.MakeOwn
import Derived.DataReads
namespace Go.Proofs.YtdbbmknjldapbaaGreatDoor
set_option linter.unusedVariables false
set_option linter.unusedSimpArgs false
open Go.RowKit Go.ChangeShapes Go.WideShapes

/-- v is a slice whose elements, one cell each, are xs. -/
def SliceOf (w : World) (v : Value) (xs : List Value) : Prop :=
  (xs = [] ∧ ∃ a c, v = .slice a 0 c) ∨ (xs ≠ [] ∧ ∃ b o c, v = .slice (some ⟨b, o, none⟩) xs.length c ∧ b < w.heap.size ∧ ∀ j u, xs[j]? = some u → w.cell? ⟨b, o + j, none⟩ = some u)
theorem SliceOf.on {w w' : World} {v : Value} {xs : List Value} (h : SliceOf w v xs) (hb : Below w.heap.size w w') : SliceOf w' v xs := by
  rcases h with h | ⟨h1, b, o, c, h2, h3, h4⟩
  · exact Or.inl h
  · exact Or.inr ⟨h1, b, o, c, h2, Nat.lt_of_lt_of_le h3 hb.size, fun j u hj => (hb.cell (p := ⟨b, o + j, none⟩) h3).trans (h4 j u hj)⟩
theorem heap_lt {w : World} {b o : Nat} {u : Value} (h : w.cell? ⟨b, o, none⟩ = some u) : b < w.heap.size := by
  rcases Nat.lt_or_ge b w.heap.size with h1 | h1
  · exact h1
  · have : w.heap[b]? = none := by rw [Array.getElem?_eq_none_iff]; exact h1
    simp [World.cell?, this] at h

section
variable {H : Type} {enc : TypeId × Value → H} {P : Program} {W : World}
/-- An argument of type []int. -/
theorem slice_ints {t e : TypeId} (ht : P.underlying t = some (.slice e)) (he : P.underlying e = some (.int .i64)) (hc : P.cellsOf e = 1) {v : Value} {d : DataW H} {p : List MemPlace}
    (hv : ∃ a n c, v = .slice a n c) (h : DataW.Trod enc P W 0 (fun _ => true) true t v d p) :
    ∃ zs : List Int, SliceOf W v (zs.map (Value.int .i64)) ∧ (∀ n ∈ zs, (Lit.int .i64 n).wf = true) ∧ zs.length ≤ maxLen := by
  obtain ⟨a, n, c, rfl⟩ := hv
  obtain ⟨fuel, hf⟩ := h
  rcases open_ints ht he hc hf with ⟨hcs, hx⟩ | ⟨a', len, cap, zs, hcs, _, hl, hm, hz, hx, hcell, hw⟩
  · simp [Value.cells] at hcs
    obtain ⟨rfl, rfl, rfl⟩ := hcs
    exact ⟨[], Or.inl ⟨rfl, _, _, rfl⟩, fun n hn => absurd hn (by simp), Nat.zero_le _⟩
  · simp [Value.cells] at hcs
    obtain ⟨rfl, rfl, rfl⟩ := hcs
    simp only [if_true] at hz
    have hlen : (zs.take n).length = n := by rw [List.length_take]; omega
    refine ⟨zs.take n, ?_, fun m hn => hw m (List.mem_of_mem_take hn), by rw [hlen]; omega⟩
    by_cases h0 : n = 0
    · subst h0
      exact Or.inl ⟨by simp, _, _, rfl⟩
    · obtain ⟨b, o, spot⟩ := a'
      have hspot : spot = none := by simpa [Addr.add] using World.cell?_spot (hcell 0 (by omega))
      subst hspot
      refine Or.inr ⟨fun e0 => h0 (by rw [← hlen, ← List.length_map (f := Value.int .i64), e0]; rfl), b, o, c, by rw [List.length_map, hlen], ?_, fun j u hj => ?_⟩
      · have := hcell 0 (by omega)
        rw [add_plain] at this
        exact heap_lt this
      · have hj' : j < n := by
          have := (List.getElem?_eq_some_iff.1 hj).1
          rw [List.length_map, hlen] at this
          exact this
        have hc1 := hcell j (by omega)
        rw [add_plain] at hc1
        rw [hc1]
        rw [List.getElem?_map, List.getElem?_take, if_pos hj', List.getElem?_eq_getElem (by omega)] at hj
        rw [← hj, List.getD, List.getElem?_eq_getElem (by omega)]
        rfl
/-- An argument of type []string. -/
theorem slice_strs {t e : TypeId} (ht : P.underlying t = some (.slice e)) (he : P.underlying e = some .string) (hc : P.cellsOf e = 1) {v : Value} {d : DataW H} {p : List MemPlace}
    (hv : ∃ a n c, v = .slice a n c) (h : DataW.Trod enc P W 0 (fun _ => true) true t v d p) :
    ∃ ss : List ByteArray, SliceOf W v (ss.map Value.string) ∧ (∀ s ∈ ss, s.size ≤ maxLen) ∧ ss.length ≤ maxLen := by
  obtain ⟨a, n, c, rfl⟩ := hv
  obtain ⟨fuel, hf⟩ := h
  rcases Go.Deep.open_strs ht he hc hf with ⟨hcs, hx⟩ | ⟨a', len, cap, m, Sx, hcs, _, hl, hm, hz, hx, hcell⟩
  · simp [Value.cells] at hcs
    obtain ⟨rfl, rfl, rfl⟩ := hcs
    exact ⟨[], Or.inl ⟨rfl, _, _, rfl⟩, fun n hn => absurd hn (by simp), Nat.zero_le _⟩
  · simp [Value.cells] at hcs
    obtain ⟨rfl, rfl, rfl⟩ := hcs
    simp only [if_true] at hz
    have hlen : ((List.range n).map Sx).length = n := by rw [List.length_map, List.length_range]
    refine ⟨(List.range n).map Sx, ?_, fun s hs => ?_, by rw [hlen]; omega⟩
    · by_cases h0 : n = 0
      · subst h0
        exact Or.inl ⟨by simp, _, _, rfl⟩
      · obtain ⟨b, o, spot⟩ := a'
        have hspot : spot = none := by simpa [Addr.add] using World.cell?_spot (hcell 0 (by omega)).1
        subst hspot
        refine Or.inr ⟨fun e0 => h0 (by rw [← hlen, ← List.length_map (f := Value.string), e0]; rfl), b, o, c, by rw [List.length_map, hlen], ?_, fun j u hj => ?_⟩
        · have := (hcell 0 (by omega)).1
          rw [add_plain] at this
          exact heap_lt this
        · have hj' : j < n := by
            have := (List.getElem?_eq_some_iff.1 hj).1
            rw [List.length_map, hlen] at this
            exact this
          have hc1 := (hcell j (by omega)).1
          rw [add_plain] at hc1
          rw [hc1]
          rw [List.getElem?_map, List.getElem?_map, List.getElem?_range hj'] at hj
          exact hj
    · obtain ⟨i, hi, rfl⟩ := List.mem_map.1 hs
      exact (hcell i (by have := List.mem_range.1 hi; omega)).2
end

/-- A block whose cells are xs. -/
def Row (w : World) (b : Nat) (t : TypeId) (xs : List Value) : Prop := w.heap[b]? = some (.cells xs.toArray t (0, 0))
theorem Row.lt {w : World} {b : Nat} {t : TypeId} {xs : List Value} (h : Row w b t xs) : b < w.heap.size := (Array.getElem?_eq_some_iff.1 h).1
theorem Row.on {w w' : World} {b : Nat} {t : TypeId} {xs : List Value} (h : Row w b t xs) (hb : Below w.heap.size w w') : Row w' b t xs := (hb.block b h.lt).trans h
theorem Row.cell {w : World} {b : Nat} {t : TypeId} {xs : List Value} (h : Row w b t xs) (j : Nat) (hj : j < xs.length) : w.cell? ⟨b, j, none⟩ = some xs[j] := by
  rw [cell_whole h, List.getElem?_eq_getElem hj]
theorem Row.free {w : World} {b : Nat} {t : TypeId} {xs : List Value} (h : Row w b t xs) (j : Nat) : w.frozen? ⟨b, j, none⟩ = false := free_whole h j
theorem Row.slice {w : World} {b : Nat} {t : TypeId} {xs : List Value} (h : Row w b t xs) (c : Nat) : SliceOf w (.slice (some ⟨b, 0, none⟩) xs.length c) xs := by
  by_cases h0 : xs = []
  · subst h0
    exact Or.inl ⟨rfl, _, _, rfl⟩
  · refine Or.inr ⟨h0, b, 0, c, rfl, h.lt, fun j u hj => ?_⟩
    obtain ⟨h1, h2⟩ := List.getElem?_eq_some_iff.1 hj
    rw [Nat.zero_add, h.cell j h1, h2]
theorem Row.set {w : World} {b : Nat} {t : TypeId} {cur : List Value} (h : Row w b t cur) (k : Nat) (v : Value) : Row (w.setCell ⟨b, k, none⟩ v) b t (cur.set k v) := by
  unfold Row at h ⊢
  simp only [World.setCell, Array.getElem?_modify, if_true, h, Option.map_some]
  simp
theorem Row.alloc (w : World) (t : TypeId) (xs : List Value) : Row (w.alloc (.cells xs.toArray t)) w.heap.size t xs := by
  show (w.heap.push _)[w.heap.size]? = _
  simp

def fillTo (xs : List Value) (z : Value) (k : Nat) : List Value := xs.take k ++ List.replicate (xs.length - k) z
theorem fillTo_len (xs : List Value) (z : Value) (k : Nat) (hk : k ≤ xs.length) : (fillTo xs z k).length = xs.length := by
  unfold fillTo
  rw [List.length_append, List.length_take, List.length_replicate]
  omega
theorem fillTo_zero (xs : List Value) (z : Value) : fillTo xs z 0 = List.replicate xs.length z := by simp [fillTo]
theorem fillTo_all (xs : List Value) (z : Value) : fillTo xs z xs.length = xs := by simp [fillTo]
theorem fillTo_set (xs : List Value) (z : Value) (k : Nat) (hk : k < xs.length) : (fillTo xs z k).set k xs[k] = fillTo xs z (k + 1) := by
  apply List.ext_getElem?
  intro j
  unfold fillTo
  rw [List.getElem?_set, List.getElem?_append, List.getElem?_append, List.length_append, List.length_take, List.length_take, List.length_replicate, Nat.min_eq_left (by omega), Nat.min_eq_left (by omega)]
  by_cases h1 : k = j
  · subst h1
    rw [if_pos rfl, if_pos (by omega), if_pos (by omega), List.getElem?_take, if_pos (by omega), List.getElem?_eq_getElem hk]
  · rw [if_neg h1]
    by_cases h2 : j < k
    · rw [if_pos h2, if_pos (by omega), List.getElem?_take, List.getElem?_take, if_pos h2, if_pos (by omega)]
    · rw [if_neg h2, if_neg (by omega), List.getElem?_replicate, List.getElem?_replicate]
      by_cases h3 : j < xs.length
      · rw [if_pos (by omega), if_pos (by omega)]
      · rw [if_neg (by omega), if_neg (by omega)]

/-- A loop fills the block b, which it made behind w0: k elements stand, the rest is z. -/
structure Fill (w0 w : World) (b : Nat) (t : TypeId) (xs : List Value) (z : Value) (k : Nat) : Prop where
  le : k ≤ xs.length
  only : Only (fun q => q = b) w0 w
  row : Row w b t (fillTo xs z k)
theorem Fill.start {w0 : World} {b : Nat} {t : TypeId} {z : Value} {xs : List Value} (h : Row w0 b t (List.replicate xs.length z)) : Fill w0 w0 b t xs z 0 :=
  ⟨Nat.zero_le _, Only.refl _ _, by rw [fillTo_zero]; exact h⟩
theorem Fill.cell {w0 w : World} {b : Nat} {t : TypeId} {z : Value} {xs : List Value} {k : Nat} (h : Fill w0 w b t xs z k) (j : Nat) (hj : j < xs.length) : ∃ y, w.cell? ⟨b, j, none⟩ = some y :=
  ⟨_, h.row.cell j (by rw [fillTo_len _ _ _ h.le]; exact hj)⟩
theorem Fill.free {w0 w : World} {b : Nat} {t : TypeId} {z : Value} {xs : List Value} {k : Nat} (h : Fill w0 w b t xs z k) (j : Nat) : w.frozen? ⟨b, j, none⟩ = false := h.row.free j
theorem Fill.step {w0 w : World} {b : Nat} {t : TypeId} {z : Value} {xs : List Value} {k : Nat} (h : Fill w0 w b t xs z k) (hk : k < xs.length) (v : Value) (hv : xs[k] = v) : Fill w0 (w.setCell ⟨b, k, none⟩ v) b t xs z (k + 1) :=
  ⟨hk, h.only.setCell rfl _, by subst hv; have := h.row.set k xs[k]; rwa [fillTo_set _ _ _ hk] at this⟩
theorem Fill.drew {w0 w : World} {b : Nat} {t : TypeId} {z : Value} {xs : List Value} {k : Nat} (h : Fill w0 w b t xs z k) : Fill w0 w.drew b t xs z k := ⟨h.le, h.only.drew, h.row⟩
theorem Fill.done {w0 w : World} {b : Nat} {t : TypeId} {z : Value} {xs : List Value} {k : Nat} (h : Fill w0 w b t xs z k) (hk : k = xs.length) : Row w b t xs := by
  have := h.row
  rwa [hk, fillTo_all] at this
theorem Fill.old {w0 w : World} {b : Nat} {t : TypeId} {z : Value} {xs : List Value} {k : Nat} (h : Fill w0 w b t xs z k) {p : Addr} (hp : p.block < w0.heap.size) (hn : p.block ≠ b) : w.cell? p = w0.cell? p := h.only.cell hp hn
theorem Fill.below {w w1 w2 : World} {b : Nat} {t : TypeId} {z : Value} {xs : List Value} {k : Nat} (h : Fill w1 w2 b t xs z k) (hb : w.heap.size ≤ b) (h1 : Below w.heap.size w w1) : Below w.heap.size w w2 :=
  h1.trans (h.only.below h1.size (fun q hq => by rw [hq]; exact hb))
/-- What make lays: n zeros. -/
theorem made_list (z : Value) (hz : z.cells = #[z]) (n : Nat) : madeCells z.cells n = (List.replicate n z).toArray := by
  unfold madeCells
  rw [hz]
  apply Array.ext
  · simp
  · intro i h1 h2
    simp [Nat.mod_one]
end Go.Proofs.YtdbbmknjldapbaaGreatDoor
