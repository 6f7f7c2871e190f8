/-
  A buffer of 24 bytes that a call lays and fills from its end: digit by digit. No program in this text.
-/
import Derived.Test.YtnipnfopdneodaaGreatDoorNum
import Derived.Test.YtnipnfopdneodaaGreatDoorAid
namespace Go.Proofs.YtnipnfopdneodaaGreatDoor
set_option linter.unusedVariables false
set_option linter.unusedSimpArgs false
open Go.RowKit

/-- The buffer stands at block bb; from m on it holds D. -/
structure Dig (w0 w : World) (bb : Nat) (t : TypeId) (m : Nat) (D : List UInt8) : Prop where
  only : Only (fun k => k = bb) w0 w
  cur : ∃ cur : List Value, w.heap[bb]? = some (.cells cur.toArray t (0, 0)) ∧ cur.length = 24 ∧ cur.drop m = bc D
  len : m + D.length = 24

theorem Dig.start {w0 : World} {bb : Nat} {t : TypeId} {cur : List Value} (h : w0.heap[bb]? = some (.cells cur.toArray t (0, 0))) (hl : cur.length = 24) : Dig w0 w0 bb t 24 [] :=
  ⟨Only.refl _ _, ⟨cur, h, hl, by rw [← hl, List.drop_length]; rfl⟩, rfl⟩
theorem Dig.cell {w0 w : World} {bb : Nat} {t : TypeId} {m : Nat} {D : List UInt8} (h : Dig w0 w bb t m D) (j : Nat) (hj : j < 24) : ∃ x, w.cell? ⟨bb, j, none⟩ = some x := by
  obtain ⟨cur, h1, h2, h3⟩ := h.cur
  rw [cell_whole h1]
  exact ⟨cur[j]'(by omega), by simp⟩
theorem Dig.free {w0 w : World} {bb : Nat} {t : TypeId} {m : Nat} {D : List UInt8} (h : Dig w0 w bb t m D) (j : Nat) : w.frozen? ⟨bb, j, none⟩ = false := by
  obtain ⟨cur, h1, h2, h3⟩ := h.cur
  exact free_whole h1 j
theorem Dig.step {w0 w : World} {bb : Nat} {t : TypeId} {m : Nat} {D : List UInt8} (h : Dig w0 w bb t (m + 1) D) (b : UInt8) : Dig w0 (w.setCell ⟨bb, m, none⟩ (.int .u8 (b.toNat : Int))) bb t m (b :: D) := by
  obtain ⟨cur, h1, h2, h3⟩ := h.cur
  have hl := h.len
  refine ⟨h.only.setCell rfl _, ⟨cur.set m (.int .u8 (b.toNat : Int)), ?_, by simpa using h2, ?_⟩, by simp; omega⟩
  · simp only [World.setCell, Array.getElem?_modify, if_true, h1, Option.map_some]
    simp
  · rw [List.drop_eq_getElem_cons (by simp; omega), List.getElem_set_self, List.drop_set_of_lt (by omega), h3]
    rfl
theorem Dig.drew {w0 w : World} {bb : Nat} {t : TypeId} {m : Nat} {D : List UInt8} (h : Dig w0 w bb t m D) : Dig w0 w.drew bb t m D := ⟨h.only.drew, h.cur, h.len⟩
theorem Dig.reads {w0 w : World} {bb : Nat} {t : TypeId} {m : Nat} {D : List UInt8} (h : Dig w0 w bb t m D) (j : Nat) (hj : j < D.length) : w.cell? ((⟨bb, m, none⟩ : Addr).add j) = some (.int .u8 (D[j].toNat : Int)) := by
  obtain ⟨cur, h1, h2, h3⟩ := h.cur
  rw [Go.WideShapes.add_plain, cell_whole h1]
  have e := bc_get D j hj
  rw [← h3, List.getElem?_drop] at e
  exact e
/-- Behind the call nothing old has turned. -/
theorem Dig.below {w w1 w2 : World} {t : TypeId} {m : Nat} {D : List UInt8} (h : Dig w1 w2 w.heap.size t m D) (h1 : Below w.heap.size w w1) : Below w.heap.size w w2 :=
  h1.trans (h.only.below h1.size (fun k hk => by rw [hk]; exact Nat.le_refl _))

theorem digit_toNat (x : Nat) : ((UInt8.ofNat (48 + x % 10)).toNat : Int) = 48 + (x : Int) % 10 := by
  rw [UInt8.toNat_ofNat']
  omega
theorem numLeft_cons {x : Nat} {D L : List UInt8} (hx : x ≠ 0) (h : numLeft x ++ D = L) : numLeft (x / 10) ++ (UInt8.ofNat (48 + x % 10) :: D) = L := by
  rw [← h, numLeft_step hx, List.append_assoc]
  rfl
theorem dec_cons {x : Nat} {D L : List UInt8} (hx : 10 ≤ x) (h : Lib.decDigits x ++ D = L) : Lib.decDigits (x / 10) ++ (UInt8.ofNat (48 + x % 10) :: D) = L := by
  rw [← h]
  conv => rhs; rw [Lib.decDigits, dif_neg (by omega)]
  rw [List.append_assoc]
  rfl
theorem dec_last {x : Nat} {D L : List UInt8} (hx : x < 10) (h : Lib.decDigits x ++ D = L) : UInt8.ofNat (48 + x % 10) :: D = L := by
  rw [← h, Lib.decDigits, dif_pos hx, show x % 10 = x by omega]
  rfl
end Go.Proofs.YtnipnfopdneodaaGreatDoor
