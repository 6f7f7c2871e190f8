/-
  The sum of two one-word big integers of one sign (package bigall), walked.
-/
import Derived.Test.YtffiamchcadloaaGreatDoorNatA
import Derived.Deep.RegionHeld3
import Derived.Deep.RegionLaw
namespace Go.Proofs.YtffiamchcadloaaGreatDoor
set_option linter.unusedVariables false
set_option linter.unusedSimpArgs false
open Go.RowKit Go.Lib

theorem natAdd_any (gx gy cx cy m n : Nat) (hm : m < 18446744073709551616) (hn : n < 18446744073709551616) (h0 : m + n ≠ 0) (hcx0 : 1 ≤ cx) (hcx : cx < 2) (hcy : 1 ≤ cy) (w : World) (hx : w.cell? ⟨gx, 0, none⟩ = some (.int .u64 (m : Int))) (hy : w.cell? ⟨gy, 0, none⟩ = some (.int .u64 (n : Int))) (hgx : gx < w.heap.size) (hgy : gy < w.heap.size) :
    Calls Tryz.prog 53 #[.slice (some ⟨gx, 0, none⟩) 1 cx, .slice (some ⟨gx, 0, none⟩) 1 cx, .slice (some ⟨gy, 0, none⟩) 1 cy] w fun e w' => (∃ v, e = .returned v ∧ NatAt w' v (m + n)) ∧ Below w.heap.size w w' := by
  rcases Nat.lt_or_ge (m + n) 18446744073709551616 with h | h
  · refine natAdd_small gx gy cx cy m n (m + n) (m + n) hcx0 hcx hcy w hx hy hgx hgy (by rw [beq_eq_false_iff_ne]; omega) (by unfold wordsOf; rw [if_neg h0, if_pos h]) (fun G v w hz hf hx hy => ?_)
    have := addVV_c G gx gy 6 cx cy m n _ _ v w (addVV_one G gx gy 6 cx cy m n hm hn v w hz hf hx hy)
    rw [show (m + n) / 18446744073709551616 = 0 by omega, show (m + n) % 18446744073709551616 = m + n by omega] at this
    exact this
  · refine natAdd_carry gx gy cx cy m n ((m + n) % 18446744073709551616) (m + n) hcx0 hcx hcy w hx hy hgx hgy (by unfold wordsOf; rw [if_neg h0, if_neg (by omega), show (m + n) / 18446744073709551616 = 1 by omega]; rfl) (fun G v w hz hf hx hy => ?_)
    have := addVV_c G gx gy 6 cx cy m n _ _ v w (addVV_one G gx gy 6 cx cy m n hm hn v w hz hf hx hy)
    rw [show (m + n) / 18446744073709551616 = 1 by omega] at this
    exact this
/-- A big integer at block b. -/
def BigAt (w : World) (b : Nat) (neg : Bool) (N : Nat) : Prop := ∃ (g c : Nat) (cur : List Value), w.heap[b]? = some (.cells #[.bool neg, .slice (some ⟨g, 0, none⟩) (wordsOf N).length c] 62 (0, 0)) ∧ w.heap[g]? = some (.cells (wordsOf N ++ cur).toArray 52 (0, 0))
theorem words_pos (N : Nat) (h : N ≠ 0) : 0 < (wordsOf N).length := by
  unfold wordsOf
  rw [if_neg h]
  split <;> simp
theorem keepAb {w w' : World} {a b : Nat} {x y : Value} (ha : a < w.heap.size) (hb : b < w.heap.size) (c0 : w.cell? ⟨a, 1, none⟩ = some x) (c1 : w.cell? ⟨b, 1, none⟩ = some y) (f : w.frozen? ⟨a, 1, none⟩ = false) (h : Below w.heap.size w w') :
    w'.cell? ⟨a, 1, none⟩ = some x ∧ w'.cell? ⟨b, 1, none⟩ = some y ∧ w'.frozen? ⟨a, 1, none⟩ = false ∧ Below w.heap.size w w' :=
  ⟨(h.cell (p := ⟨a, 1, none⟩) ha).trans c0, (h.cell (p := ⟨b, 1, none⟩) hb).trans c1, (h.frozen (p := ⟨a, 1, none⟩) ha).trans f, h⟩
theorem lt_of_cell {w : World} {b o : Nat} {u : Value} (h : w.cell? ⟨b, o, none⟩ = some u) : b < w.heap.size := by
  rcases Nat.lt_or_ge b w.heap.size with h1 | h1
  · exact h1
  · have : w.heap[b]? = none := by rw [Array.getElem?_eq_none_iff]; exact h1
    simp [World.cell?, this] at h
theorem undrew {w w' : World} (h : Below w.drew.heap.size w.drew w') : Below w.heap.size w w' := ⟨h.os, h.tape, h.output, h.size, h.block⟩
theorem big_done {w w2 : World} {bx g c L N : Nat} {neg : Bool} {x : Value} {cur : List Value} (hL : (wordsOf N).length = L) (hb : w2.heap[bx]? = some (.cells #[.bool neg, x] 62 (0, 0))) (hg : w2.heap[g]? = some (.cells (wordsOf N ++ cur).toArray 52 (0, 0))) (hB : Below w.heap.size w w2) (hbx : bx < w.heap.size) :
    BigAt ((w2.setCell ⟨bx, 1, none⟩ (.slice (some ⟨g, 0, none⟩) L c)).setCell ⟨bx, 0, none⟩ (.bool neg)) bx neg N ∧ Below bx w ((w2.setCell ⟨bx, 1, none⟩ (.slice (some ⟨g, 0, none⟩) L c)).setCell ⟨bx, 0, none⟩ (.bool neg)) := by
  have hne : g ≠ bx := fun e => by
    rw [e] at hg
    rw [hb] at hg
    injection hg with hg
    injection hg with _ hg
    exact absurd hg (by decide)
  refine ⟨⟨g, c, cur, ?_, ?_⟩, ?_⟩
  · rw [hL]
    simp only [World.setCell, Array.getElem?_modify, if_true, hb, Option.map_some]
    rfl
  · rw [Below.heap_setCell _ _ _ _ (fun e => hne e), Below.heap_setCell _ _ _ _ (fun e => hne e)]
    exact hg
  · exact ((hB.mono (Nat.le_of_lt hbx)).setCell (p := ⟨bx, 1, none⟩) (Nat.le_refl _) _).setCell (p := ⟨bx, 0, none⟩) (Nat.le_refl _) _
set_option maxRecDepth 100000 in
set_option maxHeartbeats 1600000 in
theorem bigAdd_any (bx gx by' gy cx cy : Nat) (neg : Bool) (m n : Nat) (hm : m < 18446744073709551616) (hn : n < 18446744073709551616) (h0 : m + n ≠ 0) (hcx0 : 1 ≤ cx) (hcx : cx < 2) (hcy : 1 ≤ cy) (w : World) (hX : Big1 w bx gx cx neg m) (hY : Big1 w by' gy cy neg n) :
    Calls Tryz.prog 32 #[.pointer (some ⟨bx, 0, none⟩), .pointer (some ⟨bx, 0, none⟩), .pointer (some ⟨by', 0, none⟩)] w fun e w' => e = .returned (.pointer (some ⟨bx, 0, none⟩)) ∧ BigAt w' bx neg (m + n) ∧ Below bx w w' := by
  have x0 := word_at hX.head 0
  have x1 := word_at hX.head 1
  have y0 := word_at hY.head 0
  have y1 := word_at hY.head 1
  simp at x0 x1 y0 y1
  obtain ⟨cur1, hw1⟩ := hX.word
  obtain ⟨cur2, hw2⟩ := hY.word
  have v1 := word_at hw1 0
  have v2 := word_at hw2 0
  simp at v1 v2
  have hl1 : gx < w.heap.size := (Array.getElem?_eq_some_iff.1 hw1).1
  have hl2 : gy < w.heap.size := (Array.getElem?_eq_some_iff.1 hw2).1
  have hl3 : bx < w.heap.size := (Array.getElem?_eq_some_iff.1 hX.head).1
  have HA := Lib.hid (fun (wx : World) hx hy hgx hgy => natAdd_any gx gy cx cy m n hm hn h0 hcx0 hcx hcy wx hx hy hgx hgy)
  have HH := Lib.hid hX.head
  have hp := words_pos (m + n) h0
  have hne0 := Lib.hid h0
  clear hX hY hw1 hw2 hm hn h0 hcx0 hcx hcy
  generalize m + n = N at HA hp hne0 ⊢
  have e0 : ∀ b : Bool, (binOp .eql 4 (.bool b) (.bool b)).run Tryz.prog w = .ok (.bool true) w := by intro b; cases b <;> kernel_rfl
  go_enter Tryz.func32, Tryz.ntmps32
  go_wp2_with fail
  go_quiet (fail)
  go_wp2_with fail
  have k1 : (w.drewN nq).cell? ⟨gx, 0, none⟩ = some (.int .u64 (m : Int)) := v1
  have k2 : (w.drewN nq).cell? ⟨gy, 0, none⟩ = some (.int .u64 (n : Int)) := v2
  have k3 : (w.drewN nq).heap[bx]? = some (.cells #[.bool neg, .slice (some ⟨gx, 0, none⟩) 1 cx] 62 (0, 0)) := HH.out
  have k4 : (w.drewN nq).cell? ⟨by', 1, none⟩ = some (.slice (some ⟨gy, 0, none⟩) 1 cy) := y1
  have k5 : Below w.heap.size w (w.drewN nq) := ⟨rfl, rfl, rfl, Nat.le_refl _, fun _ _ => rfl⟩
  generalize w.drewN nq = wq at *
  have hqs := k5.size
  have k6 := word_at k3 0
  have k7 := word_at k3 1
  simp at k6 k7
  have f6 : wq.frozen? ⟨bx, 0, none⟩ = false := by simp [World.frozen?, k3]
  have k8 : wq.frozen? ⟨bx, 1, none⟩ = false := by simp [World.frozen?, k3]
  have hbx : bx < wq.heap.size := by omega
  have hby : by' < wq.heap.size := lt_of_cell k4
  have HK1 := Lib.hid k1
  have HK2 := Lib.hid k2
  have HK5 := Lib.hid k5
  have HK3 := Lib.hid k3
  clear k1 k2 k5 k3 x0 x1 y0 y1 v1 v2
  have hkeep := fun (w' : World) (h : Below wq.heap.size wq.drew w') => keepAb (w := wq.drew) hbx hby k7 k4 k8 h
  have HKP := Lib.hid hkeep
  clear hkeep
  go_region_law (first
      | (go_simp; go_at_call 53; refine (HA.out wq.drew HK1.out HK2.out (show gx < wq.heap.size by omega) (show gy < wq.heap.size by omega)).mono ?_; rintro e w2 ⟨⟨v, rfl, g, c, cur, rfl, hgc⟩, hb2⟩; obtain ⟨d7, d8, d9, d10⟩ := HKP.out w2 hb2; have HGC := Lib.hid hgc; have HB2 := Lib.hid hb2; have d0 := (hb2.cell (p := ⟨bx, 0, none⟩) hbx).trans k6; have g0 := (hb2.frozen (p := ⟨bx, 0, none⟩) hbx).trans f6; clear hgc hb2 d10))
  all_goals
    have hpI : (0 : Int) < ((wordsOf N).length : Int) := by omega
    have hbk2 := (HB2.out.block bx hbx).trans HK3.out
    have HBK := Lib.hid hbk2
    clear hbk2
    generalize hLe : (wordsOf N).length = L at *
    have HLE := Lib.hid hLe
    clear hLe
    go_wp2_with fail
    try (go_quiet (fail); go_wp2_with fail)
    go_ret
    exact ⟨rfl, big_done HLE.out HBK.out HGC.out (HK5.out.trans (below_of (undrew HB2.out) (by show w.heap.size ≤ wq.heap.size; omega))) hl3⟩
end Go.Proofs.YtffiamchcadloaaGreatDoor
