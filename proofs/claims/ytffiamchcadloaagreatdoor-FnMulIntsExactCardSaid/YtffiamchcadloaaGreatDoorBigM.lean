/-
  The product of two one-word big integers (package bigall), walked.
-/
import Derived.Test.YtffiamchcadloaaGreatDoorNatM
import Derived.Deep.RegionHeld3
import Derived.Deep.RegionLaw
import Derived.LaidEqlPtr
namespace Go.Proofs.YtffiamchcadloaaGreatDoor
set_option linter.unusedVariables false
set_option linter.unusedSimpArgs false
open Go.RowKit Go.Lib

theorem mul_done {w w2 : World} {bx g c L N : Nat} {old neg : Bool} {x : Value} {cur : List Value} (hL : (wordsOf N).length = L) (hb : w2.heap[bx]? = some (.cells #[.bool old, x] 62 (0, 0))) (hg : w2.heap[g]? = some (.cells (wordsOf N ++ cur).toArray 52 (0, 0))) (hB : Below w.heap.size w w2) (hbx : bx < w.heap.size) :
    BigAt ((w2.setCell ⟨bx, 1, none⟩ (.slice (some ⟨g, 0, none⟩) L c)).setCell ⟨bx, 0, none⟩ (.bool neg)) bx neg N ∧ Below bx w ((w2.setCell ⟨bx, 1, none⟩ (.slice (some ⟨g, 0, none⟩) L c)).setCell ⟨bx, 0, none⟩ (.bool neg)) := by
  have hne : g ≠ bx := fun e => by
    rw [e] at hg
    rw [hb] at hg
    injection hg with hg
    injection hg with _ hg
    exact absurd hg (by decide)
  refine ⟨⟨g, c, cur, ?_, ?_⟩, ?_⟩
  · rw [hL]
    simp only [World.setCell, Array.getElem?_modify, if_true, hb, Option.map_some]
    rfl
  · rw [Below.heap_setCell _ _ _ _ (fun e => hne e), Below.heap_setCell _ _ _ _ (fun e => hne e)]
    exact hg
  · exact ((hB.mono (Nat.le_of_lt hbx)).setCell (p := ⟨bx, 1, none⟩) (Nat.le_refl _) _).setCell (p := ⟨bx, 0, none⟩) (Nat.le_refl _) _
theorem bool_neq (a b : Bool) (w : World) : (binOp .neq 4 (.bool a) (.bool b)).run Tryz.prog w = .ok (.bool (a != b)) w := by cases a <;> cases b <;> kernel_rfl
theorem big_size : (Tryz.prog.info? 62).map (·.size) = some 2 := by kernel_rfl
theorem bigs_ne {a b : Nat} {ca cb : Array Value} {ta tb : TypeId} {w : World} (hne : a ≠ b) (ha : w.heap[a]? = some (.cells ca ta (0, 0))) (hb : w.heap[b]? = some (.cells cb tb (0, 0))) :
    (binOp .eql 49 (.pointer (some ⟨a, 0, none⟩)) (.pointer (some ⟨b, 0, none⟩))).run Tryz.prog w = .ok (.bool false) w := by
  obtain ⟨j, hj, hs⟩ := Option.map_eq_some_iff.1 big_size
  exact run_eql_ptr_other w Tryz.underlying49 hj (by rw [hs]; decide) (fun h => hne (by injection h)) ha hb
set_option maxRecDepth 100000 in
set_option maxHeartbeats 1600000 in
theorem bigmul_any (bx gx by' gy cx cy : Nat) (nx ny : Bool) (m n : Nat) (stk : Value) (hm : m < 18446744073709551616) (hn : n < 18446744073709551616) (h0 : m * n ≠ 0) (hcx0 : 1 ≤ cx) (hcx : cx < 2) (hcy : 1 ≤ cy) (hne : bx ≠ by') (w : World) (hX : Big1 w bx gx cx nx m) (hY : Big1 w by' gy cy ny n) :
    Calls Tryz.prog 57 #[.pointer (some ⟨bx, 0, none⟩), stk, .pointer (some ⟨bx, 0, none⟩), .pointer (some ⟨by', 0, none⟩)] w fun e w' => e = .returned (.tuple #[]) ∧ BigAt w' bx (nx != ny) (m * n) ∧ Below bx w w' := by
  have x0 := word_at hX.head 0
  have x1 := word_at hX.head 1
  have y0 := word_at hY.head 0
  have y1 := word_at hY.head 1
  simp at x0 x1 y0 y1
  obtain ⟨cur1, hw1⟩ := hX.word
  obtain ⟨cur2, hw2⟩ := hY.word
  have v1 := word_at hw1 0
  have v2 := word_at hw2 0
  simp at v1 v2
  have hl1 : gx < w.heap.size := (Array.getElem?_eq_some_iff.1 hw1).1
  have hl2 : gy < w.heap.size := (Array.getElem?_eq_some_iff.1 hw2).1
  have hl3 : bx < w.heap.size := (Array.getElem?_eq_some_iff.1 hX.head).1
  have hby : by' < w.heap.size := lt_of_cell y1
  have HA := Lib.hid (fun (wx : World) hx hy hgx => natMul_any gx gy cx cy m n h0 hm hn hcx0 hcx wx stk hx hy hgx)
  have k3 := hX.head
  have f6 : w.frozen? ⟨bx, 0, none⟩ = false := by simp [World.frozen?, k3]
  have k8 : w.frozen? ⟨bx, 1, none⟩ = false := by simp [World.frozen?, k3]
  have hp := words_pos (m * n) h0
  have hne0 := Lib.hid h0
  have hpe := bigs_ne hne hX.head hY.head
  clear hX hY hw1 hw2 hm hn h0 hcx0 hcx hcy
  generalize m * n = N at HA hp hne0 ⊢
  have HK3 := Lib.hid k3
  clear k3
  have hnq := bool_neq
  go_enter Tryz.func57, Tryz.ntmps57
  go_wp2_with fail
  have hkeep := fun (w' : World) (h : Below w.heap.size w.drew w') => keepAb (w := w.drew) hl3 hby x1 y1 k8 h
  have HKP := Lib.hid hkeep
  have HY0 := Lib.hid y0
  clear hkeep
  have HK1 := Lib.hid v1
  have HK2 := Lib.hid v2
  clear v1 v2
  go_region_law (first
      | (go_simp; go_at_call 80; refine (HA.out w.drew HK1.out HK2.out hl1).mono ?_; rintro e w2 ⟨⟨v, rfl, g, c, cur, rfl, hgc⟩, hb2⟩; obtain ⟨d7, d8, d9, d10⟩ := HKP.out w2 hb2; have HGC := Lib.hid hgc; have HB2 := Lib.hid hb2; have d0 := (hb2.cell (p := ⟨bx, 0, none⟩) hl3).trans x0; have dy := (hb2.cell (p := ⟨by', 0, none⟩) hby).trans HY0.out; have g0 := (hb2.frozen (p := ⟨bx, 0, none⟩) hl3).trans f6; clear hgc hb2 d10))
  all_goals
    have hpI : (0 : Int) < ((wordsOf N).length : Int) := by omega
    have hbk2 := (HB2.out.block bx hl3).trans HK3.out
    have HBK := Lib.hid hbk2
    clear hbk2
    generalize hLe : (wordsOf N).length = L at *
    have HLE := Lib.hid hLe
    clear hLe
    have a1 : (w2.setCell ⟨bx, 1, none⟩ (.slice (some ⟨g, 0, none⟩) L c)).cell? ⟨bx, 1, none⟩ = some (.slice (some ⟨g, 0, none⟩) L c) := by go_simp
    have a0 : (w2.setCell ⟨bx, 1, none⟩ (.slice (some ⟨g, 0, none⟩) L c)).cell? ⟨bx, 0, none⟩ = some (.bool nx) := by go_simp
    have ay : (w2.setCell ⟨bx, 1, none⟩ (.slice (some ⟨g, 0, none⟩) L c)).cell? ⟨by', 0, none⟩ = some (.bool ny) := by go_simp
    have af : (w2.setCell ⟨bx, 1, none⟩ (.slice (some ⟨g, 0, none⟩) L c)).frozen? ⟨bx, 0, none⟩ = false := by go_simp
    generalize hw3 : w2.setCell ⟨bx, 1, none⟩ (.slice (some ⟨g, 0, none⟩) L c) = w3 at *
    have HW3 := Lib.hid hw3
    clear hw3 d7 d8 d9 d0 dy g0 x0 x1 y0 y1 f6 k8 hpe
    go_wp2_with fail
    go_still_tail 18, (by kernel_rfl)
    change wpList _ _ _ _ _ w3.drew
    go_wp2_with fail
    first | go_ret | go_end0
    have hD := mul_done (c := c) (neg := nx != ny) HLE.out HBK.out HGC.out (undrew HB2.out) hl3
    rw [HW3.out] at hD
    obtain ⟨⟨g', c', cur', q1, q2⟩, q3⟩ := hD
    exact ⟨rfl, ⟨g', c', cur', q1, q2⟩, ⟨q3.os, q3.tape, q3.output, q3.size, q3.block⟩⟩
theorem bigMul_any (bx gx by' gy cx cy : Nat) (nx ny : Bool) (m n : Nat) (hm : m < 18446744073709551616) (hn : n < 18446744073709551616) (h0 : m * n ≠ 0) (hcx0 : 1 ≤ cx) (hcx : cx < 2) (hcy : 1 ≤ cy) (hne : bx ≠ by') (w : World) (hX : Big1 w bx gx cx nx m) (hY : Big1 w by' gy cy ny n) :
    Calls Tryz.prog 42 #[.pointer (some ⟨bx, 0, none⟩), .pointer (some ⟨bx, 0, none⟩), .pointer (some ⟨by', 0, none⟩)] w fun e w' => e = .returned (.pointer (some ⟨bx, 0, none⟩)) ∧ BigAt w' bx (nx != ny) (m * n) ∧ Below bx w w' := by
  have HA := Lib.hid (bigmul_any bx gx by' gy cx cy nx ny m n (.pointer none) hm hn h0 hcx0 hcx hcy hne w hX hY)
  generalize m * n = N at *
  generalize (nx != ny) = ng at *
  clear hX hY hm hn h0 hcx0 hcx hcy hne
  go_enter Tryz.func42, Tryz.ntmps42
  go_wp2_with fail
  refine HA.out.mono ?_
  rintro e w1 ⟨rfl, hN, hb⟩
  have HN := Lib.hid hN
  have HB := Lib.hid hb
  clear hN hb
  go_wp2_with fail
  go_ret
  exact ⟨rfl, HN.out, HB.out⟩
end Go.Proofs.YtffiamchcadloaaGreatDoor
