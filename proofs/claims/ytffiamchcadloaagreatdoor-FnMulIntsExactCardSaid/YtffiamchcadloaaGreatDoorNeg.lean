/-
  The negation of an int; of the least one, a big integer; walked.
-/
import Derived.Test.YtffiamchcadloaaGreatDoorNatA
import Derived.Test.YtffiamchcadloaaGreatDoorBigA
import Derived.Test.YtffiamchcadloaaGreatDoorCpy
import Derived.Test.YtffiamchcadloaaGreatDoorBigM
namespace Go.Proofs.YtffiamchcadloaaGreatDoor
set_option linter.unusedVariables false
set_option linter.unusedSimpArgs false
open Go.RowKit Go.Lib

theorem mk_nat11 (w : World) : (Instr.makeSlice 60 (.int .i64 1) (.int .i64 1)).run Tryz.prog w = .ok (.slice (some ⟨w.heap.size, 0, none⟩) 1 1) (w.alloc (.cells #[.int .u64 0] 52)) :=
  run_mk 60 52 (.int .u64 0) 8 Tryz.underlying60 (by kernel_rfl) rfl 1 1 (by omega) (by omega) (by omega) w
theorem natMake1 (w : World) :
    Calls Tryz.prog 72 #[.slice none 0 0, .int .i64 1] w fun e w' => e = .returned (.slice (some ⟨w.heap.size, 0, none⟩) 1 1) ∧ w' = w.alloc (.cells #[.int .u64 0] 52) := by
  have mk := mk_nat11
  go_enter Tryz.func72, Tryz.ntmps72
  go_wp2
  go_ret
  exact ⟨rfl, rfl⟩
theorem word_size : (Tryz.prog.info? 52).map (·.size) = some 1 := by kernel_rfl
theorem natSet1 (g c m : Nat) (w : World) (cur : List Value) (hw : w.heap[g]? = some (.cells (Value.int .u64 (m : Int) :: cur).toArray 52 (0, 0))) :
    Calls Tryz.prog 71 #[.slice none 0 0, .slice (some ⟨g, 0, none⟩) 1 c] w fun e w' => (∃ G, e = .returned (.slice (some ⟨G, 0, none⟩) 1 1) ∧ Row w' G 52 [.int .u64 (m : Int)]) ∧ Below w.heap.size w w' := by
  have hg : g < w.heap.size := (Array.getElem?_eq_some_iff.1 hw).1
  have c0 := word_at hw 0
  simp at c0
  have HM := Lib.hid natMake1
  have hR : Row (w.alloc (.cells #[.int .u64 0] 52)) w.heap.size 52 [.int .u64 0] := Row.alloc w _ [.int .u64 0]
  have hS : SliceOf (w.alloc (.cells #[.int .u64 0] 52)) (.slice (some ⟨g, 0, none⟩) 1 c) [.int .u64 (m : Int)] := by
    refine Or.inr ⟨by simp, g, 0, c, rfl, by simp; omega, fun j u hj => ?_⟩
    have hj0 : j = 0 := by
      have := (List.getElem?_eq_some_iff.1 hj).1
      simp at this
      exact this
    subst hj0
    simp at hj
    subst hj
    have : (w.alloc (.cells #[.int .u64 0] 52)).cell? ⟨g, 0, none⟩ = some (.int .u64 (m : Int)) := by go_simp
    exact this
  obtain ⟨w2, hrun, hR2, hO⟩ := copy_run (P := Tryz.prog) 60 60 3 52 Tryz.underlying60 word_size w.heap.size 0 1 1 1 c _ [.int .u64 (m : Int)] [.int .u64 0] 52 rfl (Nat.le_refl _) (by simp) (by simp [Value.oneCell']) _ hR hS
  have HB := Lib.hid (show Below w.heap.size w w2 from Below.trans (show Below w.heap.size w (w.alloc (.cells #[.int .u64 0] 52)) by go_grown) (hO.below (by simp) (fun k hk => Nat.le_of_eq hk.symm)))
  have HR2 := Lib.hid hR2
  clear hO hR2 hR hS hw
  go_enter Tryz.func71, Tryz.ntmps71
  go_wp2_with fail
  refine (HM.out _).mono ?_
  rintro e w1 ⟨rfl, rfl⟩
  go_wp2_with fail
  go_ret
  exact ⟨⟨_, rfl, HR2.out⟩, HB.out⟩
theorem bigs_nq {a b : Nat} {ca cb : Array Value} {ta tb : TypeId} {w : World} (hne : a ≠ b) (ha : w.heap[a]? = some (.cells ca ta (0, 0))) (hb : w.heap[b]? = some (.cells cb tb (0, 0))) :
    (binOp .neq 49 (.pointer (some ⟨a, 0, none⟩)) (.pointer (some ⟨b, 0, none⟩))).run Tryz.prog w = .ok (.bool true) w := by
  obtain ⟨j, hj, hs⟩ := Option.map_eq_some_iff.1 big_size
  have hn : (⟨a, 0, none⟩ : Addr) ≠ ⟨b, 0, none⟩ := fun h => hne (by injection h)
  have hs0 : j.size ≠ 0 := by rw [hs]; decide
  have h : ∀ d : Nat, (Op.equalIn (d + 1) 49 (.pointer (some ⟨a, 0, none⟩)) (.pointer (some ⟨b, 0, none⟩))).run Tryz.prog w = .ok false w := fun d => by
    simp [Op.equalIn, run_underlying Tryz.underlying49, sizeOf, typeInfo, hj, hs0, run_sameAddr_other (P := Tryz.prog) w hn ha hb]
  simp only [binOp]
  simp [Op.equal, Op.maxDepth, h 9999]
theorem set_done {w w2 : World} {bx g L c : Nat} {old neg : Bool} {x : Value} {ws : Array Value} (hb : w2.heap[bx]? = some (.cells #[.bool old, x] 62 (0, 0))) (hg : w2.heap[g]? = some (.cells ws 52 (0, 0))) (hB : Below w.heap.size w w2) (hbx : bx < w.heap.size) :
    ((w2.setCell ⟨bx, 1, none⟩ (.slice (some ⟨g, 0, none⟩) L c)).setCell ⟨bx, 0, none⟩ (.bool neg)).heap[bx]? = some (.cells #[.bool neg, .slice (some ⟨g, 0, none⟩) L c] 62 (0, 0)) ∧
    ((w2.setCell ⟨bx, 1, none⟩ (.slice (some ⟨g, 0, none⟩) L c)).setCell ⟨bx, 0, none⟩ (.bool neg)).heap[g]? = some (.cells ws 52 (0, 0)) ∧ Below bx w ((w2.setCell ⟨bx, 1, none⟩ (.slice (some ⟨g, 0, none⟩) L c)).setCell ⟨bx, 0, none⟩ (.bool neg)) := by
  have hne : g ≠ bx := fun e => by
    rw [e] at hg
    rw [hb] at hg
    injection hg with hg
    injection hg with _ hg
    exact absurd hg (by decide)
  refine ⟨?_, ?_, ?_⟩
  · simp only [World.setCell, Array.getElem?_modify, if_true, hb, Option.map_some]
    rfl
  · rw [Below.heap_setCell _ _ _ _ (fun e => hne e), Below.heap_setCell _ _ _ _ (fun e => hne e)]
    exact hg
  · exact ((hB.mono (Nat.le_of_lt hbx)).setCell (p := ⟨bx, 1, none⟩) (Nat.le_refl _) _).setCell (p := ⟨bx, 0, none⟩) (Nat.le_refl _) _
set_option maxRecDepth 100000 in
set_option maxHeartbeats 1600000 in
theorem set_big (bz bx gx cx m : Nat) (hm : m < 18446744073709551616) (hm0 : m ≠ 0) (w : World) (hz : w.heap[bz]? = some (.cells #[.bool false, .slice none 0 0] 62 (0, 0))) (hX : Big1 w bx gx cx true m) (hne : bz ≠ bx) :
    Calls Tryz.prog 78 #[.pointer (some ⟨bz, 0, none⟩), .pointer (some ⟨bx, 0, none⟩)] w fun e w' => e = .returned (.pointer (some ⟨bz, 0, none⟩)) ∧ (∃ G, w'.heap[bz]? = some (.cells #[.bool true, .slice (some ⟨G, 0, none⟩) 1 1] 62 (0, 0)) ∧ w'.heap[G]? = some (.cells #[.int .u64 (m : Int)] 52 (0, 0))) ∧ Below bz w w' := by
  have hpe := bigs_nq hne hz hX.head
  have x0 := word_at hX.head 0
  have x1 := word_at hX.head 1
  have z0 := word_at hz 0
  have z1 := word_at hz 1
  simp at x0 x1 z0 z1
  have zf0 : w.frozen? ⟨bz, 0, none⟩ = false := by simp [World.frozen?, hz]
  have zf1 : w.frozen? ⟨bz, 1, none⟩ = false := by simp [World.frozen?, hz]
  obtain ⟨cur, hw⟩ := hX.word
  have hlx : bx < w.heap.size := lt_of_cell x0
  have hlz : bz < w.heap.size := lt_of_cell z0
  have HS := Lib.hid (fun (w : World) cur h => natSet1 gx cx m w cur h)
  have HZ := Lib.hid hz
  have HW := Lib.hid hw
  clear hX hz hw
  go_enter Tryz.func78, Tryz.ntmps78
  go_wp2_with fail
  have hkeep := fun (w' : World) (h : Below w.heap.size w.drew w') => keepAb (w := w.drew) hlz hlx z1 x1 zf1 h
  have HKP := Lib.hid hkeep
  have HX0 := Lib.hid x0
  clear hkeep
  go_region_law (first
      | (go_simp; go_at_call 71; refine (HS.out w.drew cur HW.out).mono ?_; rintro e w2 ⟨⟨G, rfl, hgc⟩, hb2⟩; obtain ⟨d7, d8, d9, d10⟩ := HKP.out w2 hb2; have HGC := Lib.hid hgc; have HB2 := Lib.hid hb2; have d0 := (hb2.cell (p := ⟨bx, 0, none⟩) hlx).trans HX0.out; have g0 := (hb2.frozen (p := ⟨bz, 0, none⟩) hlz).trans zf0; have e0 := (hb2.cell (p := ⟨bz, 0, none⟩) hlz).trans z0; clear hgc hb2 d10))
  all_goals
    go_wp2_with fail
    try (go_quiet (fail); go_wp2_with fail)
    go_ret
    obtain ⟨q1, q2, q3⟩ := set_done (neg := true) (L := 1) (c := 1) ((HB2.out.block bz hlz).trans HZ.out) HGC.out (undrew HB2.out) hlz
    exact ⟨rfl, ⟨G, q1, q2⟩, ⟨q3.os, q3.tape, q3.output, q3.size, q3.block⟩⟩
set_option maxRecDepth 100000 in
set_option maxHeartbeats 1600000 in
theorem neg_big (bz bx gx cx m : Nat) (hm : m < 18446744073709551616) (hm0 : m ≠ 0) (w : World) (hz : w.heap[bz]? = some (.cells #[.bool false, .slice none 0 0] 62 (0, 0))) (hX : Big1 w bx gx cx true m) (hne : bz ≠ bx) :
    Calls Tryz.prog 56 #[.pointer (some ⟨bz, 0, none⟩), .pointer (some ⟨bx, 0, none⟩)] w fun e w' => e = .returned (.pointer (some ⟨bz, 0, none⟩)) ∧ BigAt w' bz false m ∧ Below bz w w' := by
  have HS := Lib.hid (set_big bz bx gx cx m hm hm0 w hz hX hne)
  have hlz : bz < w.heap.size := (Array.getElem?_eq_some_iff.1 hz).1
  have hwo : wordsOf m = [.int .u64 (m : Int)] := by unfold wordsOf; rw [if_neg hm0, if_pos hm]
  clear hX hz hne hm
  go_enter Tryz.func56, Tryz.ntmps56
  go_wp2_with fail
  refine HS.out.mono ?_
  rintro e w1 ⟨rfl, ⟨G, hh, hg⟩, hb1⟩
  have x0 := word_at hh 0
  have x1 := word_at hh 1
  simp at x0 x1
  have f0 : w1.frozen? ⟨bz, 0, none⟩ = false := by simp [World.frozen?, hh]
  have HH := Lib.hid hh
  have HG := Lib.hid hg
  have HB := Lib.hid hb1
  clear hh hg hb1
  go_wp2_with fail
  go_ret
  refine ⟨rfl, ⟨G, 1, [], ?_, ?_⟩, ?_⟩
  · rw [hwo]
    show (w1.setCell ⟨bz, 0, none⟩ (.bool false)).heap[bz]? = _
    simp only [World.setCell, Array.getElem?_modify, if_true, HH.out, Option.map_some]
    rfl
  · rw [hwo]
    have hne : G ≠ bz := fun e => by
      have h1 := HG.out
      rw [e, HH.out] at h1
      injection h1 with h1
      injection h1 with _ h1
      exact absurd h1 (by decide)
    show (w1.setCell ⟨bz, 0, none⟩ (.bool false)).heap[G]? = _
    rw [Below.heap_setCell _ _ _ _ (fun e => hne e)]
    exact HG.out
  · have q3 : Below bz w (w1.setCell ⟨bz, 0, none⟩ (.bool false)) := HB.out.setCell (p := ⟨bz, 0, none⟩) (Nat.le_refl _) _
    exact ⟨q3.os, q3.tape, q3.output, q3.size, q3.block⟩
set_option maxRecDepth 100000 in
set_option maxHeartbeats 1600000 in
theorem negate_small (x : Int) (h0 : -9223372036854775808 < x) (h1 : x ≤ 9223372036854775807) (w : World) :
    Calls Tryz.prog 41 #[.int .i64 x] w fun e w' => e = .returned (.iface 3 (.int .i64 (-x))) ∧ Below w.heap.size w w' := by
  have hq : (x == -9223372036854775808) = false := by rw [beq_eq_false_iff_ne]; omega
  go_enter Tryz.func41, Tryz.ntmps41
  go_wp2_with fail
  go_ret
  exact ⟨rfl, by go_grown⟩
set_option maxRecDepth 100000 in
set_option maxHeartbeats 1600000 in
theorem negate_min (w : World) :
    Calls Tryz.prog 41 #[.int .i64 (-9223372036854775808)] w fun e w' => (∃ b, e = .returned (.iface 49 (.pointer (some ⟨b, 0, none⟩))) ∧ BigAt w' b false 9223372036854775808) ∧ Below w.heap.size w w' := by
  have HL := Lib.hid (fun w => newInt_any (-9223372036854775808) (by omega) (by omega) (by omega) w)
  go_enter Tryz.func41, Tryz.ntmps41
  go_wp2_with fail
  have hz0 : (w.alloc (.cells #[.bool false, .slice none 0 0] 62)).heap[w.heap.size]? = some (.cells #[.bool false, .slice none 0 0] 62 (0, 0)) := by
    show (w.heap.push _)[w.heap.size]? = _
    simp
  have hB0 : Below w.heap.size w (w.alloc (.cells #[.bool false, .slice none 0 0] 62)) := by go_grown
  have hs0 : (w.alloc (.cells #[.bool false, .slice none 0 0] 62)).heap.size = w.heap.size + 1 := by simp
  generalize w.alloc (.cells #[.bool false, .slice none 0 0] 62) = w0 at *
  have HZ := Lib.hid hz0
  have HB0 := Lib.hid hB0
  have HS0 := Lib.hid hs0
  clear hz0 hB0 hs0
  refine (HL.out _).mono ?_
  rintro e w1 ⟨rfl, hX, hs1, hb1⟩
  rw [show decide ((-9223372036854775808 : Int) < 0) = true from rfl, show (-9223372036854775808 : Int).natAbs = 9223372036854775808 from rfl] at hX
  have hlt : w.heap.size < w0.heap.size := by have := HS0.out; omega
  have HN := Lib.hid (neg_big w.heap.size (w0.heap.size + 1) w0.heap.size 1 9223372036854775808 (by omega) (by omega) w1 ((hb1.block _ hlt).trans HZ.out) hX (by omega))
  have HB1 := Lib.hid (HB0.out.trans (below_of hb1 HB0.out.size))
  clear hX hs1 hb1 HL
  go_wp2_with fail
  refine HN.out.mono ?_
  rintro e w3 ⟨rfl, hN, hb3⟩
  have HNN := Lib.hid hN
  have HB3 := Lib.hid (HB1.out.trans hb3)
  clear hN hb3 HN
  go_wp2_with fail
  go_ret
  exact ⟨⟨_, rfl, HNN.out⟩, HB3.out⟩
end Go.Proofs.YtffiamchcadloaaGreatDoor
