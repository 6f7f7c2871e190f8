/-
  One-word big integers: a new one; words added; the sum of two (package bigall), walked.
-/
import Derived.Test.YtffiamchcadloaaGreatDoorSays
import Derived.Test.YtffiamchcadloaaGreatDoorAid
import Derived.Test.YtffiamchcadloaaGreatDoorMk
import Derived.Laws.Externs
import Derived.WalkSpells
import Derived.Handy
import Derived.Lib.Hide
import Derived.Deep.QuietTactic
import Derived.BigQuiet
import Derived.Deep.RegionWith
import Derived.StillTailTactics
namespace Go.Proofs.YtffiamchcadloaaGreatDoor
set_option linter.unusedVariables false
set_option linter.unusedSimpArgs false
open Go.RowKit Go.Lib

theorem add64_run (x y c : Nat) (hc : c ≤ 1) (w : World) : (callFunc 127 #[.int .u64 (x : Int), .int .u64 (y : Int), .int .u64 (c : Int)]).run Tryz.prog w =
    .ok (.value (.tuple #[.int .u64 (((x + y + c) % 18446744073709551616 : Nat) : Int), .int .u64 (((x + y + c) / 18446744073709551616 : Nat) : Int)])) w := by
  rw [run_callFunc_extern Tryz.func127 (by kernel_rfl) (by kernel_rfl) (by kernel_rfl) (e := fun args => do
    let (x, y, c) ← Extern.MathBitsCarry.three "Add64" args
    pure (Extern.MathBitsCarry.pair ((x + y + c) % Extern.MathBitsCarry.m64) ((x + y + c) / Extern.MathBitsCarry.m64))) (by kernel_rfl)]
  have hc' : c = 0 ∨ c = 1 := by omega
  rcases hc' with rfl | rfl <;> rfl
set_option maxRecDepth 100000 in
theorem bits_add (x y c : Nat) (hx : x < 18446744073709551616) (hy : y < 18446744073709551616) (hc : c ≤ 1) (w : World) :
    Calls Tryz.prog 98 #[.int .u64 (x : Int), .int .u64 (y : Int), .int .u64 (c : Int)] w fun e w' => e = .returned (.tuple #[.int .u64 (((x + y + c) % 18446744073709551616 : Nat) : Int), .int .u64 (((x + y + c) / 18446744073709551616 : Nat) : Int)]) ∧ w' = w := by
  have ha := Lib.hid (fun w => add64_run x y c hc w)
  generalize (x + y + c) % 18446744073709551616 = s at ha ⊢
  generalize (x + y + c) / 18446744073709551616 = t at ha ⊢
  clear hc hx hy
  go_enter Tryz.func98, Tryz.ntmps98
  go_wp2_with fail
  rw [ha.out]
  rw [Oper.upon_value]
  go_wp2_with fail
  go_ret2
  exact ⟨rfl, rfl⟩

/-- A big integer of one word at block b, its word in block g. -/
structure Big1 (w : World) (b g c : Nat) (neg : Bool) (m : Nat) : Prop where
  head : w.heap[b]? = some (.cells #[.bool neg, .slice (some ⟨g, 0, none⟩) 1 c] 62 (0, 0))
  word : ∃ cur : List Value, w.heap[g]? = some (.cells (Value.int .u64 (m : Int) :: cur).toArray 52 (0, 0))
theorem word_at {w : World} {b : Nat} {t : TypeId} {cs : Array Value} (h : w.heap[b]? = some (.cells cs t (0, 0))) (j : Nat) : w.cell? ⟨b, j, none⟩ = cs[j]? := by simp [World.cell?, h]
theorem new1 (w : World) (neg : Bool) (m : Nat) (k : Int) (hk : k = (m : Int)) : Big1 ((w.alloc (.cells #[.int .u64 k] 52)).alloc (.cells #[.bool neg, .slice (some ⟨w.heap.size, 0, none⟩) 1 1] 62)) (w.heap.size + 1) w.heap.size 1 neg m := by
  subst hk
  refine ⟨?_, [], ?_⟩
  · show ((w.heap.push _).push _)[w.heap.size + 1]? = _
    rw [Array.getElem?_push, if_pos (by simp)]
  · show ((w.heap.push _).push _)[w.heap.size]? = _
    rw [Array.getElem?_push_lt (by simp)]
    simp
theorem newInt_any (x : Int) (hx : x ≠ 0) (h0 : -9223372036854775808 ≤ x) (h1 : x ≤ 9223372036854775807) (w : World) :
    Calls Tryz.prog 31 #[.int .i64 x] w fun e w' => e = .returned (.pointer (some ⟨w.heap.size + 1, 0, none⟩)) ∧ Big1 w' (w.heap.size + 1) w.heap.size 1 (decide (x < 0)) x.natAbs ∧ w'.heap.size = w.heap.size + 2 ∧ Below w.heap.size w w' := by
  rcases Int.lt_or_lt_of_ne hx with hn | hp
  · have hw : IntKind.u64.wrap (-IntKind.u64.wrap x) = -x := by rw [IntKind.wrap_u64, IntKind.wrap_u64]; omega
    have hq : (x == 0) = false := by rw [beq_eq_false_iff_ne]; omega
    have hN := Lib.hid (new1 w true x.natAbs (-x) (by omega))
    have hd : decide (x < 0) = true := by simpa using hn
    rw [hd]
    go_enter Tryz.func31, Tryz.ntmps31
    go_wp2
    go_ret
    exact ⟨rfl, hN.out, by simp, by go_grown⟩
  · have hq : (x == 0) = false := by rw [beq_eq_false_iff_ne]; omega
    have hN := Lib.hid (new1 w false x.natAbs x (by omega))
    have hd : decide (x < 0) = false := by simp; omega
    rw [hd]
    go_enter Tryz.func31, Tryz.ntmps31
    go_wp2
    go_ret
    exact ⟨rfl, hN.out, by simp, by go_grown⟩

set_option maxRecDepth 100000 in
set_option maxHeartbeats 1600000 in
theorem addVV_one (G gx gy cg cx cy m n : Nat) (hm : m < 18446744073709551616) (hn : n < 18446744073709551616) (v : Value) (w : World) (hz : w.cell? ⟨G, 0, none⟩ = some v) (hf : w.frozen? ⟨G, 0, none⟩ = false) (hx : w.cell? ⟨gx, 0, none⟩ = some (.int .u64 (m : Int))) (hy : w.cell? ⟨gy, 0, none⟩ = some (.int .u64 (n : Int))) :
    Calls Tryz.prog 97 #[.slice (some ⟨G, 0, none⟩) 1 cg, .slice (some ⟨gx, 0, none⟩) 1 cx, .slice (some ⟨gy, 0, none⟩) 1 cy] w fun e w' => e = .returned (.int .u64 (((m + n) / 18446744073709551616 : Nat) : Int)) ∧ ∃ k, w' = (w.setCell ⟨G, 0, none⟩ (.int .u64 (((m + n) % 18446744073709551616 : Nat) : Int))).drewN k := by
  have HB := Lib.hid (fun w => bits_add m n 0 hm hn (by omega) w)
  simp only [Nat.add_zero] at HB
  have hm' : (m : Int) < 18446744073709551616 := by omega
  have hn' : (n : Int) < 18446744073709551616 := by omega
  have b1 : (((m + n) / 18446744073709551616 : Nat) : Int) < 18446744073709551616 := by omega
  have b2 : (((m + n) % 18446744073709551616 : Nat) : Int) < 18446744073709551616 := by omega
  clear hm hn
  generalize (m + n) % 18446744073709551616 = s at HB b2 ⊢
  generalize (m + n) / 18446744073709551616 = t at HB b1 ⊢
  go_enter Tryz.func97, Tryz.ntmps97
  go_wp2_with fail
  refine wp_loop_rounds 2 ?_
  rw [rounds_succ]
  go_wp2_with fail
  go_quiet ((go_at_call 98; exact Calls.quiet_of_same (HB.out _)))
  go_wp2_with fail
  rw [rounds_succ]
  go_wp2_with fail
  go_ret
  exact ⟨rfl, _, rfl⟩
/-- The words of a natural number below 2^128, the least first, none of them too many. -/
def wordsOf (m : Nat) : List Value := if m = 0 then [] else if m < 18446744073709551616 then [.int .u64 (m : Int)] else [.int .u64 ((m % 18446744073709551616 : Nat) : Int), .int .u64 ((m / 18446744073709551616 : Nat) : Int)]
/-- A natural number as a slice of words. -/
def NatAt (w : World) (v : Value) (m : Nat) : Prop := ∃ (g c : Nat) (cur : List Value), v = .slice (some ⟨g, 0, none⟩) (wordsOf m).length c ∧ w.heap[g]? = some (.cells (wordsOf m ++ cur).toArray 52 (0, 0))
theorem mk_nat26 (w : World) : (Instr.makeSlice 60 (.int .i64 2) (.int .i64 6)).run Tryz.prog w = .ok (.slice (some ⟨w.heap.size, 0, none⟩) 2 6) (w.alloc (.cells #[.int .u64 0, .int .u64 0, .int .u64 0, .int .u64 0, .int .u64 0, .int .u64 0] 52)) :=
  run_mk 60 52 (.int .u64 0) 8 Tryz.underlying60 (by kernel_rfl) rfl 2 6 (by omega) (by omega) (by omega) w
def six : Obj := .cells #[.int .u64 0, .int .u64 0, .int .u64 0, .int .u64 0, .int .u64 0, .int .u64 0] 52
theorem natMake2 (a : Option Addr) (n c : Nat) (hc : c < 2) (w : World) :
    Calls Tryz.prog 72 #[.slice a n c, .int .i64 2] w fun e w' => e = .returned (.slice (some ⟨w.heap.size, 0, none⟩) 2 6) ∧ w' = w.alloc six := by
  have hq : (c : Int) < 2 := by omega
  have mk := mk_nat26
  go_enter Tryz.func72, Tryz.ntmps72
  go_wp2
  go_ret
  exact ⟨rfl, rfl⟩
set_option maxHeartbeats 800000 in
theorem norm_one (G c : Nat) (s : Nat) (w : World) (h0 : w.cell? ⟨G, 0, none⟩ = some (.int .u64 (s : Int))) (h1 : w.cell? ⟨G, 1, none⟩ = some (.int .u64 0)) (hs : ((s : Int) == 0) = false) (hc : 2 ≤ c) :
    Calls Tryz.prog 75 #[.slice (some ⟨G, 0, none⟩) 2 c] w fun e w' => e = .returned (.slice (some ⟨G, 0, none⟩) 1 c) ∧ w = w' := by
  have hq : (2 : Int) ≤ (c : Int) := by omega
  go_enter Tryz.func75, Tryz.ntmps75
  go_wp2_with fail
  refine wp_loop_rounds 3 ?_
  rw [rounds_succ]
  go_wp2_with fail
  rw [rounds_succ]
  go_wp2_with fail
  go_ret
  exact ⟨rfl, rfl⟩
set_option maxHeartbeats 800000 in
theorem norm_two (G c : Nat) (s : Value) (w : World) (h0 : w.cell? ⟨G, 0, none⟩ = some s) (h1 : w.cell? ⟨G, 1, none⟩ = some (.int .u64 1)) (hc : 2 ≤ c) :
    Calls Tryz.prog 75 #[.slice (some ⟨G, 0, none⟩) 2 c] w fun e w' => e = .returned (.slice (some ⟨G, 0, none⟩) 2 c) ∧ w = w' := by
  have hq : (2 : Int) ≤ (c : Int) := by omega
  go_enter Tryz.func75, Tryz.ntmps75
  go_wp2_with fail
  refine wp_loop_rounds 3 ?_
  rw [rounds_succ]
  go_wp2_with fail
  go_ret
  exact ⟨rfl, rfl⟩
theorem addVV_c (G gx gy cg cx cy m n : Nat) (s t : Nat) (v : Value) (w : World) (HB : Calls Tryz.prog 97 #[.slice (some ⟨G, 0, none⟩) 1 cg, .slice (some ⟨gx, 0, none⟩) 1 cx, .slice (some ⟨gy, 0, none⟩) 1 cy] w fun e w' => e = .returned (.int .u64 (t : Int)) ∧ ∃ k, w' = (w.setCell ⟨G, 0, none⟩ (.int .u64 (s : Int))).drewN k) :
    Calls Tryz.prog 73 #[.slice (some ⟨G, 0, none⟩) 1 cg, .slice (some ⟨gx, 0, none⟩) 1 cx, .slice (some ⟨gy, 0, none⟩) 1 cy] w fun e w' => e = .returned (.int .u64 (t : Int)) ∧ ∃ k, w' = (w.setCell ⟨G, 0, none⟩ (.int .u64 (s : Int))).drewN k := by
  have H := Lib.hid HB
  clear HB
  go_enter Tryz.func73, Tryz.ntmps73
  go_wp2_with fail
  refine H.out.mono ?_
  rintro e w1 ⟨rfl, k, rfl⟩
  go_wp2_with fail
  go_ret
  exact ⟨rfl, k, rfl⟩
set_option maxRecDepth 100000 in
set_option maxHeartbeats 1600000 in
theorem natAdd_small (gx gy cx cy m n s N : Nat) (hcx0 : 1 ≤ cx) (hcx : cx < 2) (hcy : 1 ≤ cy) (w : World) (hx : w.cell? ⟨gx, 0, none⟩ = some (.int .u64 (m : Int))) (hy : w.cell? ⟨gy, 0, none⟩ = some (.int .u64 (n : Int))) (hgx : gx < w.heap.size) (hgy : gy < w.heap.size) (hs0 : ((s : Int) == 0) = false)
    (hN : wordsOf N = [.int .u64 (s : Int)])
    (HV : ∀ (G : Nat) (v : Value) (w : World), w.cell? ⟨G, 0, none⟩ = some v → w.frozen? ⟨G, 0, none⟩ = false → w.cell? ⟨gx, 0, none⟩ = some (.int .u64 (m : Int)) → w.cell? ⟨gy, 0, none⟩ = some (.int .u64 (n : Int)) → Calls Tryz.prog 73 #[.slice (some ⟨G, 0, none⟩) 1 6, .slice (some ⟨gx, 0, none⟩) 1 cx, .slice (some ⟨gy, 0, none⟩) 1 cy] w fun e w' => e = .returned (.int .u64 0) ∧ ∃ k, w' = (w.setCell ⟨G, 0, none⟩ (.int .u64 (s : Int))).drewN k) :
    Calls Tryz.prog 53 #[.slice (some ⟨gx, 0, none⟩) 1 cx, .slice (some ⟨gx, 0, none⟩) 1 cx, .slice (some ⟨gy, 0, none⟩) 1 cy] w fun e w' => (∃ v, e = .returned v ∧ NatAt w' v N) ∧ Below w.heap.size w w' := by
  have HVV := Lib.hid HV
  have HNN := Lib.hid hN
  clear hN
  have HM := Lib.hid (fun w => natMake2 (some ⟨gx, 0, none⟩) 1 cx hcx w)
  have hq : (cx : Int) < 2 := by omega
  have hq0 : (1 : Int) ≤ (cx : Int) := by omega
  have hq1 : (1 : Int) ≤ (cy : Int) := by omega
  clear HV hcx0 hcx hcy
  go_enter Tryz.func53, Tryz.ntmps53
  go_wp2_with fail
  refine (HM.out _).mono ?_
  rintro e w1 ⟨rfl, rfl⟩
  go_wp2_with fail
  have hz := Lib.hid (show (w.alloc six).cell? ⟨w.heap.size, 0, none⟩ = some (.int .u64 0) by unfold six; go_simp)
  have hz1 := Lib.hid (show (w.alloc six).cell? ⟨w.heap.size, 1, none⟩ = some (.int .u64 0) by unfold six; go_simp)
  have hzf := Lib.hid (show (w.alloc six).frozen? ⟨w.heap.size, 0, none⟩ = false by unfold six; go_simp)
  have hzx := Lib.hid (show (w.alloc six).cell? ⟨gx, 0, none⟩ = some (.int .u64 (m : Int)) by go_simp)
  have hzy := Lib.hid (show (w.alloc six).cell? ⟨gy, 0, none⟩ = some (.int .u64 (n : Int)) by go_simp)
  have hwz := Lib.hid (show (w.alloc six).heap.size = w.heap.size + 1 by simp)
  have hB0 := Lib.hid (show Below w.heap.size w (w.alloc six) by go_grown)
  have hBlk := Lib.hid (show (w.alloc six).heap[w.heap.size]? = some six by show (w.heap.push six)[w.heap.size]? = _; simp)
  generalize w.alloc six = w1 at *
  go_still_tail 9, (by kernel_rfl)
  change wpList _ _ _ _ _ w1.drew
  go_wp2_with fail
  refine (HVV.out w.heap.size (.int .u64 0) w1.drew hz.out hzf.out hzx.out hzy.out).mono ?_
  rintro e w2 ⟨rfl, k, rfl⟩
  have hblk2 : ((w1.drew.setCell ⟨w.heap.size, 0, none⟩ (.int .u64 (s : Int))).drewN k).heap[w.heap.size]? = some (.cells #[.int .u64 (s : Int), .int .u64 0, .int .u64 0, .int .u64 0, .int .u64 0, .int .u64 0] 52 (0, 0)) := by
    show (World.setCell w1 ⟨w.heap.size, 0, none⟩ (.int .u64 (s : Int))).heap[w.heap.size]? = _
    simp only [World.setCell, Array.getElem?_modify, if_true, hBlk.out, Option.map_some, six]
    rfl
  have hB2 : Below w.heap.size w ((w1.drew.setCell ⟨w.heap.size, 0, none⟩ (.int .u64 (s : Int))).drewN k) := by
    have : Below w.heap.size w (w1.setCell ⟨w.heap.size, 0, none⟩ (.int .u64 (s : Int))) := hB0.out.setCell (Nat.le_refl _) _
    exact ⟨this.os, this.tape, this.output, this.size, this.block⟩
  generalize (w1.drew.setCell ⟨w.heap.size, 0, none⟩ (.int .u64 (s : Int))).drewN k = w2 at hblk2 hB2 ⊢
  have e0 := word_at hblk2 0
  have e1 := word_at hblk2 1
  have f1 : w2.frozen? ⟨w.heap.size, 1, none⟩ = false := by simp [World.frozen?, hblk2]
  simp at e0 e1
  have HBK := Lib.hid hblk2
  have HB2 := Lib.hid hB2
  clear hblk2 hB2
  have g0 : (w2.setCell ⟨w.heap.size, 1, none⟩ (.int .u64 0)).heap[w.heap.size]? = some (.cells #[.int .u64 (s : Int), .int .u64 0, .int .u64 0, .int .u64 0, .int .u64 0, .int .u64 0] 52 (0, 0)) := by
    simp only [World.setCell, Array.getElem?_modify, if_true, HBK.out, Option.map_some]
    rfl
  have HG := Lib.hid g0
  have HB3 : Hid (Below w.heap.size w (w2.setCell ⟨w.heap.size, 1, none⟩ (.int .u64 0))) := Lib.hid (HB2.out.setCell (Nat.le_refl _) _)
  have HNO := Lib.hid (norm_one w.heap.size 6 s (w2.setCell ⟨w.heap.size, 1, none⟩ (.int .u64 0)) (word_at g0 0) (word_at g0 1) hs0 (by omega))
  clear g0
  go_wp2_with fail
  refine HNO.out.mono ?_
  rintro e w3 ⟨rfl, rfl⟩
  go_wp2_with fail
  go_ret
  exact ⟨⟨_, rfl, w.heap.size, 6, [.int .u64 0, .int .u64 0, .int .u64 0, .int .u64 0, .int .u64 0], by rw [HNN.out]; rfl, by rw [HNN.out]; exact HG.out⟩, HB3.out⟩
set_option maxRecDepth 100000 in
set_option maxHeartbeats 1600000 in
theorem natAdd_carry (gx gy cx cy m n s N : Nat) (hcx0 : 1 ≤ cx) (hcx : cx < 2) (hcy : 1 ≤ cy) (w : World) (hx : w.cell? ⟨gx, 0, none⟩ = some (.int .u64 (m : Int))) (hy : w.cell? ⟨gy, 0, none⟩ = some (.int .u64 (n : Int))) (hgx : gx < w.heap.size) (hgy : gy < w.heap.size)
    (hN : wordsOf N = [.int .u64 (s : Int), .int .u64 1])
    (HV : ∀ (G : Nat) (v : Value) (w : World), w.cell? ⟨G, 0, none⟩ = some v → w.frozen? ⟨G, 0, none⟩ = false → w.cell? ⟨gx, 0, none⟩ = some (.int .u64 (m : Int)) → w.cell? ⟨gy, 0, none⟩ = some (.int .u64 (n : Int)) → Calls Tryz.prog 73 #[.slice (some ⟨G, 0, none⟩) 1 6, .slice (some ⟨gx, 0, none⟩) 1 cx, .slice (some ⟨gy, 0, none⟩) 1 cy] w fun e w' => e = .returned (.int .u64 1) ∧ ∃ k, w' = (w.setCell ⟨G, 0, none⟩ (.int .u64 (s : Int))).drewN k) :
    Calls Tryz.prog 53 #[.slice (some ⟨gx, 0, none⟩) 1 cx, .slice (some ⟨gx, 0, none⟩) 1 cx, .slice (some ⟨gy, 0, none⟩) 1 cy] w fun e w' => (∃ v, e = .returned v ∧ NatAt w' v N) ∧ Below w.heap.size w w' := by
  have HVV := Lib.hid HV
  have HNN := Lib.hid hN
  clear hN
  have HM := Lib.hid (fun w => natMake2 (some ⟨gx, 0, none⟩) 1 cx hcx w)
  have hq : (cx : Int) < 2 := by omega
  have hq0 : (1 : Int) ≤ (cx : Int) := by omega
  have hq1 : (1 : Int) ≤ (cy : Int) := by omega
  clear HV hcx0 hcx hcy
  go_enter Tryz.func53, Tryz.ntmps53
  go_wp2_with fail
  refine (HM.out _).mono ?_
  rintro e w1 ⟨rfl, rfl⟩
  go_wp2_with fail
  have hz := Lib.hid (show (w.alloc six).cell? ⟨w.heap.size, 0, none⟩ = some (.int .u64 0) by unfold six; go_simp)
  have hz1 := Lib.hid (show (w.alloc six).cell? ⟨w.heap.size, 1, none⟩ = some (.int .u64 0) by unfold six; go_simp)
  have hzf := Lib.hid (show (w.alloc six).frozen? ⟨w.heap.size, 0, none⟩ = false by unfold six; go_simp)
  have hzx := Lib.hid (show (w.alloc six).cell? ⟨gx, 0, none⟩ = some (.int .u64 (m : Int)) by go_simp)
  have hzy := Lib.hid (show (w.alloc six).cell? ⟨gy, 0, none⟩ = some (.int .u64 (n : Int)) by go_simp)
  have hwz := Lib.hid (show (w.alloc six).heap.size = w.heap.size + 1 by simp)
  have hB0 := Lib.hid (show Below w.heap.size w (w.alloc six) by go_grown)
  have hBlk := Lib.hid (show (w.alloc six).heap[w.heap.size]? = some six by show (w.heap.push six)[w.heap.size]? = _; simp)
  generalize w.alloc six = w1 at *
  go_still_tail 9, (by kernel_rfl)
  change wpList _ _ _ _ _ w1.drew
  go_wp2_with fail
  refine (HVV.out w.heap.size (.int .u64 0) w1.drew hz.out hzf.out hzx.out hzy.out).mono ?_
  rintro e w2 ⟨rfl, k, rfl⟩
  have hblk2 : ((w1.drew.setCell ⟨w.heap.size, 0, none⟩ (.int .u64 (s : Int))).drewN k).heap[w.heap.size]? = some (.cells #[.int .u64 (s : Int), .int .u64 0, .int .u64 0, .int .u64 0, .int .u64 0, .int .u64 0] 52 (0, 0)) := by
    show (World.setCell w1 ⟨w.heap.size, 0, none⟩ (.int .u64 (s : Int))).heap[w.heap.size]? = _
    simp only [World.setCell, Array.getElem?_modify, if_true, hBlk.out, Option.map_some, six]
    rfl
  have hB2 : Below w.heap.size w ((w1.drew.setCell ⟨w.heap.size, 0, none⟩ (.int .u64 (s : Int))).drewN k) := by
    have : Below w.heap.size w (w1.setCell ⟨w.heap.size, 0, none⟩ (.int .u64 (s : Int))) := hB0.out.setCell (Nat.le_refl _) _
    exact ⟨this.os, this.tape, this.output, this.size, this.block⟩
  generalize (w1.drew.setCell ⟨w.heap.size, 0, none⟩ (.int .u64 (s : Int))).drewN k = w2 at hblk2 hB2 ⊢
  have e0 := word_at hblk2 0
  have e1 := word_at hblk2 1
  have f1 : w2.frozen? ⟨w.heap.size, 1, none⟩ = false := by simp [World.frozen?, hblk2]
  simp at e0 e1
  have HBK := Lib.hid hblk2
  have HB2 := Lib.hid hB2
  clear hblk2 hB2
  have g0 : (w2.setCell ⟨w.heap.size, 1, none⟩ (.int .u64 1)).heap[w.heap.size]? = some (.cells #[.int .u64 (s : Int), .int .u64 1, .int .u64 0, .int .u64 0, .int .u64 0, .int .u64 0] 52 (0, 0)) := by
    simp only [World.setCell, Array.getElem?_modify, if_true, HBK.out, Option.map_some]
    rfl
  have HG := Lib.hid g0
  have HB3 : Hid (Below w.heap.size w (w2.setCell ⟨w.heap.size, 1, none⟩ (.int .u64 1))) := Lib.hid (HB2.out.setCell (Nat.le_refl _) _)
  have HNO := Lib.hid (norm_two w.heap.size 6 _ (w2.setCell ⟨w.heap.size, 1, none⟩ (.int .u64 1)) (word_at g0 0) (word_at g0 1) (by omega))
  clear g0
  go_wp2_with fail
  refine HNO.out.mono ?_
  rintro e w3 ⟨rfl, rfl⟩
  go_wp2_with fail
  go_ret
  exact ⟨⟨_, rfl, w.heap.size, 6, [.int .u64 0, .int .u64 0, .int .u64 0, .int .u64 0], by rw [HNN.out]; rfl, by rw [HNN.out]; exact HG.out⟩, HB3.out⟩
end Go.Proofs.YtffiamchcadloaaGreatDoor
