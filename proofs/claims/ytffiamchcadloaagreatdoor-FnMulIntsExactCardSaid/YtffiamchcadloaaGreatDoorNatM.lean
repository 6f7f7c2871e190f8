/-
  The product of two one-word natural numbers (package bigall), walked; the laws' own full product.
-/
import Derived.Test.YtffiamchcadloaaGreatDoorBigA
import Derived.Test.YtffiamchcadloaaGreatDoorTwos
import Derived.Shelf.Bits.Mul64
namespace Go.Proofs.YtffiamchcadloaaGreatDoor
set_option linter.unusedVariables false
set_option linter.unusedSimpArgs false
open Go.RowKit Go.Lib

set_option maxHeartbeats 1600000 in
theorem bits_mul64 (x y : Nat) (hx : x < 18446744073709551616) (hy : y < 18446744073709551616) (w : World) :
    Calls Tryz.prog 115 #[.int .u64 x, .int .u64 y] w fun e w' => e = .returned (.tuple #[.int .u64 ((x * y / 18446744073709551616 : Nat) : Int), .int .u64 ((x * y % 18446744073709551616 : Nat) : Int)]) ∧ w' = w := by
  obtain ⟨bd, bt, bw, hhi⟩ := Lib.mul64_hi x y hx hy
  have ba := Lib.half_mul_le (a := x / 4294967296) (b := y / 4294967296) (by omega) (by omega)
  have bb := Lib.half_mul_le (a := x / 4294967296) (b := y % 4294967296) (by omega) (by omega)
  have bc := Lib.half_mul_le (a := x % 4294967296) (b := y / 4294967296) (by omega) (by omega)
  have ba' : x / 4294967296 * (y / 4294967296) < 18446744073709551616 := by omega
  have bb' : x / 4294967296 * (y % 4294967296) < 18446744073709551616 := by omega
  have bc' : x % 4294967296 * (y / 4294967296) < 18446744073709551616 := by omega
  have bh1 : x / 4294967296 * (y / 4294967296) + (x / 4294967296 * (y % 4294967296) + x % 4294967296 * (y % 4294967296) / 4294967296) / 4294967296 < 18446744073709551616 := by omega
  have bh : x / 4294967296 * (y / 4294967296) + (x / 4294967296 * (y % 4294967296) + x % 4294967296 * (y % 4294967296) / 4294967296) / 4294967296 + ((x / 4294967296 * (y % 4294967296) + x % 4294967296 * (y % 4294967296) / 4294967296) % 4294967296 + x % 4294967296 * (y / 4294967296)) / 4294967296 < 18446744073709551616 := by omega
  go_enter Tryz.func115, Tryz.ntmps115
  go_wp2
  simp only [Mul64.maskN x hx, Mul64.maskN y hy, Mul64.divN, Mul64.mulN, Mul64.addN, Mul64.wrapN _ bd, Mul64.wrapN _ bb', Mul64.wrapN _ bt, Mul64.maskN _ bt, Mul64.wrapN _ bc', Mul64.wrapN _ bw, Mul64.wrapN _ ba', Mul64.wrapN _ bh1, Mul64.wrapN _ bh, Mul64.wrapM (x * y)]
  rw [hhi]
  go_ret2
  exact ⟨rfl, rfl⟩
theorem bits_mul (x y : Nat) (hx : x < 18446744073709551616) (hy : y < 18446744073709551616) (w : World) :
    Calls Tryz.prog 82 #[.int .u64 x, .int .u64 y] w fun e w' => e = .returned (.tuple #[.int .u64 ((x * y / 18446744073709551616 : Nat) : Int), .int .u64 ((x * y % 18446744073709551616 : Nat) : Int)]) ∧ w' = w := by
  have H := Lib.hid (fun w => bits_mul64 x y hx hy w)
  generalize x * y / 18446744073709551616 = h at H ⊢
  generalize x * y % 18446744073709551616 = l at H ⊢
  go_enter Tryz.func82, Tryz.ntmps82
  go_wp2_with fail
  refine (H.out _).mono ?_
  rintro e w1 ⟨rfl, rfl⟩
  go_wp2_with fail
  go_ret2
  exact ⟨rfl, rfl⟩
set_option maxHeartbeats 1600000 in
theorem zzmul_any (x y : Nat) (hx : x < 18446744073709551616) (hy : y < 18446744073709551616) (w : World) :
    Calls Tryz.prog 11 #[.int .u64 x, .int .u64 y] w fun e w' => e = .returned (.tuple #[.int .u64 ((x * y / 18446744073709551616 : Nat) : Int), .int .u64 ((x * y % 18446744073709551616 : Nat) : Int)]) ∧ w' = w := by
  obtain ⟨bd, bt, bw, hhi⟩ := Lib.mul64_hi x y hx hy
  have ba := Lib.half_mul_le (a := x / 4294967296) (b := y / 4294967296) (by omega) (by omega)
  have bb := Lib.half_mul_le (a := x / 4294967296) (b := y % 4294967296) (by omega) (by omega)
  have bc := Lib.half_mul_le (a := x % 4294967296) (b := y / 4294967296) (by omega) (by omega)
  have ba' : x / 4294967296 * (y / 4294967296) < 18446744073709551616 := by omega
  have bb' : x / 4294967296 * (y % 4294967296) < 18446744073709551616 := by omega
  have bc' : x % 4294967296 * (y / 4294967296) < 18446744073709551616 := by omega
  have bh1 : x / 4294967296 * (y / 4294967296) + (x / 4294967296 * (y % 4294967296) + x % 4294967296 * (y % 4294967296) / 4294967296) / 4294967296 < 18446744073709551616 := by omega
  have bh : x / 4294967296 * (y / 4294967296) + (x / 4294967296 * (y % 4294967296) + x % 4294967296 * (y % 4294967296) / 4294967296) / 4294967296 + ((x / 4294967296 * (y % 4294967296) + x % 4294967296 * (y % 4294967296) / 4294967296) % 4294967296 + x % 4294967296 * (y / 4294967296)) / 4294967296 < 18446744073709551616 := by omega
  go_enter Tryz.func11, Tryz.ntmps11
  go_wp2
  simp only [Mul64.maskN x hx, Mul64.maskN y hy, Mul64.divN, Mul64.mulN, Mul64.addN, Mul64.wrapN _ bd, Mul64.wrapN _ bb', Mul64.wrapN _ bt, Mul64.maskN _ bt, Mul64.wrapN _ bc', Mul64.wrapN _ bw, Mul64.wrapN _ ba', Mul64.wrapN _ bh1, Mul64.wrapN _ bh, Mul64.wrapM (x * y)]
  rw [hhi]
  go_ret2
  exact ⟨rfl, rfl⟩
theorem zzabs_any (x : Int) (h0 : -9223372036854775808 ≤ x) (h1 : x ≤ 9223372036854775807) (w : World) :
    Calls Tryz.prog 12 #[.int .i64 x] w fun e w' => e = .returned (.int .u64 (x.natAbs : Int)) ∧ w' = w := by
  by_cases hx : x < 0
  · have hw : IntKind.u64.wrap (0 - IntKind.u64.wrap x) = -x := by rw [IntKind.wrap_u64, IntKind.wrap_u64]; omega
    have hw2 : IntKind.u64.wrap (-IntKind.u64.wrap x) = -x := by rw [IntKind.wrap_u64, IntKind.wrap_u64]; omega
    have hn : (x.natAbs : Int) = -x := by omega
    rw [hn]
    go_enter Tryz.func12, Tryz.ntmps12
    go_wp2
    go_ret
    exact ⟨rfl, rfl⟩
  · have hw : IntKind.u64.wrap x = x := by rw [IntKind.wrap_u64]; omega
    have hn : (x.natAbs : Int) = x := by omega
    rw [hn]
    go_enter Tryz.func12, Tryz.ntmps12
    go_wp2
    go_ret
    exact ⟨rfl, rfl⟩
theorem mulAdd3 (x y : Nat) (h l : Nat) (hh : x * y / 18446744073709551616 = h) (hl : x * y % 18446744073709551616 = l) (hx : x < 18446744073709551616) (hy : y < 18446744073709551616) (w : World) :
    Calls Tryz.prog 187 #[.int .u64 x, .int .u64 y, .int .u64 0] w fun e w' => e = .returned (.tuple #[.int .u64 h, .int .u64 l]) ∧ w' = w := by
  have H := Lib.hid (fun w => bits_mul x y hx hy w)
  have hbx := Mul64.wrapN x hx
  have hby := Mul64.wrapN y hy
  have hhb : h < 18446744073709551616 := by
    rw [← hh]
    have := Nat.mul_lt_mul_of_lt_of_lt hx hy
    omega
  rw [hh, hl] at H
  have HA := Lib.hid (fun w => bits_add l 0 0 (by omega) (by omega) (by omega) w)
  rw [show (l + 0 + 0) % 18446744073709551616 = l by omega, show (l + 0 + 0) / 18446744073709551616 = 0 by omega] at HA
  have hwh : IntKind.u64.wrap (h : Int) = h := Mul64.wrapN h hhb
  clear hh hl hx hy hhb
  go_enter Tryz.func187, Tryz.ntmps187
  go_wp2_with fail
  refine (H.out _).mono ?_
  rintro e w1 ⟨rfl, rfl⟩
  go_wp2_with fail
  refine (HA.out _).mono ?_
  rintro e w1 ⟨rfl, rfl⟩
  go_wp2_with fail
  go_ret2
  exact ⟨rfl, rfl⟩
set_option maxRecDepth 100000 in
set_option maxHeartbeats 1600000 in
theorem mulVWW_one (G gx cg cx x y : Nat) (h l : Nat) (hh : x * y / 18446744073709551616 = h) (hl : x * y % 18446744073709551616 = l) (hx : x < 18446744073709551616) (hy : y < 18446744073709551616) (v : Value) (w : World) (hz : w.cell? ⟨G, 0, none⟩ = some v) (hf : w.frozen? ⟨G, 0, none⟩ = false) (c1 : w.cell? ⟨gx, 0, none⟩ = some (.int .u64 (x : Int))) :
    Calls Tryz.prog 158 #[.slice (some ⟨G, 0, none⟩) 1 cg, .slice (some ⟨gx, 0, none⟩) 1 cx, .int .u64 y, .int .u64 0] w fun e w' => e = .returned (.int .u64 (h : Int)) ∧ ∃ k, w' = (w.setCell ⟨G, 0, none⟩ (.int .u64 (l : Int))).drewN k := by
  have HB := Lib.hid (fun w => mulAdd3 x y h l hh hl hx hy w)
  clear hh hl hx hy
  go_enter Tryz.func158, Tryz.ntmps158
  go_wp2_with fail
  refine wp_loop_rounds 2 ?_
  rw [rounds_succ]
  go_wp2_with fail
  refine (HB.out _).mono ?_
  rintro e w1 ⟨rfl, rfl⟩
  go_wp2_with fail
  rw [rounds_succ]
  go_wp2_with fail
  go_ret
  exact ⟨rfl, 0, rfl⟩
theorem mulVWW_c (G gx cg cx x y : Nat) (h l : Nat) (hh : x * y / 18446744073709551616 = h) (hl : x * y % 18446744073709551616 = l) (hx : x < 18446744073709551616) (hy : y < 18446744073709551616) (v : Value) (w : World) (hz : w.cell? ⟨G, 0, none⟩ = some v) (hf : w.frozen? ⟨G, 0, none⟩ = false) (c1 : w.cell? ⟨gx, 0, none⟩ = some (.int .u64 (x : Int))) :
    Calls Tryz.prog 135 #[.slice (some ⟨G, 0, none⟩) 1 cg, .slice (some ⟨gx, 0, none⟩) 1 cx, .int .u64 y, .int .u64 0] w fun e w' => e = .returned (.int .u64 (h : Int)) ∧ ∃ k, w' = (w.setCell ⟨G, 0, none⟩ (.int .u64 (l : Int))).drewN k := by
  have H := Lib.hid (mulVWW_one G gx cg cx x y h l hh hl hx hy v w hz hf c1)
  clear hh hl hx hy hz hf c1
  go_enter Tryz.func135, Tryz.ntmps135
  go_wp2_with fail
  refine H.out.mono ?_
  rintro e w1 ⟨rfl, k, rfl⟩
  go_wp2_with fail
  go_ret
  exact ⟨rfl, k, rfl⟩
set_option maxHeartbeats 800000 in
theorem norm_big (G c : Nat) (s : Value) (t : Nat) (w : World) (h0 : w.cell? ⟨G, 0, none⟩ = some s) (h1 : w.cell? ⟨G, 1, none⟩ = some (.int .u64 (t : Int))) (ht : ((t : Int) == 0) = false) (hc : 2 ≤ c) :
    Calls Tryz.prog 75 #[.slice (some ⟨G, 0, none⟩) 2 c] w fun e w' => e = .returned (.slice (some ⟨G, 0, none⟩) 2 c) ∧ w = w' := by
  have hq : (2 : Int) ≤ (c : Int) := by omega
  go_enter Tryz.func75, Tryz.ntmps75
  go_wp2_with fail
  refine wp_loop_rounds 3 ?_
  rw [rounds_succ]
  go_wp2_with fail
  go_ret
  exact ⟨rfl, rfl⟩
/-- norm of two words. -/
theorem norm_any (G c l h N : Nat) (w : World) (h0 : w.cell? ⟨G, 0, none⟩ = some (.int .u64 (l : Int))) (h1 : w.cell? ⟨G, 1, none⟩ = some (.int .u64 (h : Int))) (hN0 : N ≠ 0) (hl : N % 18446744073709551616 = l) (hh : N / 18446744073709551616 = h) (hc : 2 ≤ c) :
    Calls Tryz.prog 75 #[.slice (some ⟨G, 0, none⟩) 2 c] w fun e w' => e = .returned (.slice (some ⟨G, 0, none⟩) (wordsOf N).length c) ∧ w = w' := by
  by_cases ht : h = 0
  · subst ht
    have e : (wordsOf N).length = 1 := by
      unfold wordsOf
      rw [if_neg hN0, if_pos (by omega)]
      rfl
    rw [e]
    exact norm_one G c l w h0 h1 (by rw [beq_eq_false_iff_ne]; omega) hc
  · have e : (wordsOf N).length = 2 := by
      unfold wordsOf
      rw [if_neg hN0, if_neg (by omega)]
      rfl
    rw [e]
    exact norm_big G c _ h w h0 h1 (by rw [beq_eq_false_iff_ne]; omega) hc
theorem words_two (N l h : Nat) (rest : List Value) (hN0 : N ≠ 0) (hl : N % 18446744073709551616 = l) (hh : N / 18446744073709551616 = h) : ∃ cur, Value.int .u64 (l : Int) :: Value.int .u64 (h : Int) :: rest = wordsOf N ++ cur := by
  unfold wordsOf
  rw [if_neg hN0]
  by_cases ht : h = 0
  · rw [if_pos (by omega)]
    exact ⟨Value.int .u64 (h : Int) :: rest, by rw [← hl, Nat.mod_eq_of_lt (by omega)]; rfl⟩
  · rw [if_neg (by omega)]
    exact ⟨rest, by rw [← hl, ← hh]; rfl⟩
set_option maxRecDepth 100000 in
set_option maxHeartbeats 1600000 in
theorem mulWW_any (gx cx m y l h N : Nat) (hN : m * y = N) (hN0 : N ≠ 0) (hl : N % 18446744073709551616 = l) (hh : N / 18446744073709551616 = h) (hm : m < 18446744073709551616) (hy : y < 18446744073709551616) (hcx0 : 1 ≤ cx) (hcx : cx < 2) (w : World) (hx : w.cell? ⟨gx, 0, none⟩ = some (.int .u64 (m : Int))) (hgx : gx < w.heap.size) :
    Calls Tryz.prog 108 #[.slice (some ⟨gx, 0, none⟩) 1 cx, .slice (some ⟨gx, 0, none⟩) 1 cx, .int .u64 (y : Int), .int .u64 0] w fun e w' => (∃ v, e = .returned v ∧ NatAt w' v N) ∧ Below w.heap.size w w' := by
  have hy0 : ((y : Int) == 0) = false := by
    rw [beq_eq_false_iff_ne]
    rintro hc
    have : y = 0 := by omega
    rw [this] at hN
    exact hN0 (by omega)
  have HVV := Lib.hid (fun (G : Nat) (v : Value) (w : World) a b c => mulVWW_c G gx 6 cx m y h l (by rw [hN]; exact hh) (by rw [hN]; exact hl) hm hy v w a b c)
  have HNO := Lib.hid (fun (G : Nat) (w : World) a b => norm_any G 6 l h N w a b hN0 hl hh (by omega))
  have HWT := Lib.hid (words_two N l h [.int .u64 0, .int .u64 0, .int .u64 0, .int .u64 0] hN0 hl hh)
  have HM := Lib.hid (fun w => natMake2 (some ⟨gx, 0, none⟩) 1 cx hcx w)
  have hq : (cx : Int) < 2 := by omega
  have hq0 : (1 : Int) ≤ (cx : Int) := by omega
  clear hcx0 hcx hN hN0 hl hh hm hy
  go_enter Tryz.func108, Tryz.ntmps108
  go_wp2_with fail
  refine (HM.out _).mono ?_
  rintro e w1 ⟨rfl, rfl⟩
  go_wp2_with fail
  have hz := Lib.hid (show (w.alloc six).cell? ⟨w.heap.size, 0, none⟩ = some (.int .u64 0) by unfold six; go_simp)
  have hzf := Lib.hid (show (w.alloc six).frozen? ⟨w.heap.size, 0, none⟩ = false by unfold six; go_simp)
  have hzx := Lib.hid (show (w.alloc six).cell? ⟨gx, 0, none⟩ = some (.int .u64 (m : Int)) by go_simp)
  have hB0 := Lib.hid (show Below w.heap.size w (w.alloc six) by go_grown)
  have hBlk := Lib.hid (show (w.alloc six).heap[w.heap.size]? = some six by show (w.heap.push six)[w.heap.size]? = _; simp)
  generalize w.alloc six = w1 at *
  refine (HVV.out w.heap.size (.int .u64 0) w1 hz.out hzf.out hzx.out).mono ?_
  rintro e w2 ⟨rfl, k, rfl⟩
  have hblk2 : ((w1.setCell ⟨w.heap.size, 0, none⟩ (.int .u64 (l : Int))).drewN k).heap[w.heap.size]? = some (.cells #[.int .u64 (l : Int), .int .u64 0, .int .u64 0, .int .u64 0, .int .u64 0, .int .u64 0] 52 (0, 0)) := by
    show (World.setCell w1 ⟨w.heap.size, 0, none⟩ (.int .u64 (l : Int))).heap[w.heap.size]? = _
    simp only [World.setCell, Array.getElem?_modify, if_true, hBlk.out, Option.map_some, six]
    rfl
  have hB2 : Below w.heap.size w ((w1.setCell ⟨w.heap.size, 0, none⟩ (.int .u64 (l : Int))).drewN k) := by
    have : Below w.heap.size w (w1.setCell ⟨w.heap.size, 0, none⟩ (.int .u64 (l : Int))) := hB0.out.setCell (Nat.le_refl _) _
    exact ⟨this.os, this.tape, this.output, this.size, this.block⟩
  generalize (w1.setCell ⟨w.heap.size, 0, none⟩ (.int .u64 (l : Int))).drewN k = w2 at hblk2 hB2 ⊢
  have e0 := word_at hblk2 0
  have e1 := word_at hblk2 1
  have f1 : w2.frozen? ⟨w.heap.size, 1, none⟩ = false := by simp [World.frozen?, hblk2]
  simp at e0 e1
  have HBK := Lib.hid hblk2
  have HB2 := Lib.hid hB2
  clear hblk2 hB2
  have g0 : (w2.setCell ⟨w.heap.size, 1, none⟩ (.int .u64 (h : Int))).heap[w.heap.size]? = some (.cells #[.int .u64 (l : Int), .int .u64 (h : Int), .int .u64 0, .int .u64 0, .int .u64 0, .int .u64 0] 52 (0, 0)) := by
    simp only [World.setCell, Array.getElem?_modify, if_true, HBK.out, Option.map_some]
    rfl
  have HG := Lib.hid g0
  have HB3 : Hid (Below w.heap.size w (w2.setCell ⟨w.heap.size, 1, none⟩ (.int .u64 (h : Int)))) := Lib.hid (HB2.out.setCell (Nat.le_refl _) _)
  have HNR := Lib.hid (HNO.out w.heap.size (w2.setCell ⟨w.heap.size, 1, none⟩ (.int .u64 (h : Int))) (word_at g0 0) (word_at g0 1))
  clear g0
  go_wp2_with fail
  refine HNR.out.mono ?_
  rintro e w3 ⟨rfl, rfl⟩
  go_wp2_with fail
  go_ret
  obtain ⟨cur, hcur⟩ := HWT.out
  exact ⟨⟨_, rfl, w.heap.size, 6, cur, rfl, by rw [← hcur]; exact HG.out⟩, HB3.out⟩
theorem natMul_any (gx gy cx cy m y : Nat) (hN0 : m * y ≠ 0) (hm : m < 18446744073709551616) (hy : y < 18446744073709551616) (hcx0 : 1 ≤ cx) (hcx : cx < 2) (w : World) (stk : Value) (hx : w.cell? ⟨gx, 0, none⟩ = some (.int .u64 (m : Int))) (hyc : w.cell? ⟨gy, 0, none⟩ = some (.int .u64 (y : Int))) (hgx : gx < w.heap.size) :
    Calls Tryz.prog 80 #[.slice (some ⟨gx, 0, none⟩) 1 cx, stk, .slice (some ⟨gx, 0, none⟩) 1 cx, .slice (some ⟨gy, 0, none⟩) 1 cy] w fun e w' => (∃ v, e = .returned v ∧ NatAt w' v (m * y)) ∧ Below w.heap.size w w' := by
  have HM := Lib.hid (mulWW_any gx cx m y _ _ (m * y) rfl hN0 rfl rfl hm hy hcx0 hcx w hx hgx)
  generalize m * y = N at *
  clear hN0 hm hy hcx0 hcx
  go_enter Tryz.func80, Tryz.ntmps80
  go_wp2_with fail
  refine HM.out.mono ?_
  rintro e w1 ⟨⟨v, rfl, hv⟩, hb⟩
  have HV := Lib.hid hv
  have HB := Lib.hid hb
  clear hv hb
  go_wp2_with fail
  go_ret
  exact ⟨⟨_, rfl, HV.out⟩, HB.out⟩
end Go.Proofs.YtffiamchcadloaaGreatDoor
