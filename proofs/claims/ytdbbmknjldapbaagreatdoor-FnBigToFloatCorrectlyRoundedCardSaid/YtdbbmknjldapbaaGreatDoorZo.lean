/-
  Big integers made of two words (package bigall): setUint64, lsh by 64, or; the natural numbers. Walked.
-/
import Derived.Test.YtdbbmknjldapbaaGreatDoorBf
import Derived.Lib.SliceRun
import Derived.StillTailTactics
namespace Go.Proofs.YtdbbmknjldapbaaGreatDoor
set_option linter.unusedVariables false
set_option linter.unusedSimpArgs false
open Go.RowKit Go.Lib Go.Sort

theorem setWord_zero (w : World) : Calls Tryz.prog 28 #[.slice none 0 0, .int .u64 0] w fun e w' => e = .returned (.slice none 0 0) ∧ w' = w := by
  go_enter Tryz.func28, Tryz.ntmps28
  go_wp2_with fail
  go_ret
  exact ⟨rfl, rfl⟩
theorem setU_zero (w : World) : Calls Tryz.prog 13 #[.slice none 0 0, .int .u64 0] w fun e w' => e = .returned (.slice none 0 0) ∧ w' = w := by
  have H := Lib.hid setWord_zero
  go_enter Tryz.func13, Tryz.ntmps13
  go_wp2_with fail
  refine (H.out _).mono ?_
  rintro e w1 ⟨rfl, rfl⟩
  go_wp2_with fail
  go_ret
  exact ⟨rfl, rfl⟩
theorem setWord_any (v : Nat) (hv : v ≠ 0) (w : World) : Calls Tryz.prog 28 #[.slice none 0 0, .int .u64 (v : Int)] w fun e w' => e = .returned (.slice (some ⟨w.heap.size, 0, none⟩) 1 1) ∧ w' = w.alloc (.cells #[.int .u64 (v : Int)] 53) := by
  have H := Lib.hid natMake1
  have h0 : ((v : Int) == 0) = false := by rw [beq_eq_false_iff_ne]; omega
  go_enter Tryz.func28, Tryz.ntmps28
  go_wp2_with fail
  refine (H.out _).mono ?_
  rintro e w1 ⟨rfl, rfl⟩
  go_wp2_with fail
  go_ret
  exact ⟨rfl, rfl⟩
theorem setU_any (v : Nat) (hv : v ≠ 0) (hv2 : v < 18446744073709551616) (w : World) : Calls Tryz.prog 13 #[.slice none 0 0, .int .u64 (v : Int)] w fun e w' => e = .returned (.slice (some ⟨w.heap.size, 0, none⟩) 1 1) ∧ w' = w.alloc (.cells #[.int .u64 (v : Int)] 53) := by
  have H := Lib.hid (setWord_any v hv)
  have w1 : IntKind.u64.wrap (v : Int) = (v : Int) := by rw [IntKind.wrap_u64]; omega
  clear hv hv2
  go_enter Tryz.func13, Tryz.ntmps13
  go_wp2_with fail
  refine (H.out _).mono ?_
  rintro e w1 ⟨rfl, rfl⟩
  go_wp2_with fail
  go_ret
  exact ⟨rfl, rfl⟩
theorem word_zero (w : World) : (zeroValue 53).run Tryz.prog w = .ok (.int .u64 0) w := by kernel_rfl
theorem mk_nat37 (w : World) : (Instr.makeSlice 29 (.int .i64 3) (.int .i64 7)).run Tryz.prog w = .ok (.slice (some ⟨w.heap.size, 0, none⟩) 3 7) (w.alloc (.cells #[.int .u64 0, .int .u64 0, .int .u64 0, .int .u64 0, .int .u64 0, .int .u64 0, .int .u64 0] 53)) :=
  run_mk 29 53 (.int .u64 0) 8 Tryz.underlying29 (by kernel_rfl) rfl 3 7 (by omega) (by omega) (by omega) w
theorem natMake3 (a : Addr) (l c : Nat) (hc : c ≤ 1) (w : World) :
    Calls Tryz.prog 29 #[.slice (some a) l c, .int .i64 3] w fun e w' => e = .returned (.slice (some ⟨w.heap.size, 0, none⟩) 3 7) ∧ w' = w.alloc (.cells #[.int .u64 0, .int .u64 0, .int .u64 0, .int .u64 0, .int .u64 0, .int .u64 0, .int .u64 0] 53) := by
  have mk := mk_nat37
  have h1 : ¬ (3 : Int) ≤ (c : Int) := by omega
  go_enter Tryz.func29, Tryz.ntmps29
  go_wp2
  go_ret
  exact ⟨rfl, rfl⟩
set_option maxHeartbeats 800000 in
theorem norm3_two (G c h : Nat) (w : World) (h2 : w.cell? ⟨G, 2, none⟩ = some (.int .u64 0)) (h1 : w.cell? ⟨G, 1, none⟩ = some (.int .u64 (h : Int))) (hh : ((h : Int) == 0) = false) (hc : 3 ≤ c) :
    Calls Tryz.prog 34 #[.slice (some ⟨G, 0, none⟩) 3 c] w fun e w' => e = .returned (.slice (some ⟨G, 0, none⟩) 2 c) ∧ w' = w := by
  have hq : (2 : Int) ≤ (c : Int) := by omega
  go_enter Tryz.func34, Tryz.ntmps34
  go_wp2_with fail
  refine wp_loop_rounds 3 ?_
  rw [rounds_succ]
  go_wp2_with fail
  rw [rounds_succ]
  go_wp2_with fail
  go_ret
  exact ⟨rfl, rfl⟩
theorem norm_zero (w : World) : Calls Tryz.prog 34 #[.slice none 0 0] w fun e w' => e = .returned (.slice none 0 0) ∧ w' = w := by
  go_enter Tryz.func34, Tryz.ntmps34
  go_wp2_with fail
  refine wp_loop_rounds 3 ?_
  rw [rounds_succ]
  go_wp2_with fail
  go_ret
  exact ⟨rfl, rfl⟩
theorem lsh_zero (w : World) : Calls Tryz.prog 14 #[.slice none 0 0, .slice none 0 0, .int .u64 64] w fun e w' => e = .returned (.slice none 0 0) ∧ w' = w := by
  go_enter Tryz.func14, Tryz.ntmps14
  go_wp2_with fail
  go_ret
  exact ⟨rfl, rfl⟩
set_option maxRecDepth 100000 in
set_option maxHeartbeats 1600000 in
theorem lsh_any (G c h : Nat) (hh : h ≠ 0) (hh2 : h < 18446744073709551616) (hc : c ≤ 1) (w : World) (hr : Row w G 53 [.int .u64 (h : Int)]) :
    Calls Tryz.prog 14 #[.slice (some ⟨G, 0, none⟩) 1 c, .slice (some ⟨G, 0, none⟩) 1 c, .int .u64 64] w fun e w' => (e = .returned (.slice (some ⟨w.heap.size, 0, none⟩) 2 7) ∧ Row w' w.heap.size 53 [.int .u64 0, .int .u64 (h : Int), .int .u64 0, .int .u64 0, .int .u64 0, .int .u64 0, .int .u64 0]) ∧ Below w.heap.size w w' ∧ w.heap.size < w'.heap.size := by
  have HM := Lib.hid (natMake3 ⟨G, 0, none⟩ 1 c hc)
  have hRow : Row (w.alloc (.cells #[.int .u64 0, .int .u64 0, .int .u64 0, .int .u64 0, .int .u64 0, .int .u64 0, .int .u64 0] 53)) w.heap.size 53 [.int .u64 0, .int .u64 0, .int .u64 0, .int .u64 0, .int .u64 0, .int .u64 0, .int .u64 0] := Row.alloc w _ _
  have hS : SliceOf (w.alloc (.cells #[.int .u64 0, .int .u64 0, .int .u64 0, .int .u64 0, .int .u64 0, .int .u64 0, .int .u64 0] 53)) (.slice (some ⟨G, 0, none⟩) 1 c) [.int .u64 (h : Int)] := Row.slice (xs := [.int .u64 (h : Int)]) (hr.on (by go_grown)) c
  have hb0 : Below w.heap.size w (w.alloc (.cells #[.int .u64 0, .int .u64 0, .int .u64 0, .int .u64 0, .int .u64 0, .int .u64 0, .int .u64 0] 53)) := by go_grown
  have hs0 : (w.alloc (.cells #[.int .u64 0, .int .u64 0, .int .u64 0, .int .u64 0, .int .u64 0, .int .u64 0, .int .u64 0] 53)).heap.size = w.heap.size + 1 := by simp
  obtain ⟨w2, hrun, hR2, hO⟩ := copy_run (P := Tryz.prog) 29 29 3 53 Tryz.underlying29 word_size w.heap.size 1 1 6 1 c _ [.int .u64 (h : Int)] _ 53 rfl (Nat.le_refl _) (by simp) (by simp [Value.oneCell']) _ hRow hS
  rw [show splice [Value.int .u64 0, .int .u64 0, .int .u64 0, .int .u64 0, .int .u64 0, .int .u64 0, .int .u64 0] 1 [.int .u64 (h : Int)] = [.int .u64 0, .int .u64 (h : Int), .int .u64 0, .int .u64 0, .int .u64 0, .int .u64 0, .int .u64 0] from rfl] at hR2
  obtain ⟨G2, hG2⟩ : ∃ G2, w.heap.size = G2 := ⟨_, rfl⟩
  have HM' := HM.out w
  rw [hG2] at HM' hR2 hO hrun hb0 hs0 ⊢
  have HB2 := Lib.hid (hb0.trans (hO.below (by omega) (fun k hk => Nat.le_of_eq hk.symm)))
  have HS2 : Hid (G2 < w2.heap.size) := Lib.hid (by have := hO.size; omega)
  have hR3 := hR2.set 2 (.int .u64 0)
  have c2 := hR2.cell 2 (by simp)
  have f2 := hR2.free 2
  have hR4 := hR3.set 0 (.int .u64 0)
  have hcl := run_clear_slice (P := Tryz.prog) (w2.setCell ⟨G2, 2, none⟩ (.int .u64 0)) 29 53 0 (.int .u64 0) Tryz.underlying29 word_zero rfl rfl G2 0 1 7 (by decide) (fun j hj => by
    obtain rfl : j = 0 := by omega
    rw [hR3.cell 0 (by simp)]
    rfl) (fun j hj => hR3.free _)
  rw [show (w2.setCell ⟨G2, 2, none⟩ (.int .u64 0)).setCells G2 0 (List.replicate 1 (.int .u64 0)) = (w2.setCell ⟨G2, 2, none⟩ (.int .u64 0)).setCell ⟨G2, 0, none⟩ (.int .u64 0) from rfl] at hcl
  have HB4 := Lib.hid ((HB2.out.setCell (p := ⟨G2, 2, none⟩) (Nat.le_refl _) (.int .u64 0)).setCell (p := ⟨G2, 0, none⟩) (Nat.le_refl _) (.int .u64 0))
  have HS4 : Hid (G2 < ((w2.setCell ⟨G2, 2, none⟩ (.int .u64 0)).setCell ⟨G2, 0, none⟩ (.int .u64 0)).heap.size) := Lib.hid (by simp; exact HS2.out)
  have HN := Lib.hid (norm3_two G2 7 h _ (hR4.cell 2 (by simp)) (hR4.cell 1 (by simp)) (by rw [beq_eq_false_iff_ne]; omega) (by decide))
  have HQ := Lib.hid hR4
  clear hR3 hR4
  have HMM := Lib.hid HM'
  clear HM HM' hRow hS hb0 hO hs0
  generalize w.alloc (.cells #[.int .u64 0, .int .u64 0, .int .u64 0, .int .u64 0, .int .u64 0, .int .u64 0, .int .u64 0] 53) = w1 at *
  go_enter Tryz.func14, Tryz.ntmps14
  go_wp2_with fail
  refine HMM.out.mono ?_
  rintro e wx ⟨rfl, rfl⟩
  go_wp2_with fail
  refine HN.out.mono ?_
  rintro e wx ⟨rfl, rfl⟩
  go_wp2_with fail
  go_ret
  exact ⟨⟨rfl, HQ.out⟩, HB4.out, HS4.out⟩
end Go.Proofs.YtdbbmknjldapbaaGreatDoor
/-
  Natural numbers of at most two words joined (package bigall, nat.or), walked.
-/
namespace Go.Proofs.YtdbbmknjldapbaaGreatDoor
set_option linter.unusedVariables false
set_option linter.unusedSimpArgs false
open Go.RowKit Go.Lib Go.Sort

theorem undrewB {B : Nat} {w w2 : World} (h : Below B w.drew w2) : Below B w w2 := ⟨h.os, h.tape, h.output, h.size, h.block⟩
theorem natMake0 (w : World) :
    Calls Tryz.prog 29 #[.slice none 0 0, .int .i64 0] w fun e w' => e = .returned (.slice none 0 0) ∧ w' = w := by
  go_enter Tryz.func29, Tryz.ntmps29
  go_wp2_with fail
  go_ret
  exact ⟨rfl, rfl⟩
set_option maxRecDepth 100000 in
set_option maxHeartbeats 1600000 in
theorem nor_zero (w : World) : Calls Tryz.prog 19 #[.slice none 0 0, .slice none 0 0, .slice none 0 0] w fun e w' => e = .returned (.slice none 0 0) ∧ ∃ k, w' = w.drewN k := by
  have HM := Lib.hid natMake0
  have HN := Lib.hid norm_zero
  have hcp : ∀ w : World, (Builtin.copy_ #[29, 29] 3 #[.slice none 0 0, .slice none 0 0]).run Tryz.prog w = .ok (.int .i64 0) w := fun w => by
    have := run_copy_none (P := Tryz.prog) w 29 29 3 53 none none 0 0 0 0 Tryz.underlying29 word_size (by simp)
    rw [this]
    rfl
  go_enter Tryz.func19, Tryz.ntmps19
  go_wp2_with fail
  refine (HM.out _).mono ?_
  rintro e w1 ⟨rfl, rfl⟩
  go_wp2_with fail
  refine wp_loop_rounds 2 ?_
  rw [rounds_succ]
  go_wp2_with fail
  go_still_tail 8, (by kernel_rfl)
  change wpList _ _ _ _ _ w1.drew
  go_wp2_with fail
  refine (HN.out _).mono ?_
  rintro e w2 ⟨rfl, rfl⟩
  go_wp2_with fail
  go_ret
  exact ⟨rfl, 1, rfl⟩
set_option maxRecDepth 100000 in
set_option maxHeartbeats 1600000 in
theorem or_low (G l : Nat) (hl : l ≠ 0) (w : World) (hr : Row w G 53 [.int .u64 (l : Int)]) :
    Calls Tryz.prog 19 #[.slice none 0 0, .slice none 0 0, .slice (some ⟨G, 0, none⟩) 1 1] w fun e w' => (e = .returned (.slice (some ⟨w.heap.size, 0, none⟩) 1 1) ∧ Row w' w.heap.size 53 [.int .u64 (l : Int)]) ∧ Below w.heap.size w w' ∧ w.heap.size < w'.heap.size := by
  have HM := Lib.hid natMake1
  have hRow : Row (w.alloc (.cells #[.int .u64 0] 53)) w.heap.size 53 [.int .u64 0] := Row.alloc w _ _
  have hS : SliceOf (w.alloc (.cells #[.int .u64 0] 53)) (.slice (some ⟨G, 0, none⟩) 1 1) [.int .u64 (l : Int)] := Row.slice (xs := [.int .u64 (l : Int)]) (hr.on (by go_grown)) 1
  have hb0 : Below w.heap.size w (w.alloc (.cells #[.int .u64 0] 53)) := by go_grown
  have hs0 : (w.alloc (.cells #[.int .u64 0] 53)).heap.size = w.heap.size + 1 := by simp
  obtain ⟨w2, hrun, hR2, hO⟩ := copy_run (P := Tryz.prog) 29 29 3 53 Tryz.underlying29 word_size w.heap.size 0 1 1 1 1 _ [.int .u64 (l : Int)] _ 53 rfl (Nat.le_refl _) (by simp) (by simp [Value.oneCell']) (w.alloc (.cells #[.int .u64 0] 53)).drew hRow hS
  rw [show splice [Value.int .u64 0] 0 [.int .u64 (l : Int)] = [.int .u64 (l : Int)] from rfl] at hR2
  obtain ⟨G2, hG2⟩ : ∃ G2, w.heap.size = G2 := ⟨_, rfl⟩
  have HM' := HM.out w
  rw [hG2] at HM' hR2 hO hrun hb0 hs0 ⊢
  have HB2 := Lib.hid (hb0.trans (undrewB (hO.below (by show G2 ≤ (w.alloc (.cells #[.int .u64 0] 53)).heap.size; omega) (fun k hk => Nat.le_of_eq hk.symm))))
  have HS2 : Hid (G2 < w2.heap.size) := Lib.hid (Nat.lt_of_lt_of_le (by show G2 < (w.alloc (.cells #[.int .u64 0] 53)).heap.size; omega) hO.size)
  have HR2 := Lib.hid hR2
  have HN := Lib.hid (norm1_one G2 1 l w2 (hR2.cell 0 (by simp)) (by rw [beq_eq_false_iff_ne]; omega) (by decide))
  have HMM := Lib.hid HM'
  clear HM HM' hRow hS hb0 hO hs0 hR2
  generalize w.alloc (.cells #[.int .u64 0] 53) = w1 at *
  go_enter Tryz.func19, Tryz.ntmps19
  go_wp2_with fail
  refine HMM.out.mono ?_
  rintro e wx ⟨rfl, rfl⟩
  go_wp2_with fail
  refine wp_loop_rounds 2 ?_
  rw [rounds_succ]
  go_wp2_with fail
  go_still_tail 8, (by kernel_rfl)
  change wpList _ _ _ _ _ wx.drew
  go_wp2_with fail
  refine HN.out.mono ?_
  rintro e w1 ⟨rfl, rfl⟩
  go_wp2_with fail
  go_ret
  exact ⟨⟨rfl, HR2.out⟩, HB2.out, HS2.out⟩
set_option maxRecDepth 100000 in
set_option maxHeartbeats 1600000 in
theorem or_high (G h : Nat) (hh : h ≠ 0) (w : World) (hr : Row w G 53 [.int .u64 0, .int .u64 (h : Int), .int .u64 0, .int .u64 0, .int .u64 0, .int .u64 0, .int .u64 0]) :
    Calls Tryz.prog 19 #[.slice (some ⟨G, 0, none⟩) 2 7, .slice (some ⟨G, 0, none⟩) 2 7, .slice none 0 0] w fun e w' => (e = .returned (.slice (some ⟨G, 0, none⟩) 2 7) ∧ Row w' G 53 [.int .u64 0, .int .u64 (h : Int), .int .u64 0, .int .u64 0, .int .u64 0, .int .u64 0, .int .u64 0]) ∧ Only (fun k => k = G) w w' := by
  have HM := Lib.hid (fun w => natMake_fit ⟨G, 0, none⟩ 2 2 7 (by decide) w)
  rw [show ((2 : Nat) : Int) = 2 from rfl] at HM
  have hS : SliceOf w (.slice (some ⟨G, 0, none⟩) 2 7) [.int .u64 0, .int .u64 (h : Int)] := Or.inr ⟨by simp, G, 0, 7, rfl, hr.lt, fun j u hj => by
    match j, hj with
    | 0, hj => simp at hj; subst hj; exact hr.cell 0 (by simp)
    | 1, hj => simp at hj; subst hj; exact hr.cell 1 (by simp)
    | j + 2, hj => simp at hj⟩
  obtain ⟨w2, hrun, hR2, hO⟩ := copy_run (P := Tryz.prog) 29 29 3 53 Tryz.underlying29 word_size G 0 2 7 2 7 _ [.int .u64 0, .int .u64 (h : Int)] _ 53 rfl (Nat.le_refl _) (by simp) (by simp [Value.oneCell']) w.drew hr hS
  rw [show splice [Value.int .u64 0, .int .u64 (h : Int), .int .u64 0, .int .u64 0, .int .u64 0, .int .u64 0, .int .u64 0] 0 [.int .u64 0, .int .u64 (h : Int)] = [.int .u64 0, .int .u64 (h : Int), .int .u64 0, .int .u64 0, .int .u64 0, .int .u64 0, .int .u64 0] from rfl] at hR2
  have HO : Hid (Only (fun k => k = G) w w2) := Lib.hid ⟨hO.os, hO.tape, hO.output, hO.size, hO.block⟩
  have HR2 := Lib.hid hR2
  have HN := Lib.hid (norm2_two G 7 h w2 (hR2.cell 1 (by simp)) (by rw [beq_eq_false_iff_ne]; omega) (by decide))
  clear hO hR2 hS
  go_enter Tryz.func19, Tryz.ntmps19
  go_wp2_with fail
  refine (HM.out _).mono ?_
  rintro e wx ⟨rfl, rfl⟩
  go_wp2_with fail
  refine wp_loop_rounds 2 ?_
  rw [rounds_succ]
  go_wp2_with fail
  go_still_tail 8, (by kernel_rfl)
  change wpList _ _ _ _ _ wx.drew
  go_wp2_with fail
  refine HN.out.mono ?_
  rintro e w1 ⟨rfl, rfl⟩
  go_wp2_with fail
  go_ret
  exact ⟨⟨rfl, HR2.out⟩, HO.out⟩
set_option maxRecDepth 100000 in
set_option maxHeartbeats 1600000 in
theorem or_both (G Gy h l : Nat) (hh : h ≠ 0) (hl : l < 18446744073709551616) (w : World) (hr : Row w G 53 [.int .u64 0, .int .u64 (h : Int), .int .u64 0, .int .u64 0, .int .u64 0, .int .u64 0, .int .u64 0]) (hy : Row w Gy 53 [.int .u64 (l : Int)]) :
    Calls Tryz.prog 19 #[.slice (some ⟨G, 0, none⟩) 2 7, .slice (some ⟨G, 0, none⟩) 2 7, .slice (some ⟨Gy, 0, none⟩) 1 1] w fun e w' => (e = .returned (.slice (some ⟨G, 0, none⟩) 2 7) ∧ Row w' G 53 [.int .u64 (l : Int), .int .u64 (h : Int), .int .u64 0, .int .u64 0, .int .u64 0, .int .u64 0, .int .u64 0]) ∧ Only (fun k => k = G) w w' := by
  have HM := Lib.hid (fun w => natMake_fit ⟨G, 0, none⟩ 2 2 7 (by decide) w)
  rw [show ((2 : Nat) : Int) = 2 from rfl] at HM
  have hr1 := hr.set 0 (.int .u64 (l : Int))
  rw [show [Value.int .u64 0, .int .u64 (h : Int), .int .u64 0, .int .u64 0, .int .u64 0, .int .u64 0, .int .u64 0].set 0 (.int .u64 (l : Int)) = [Value.int .u64 (l : Int), .int .u64 (h : Int), .int .u64 0, .int .u64 0, .int .u64 0, .int .u64 0, .int .u64 0] from rfl] at hr1
  have x0 := hr.cell 0 (by simp)
  have f0 := hr.free 0
  have y0 := hy.cell 0 (by simp)
  simp at x0 y0
  have b0 : bits .or .u64 0 (l : Int) = (l : Int) := by
    have := u64_or_nat 0 l (by decide) hl
    rw [Nat.zero_or] at this
    exact this
  have hS : SliceOf (w.setCell ⟨G, 0, none⟩ (.int .u64 (l : Int))) (.slice (some ⟨G, 1, none⟩) 1 6) [.int .u64 (h : Int)] := Or.inr ⟨by simp, G, 1, 6, rfl, hr1.lt, fun j u hj => by
    match j, hj with
    | 0, hj => simp at hj; subst hj; exact hr1.cell 1 (by simp)
    | j + 1, hj => simp at hj⟩
  obtain ⟨w2, hrun, hR2, hO⟩ := copy_run (P := Tryz.prog) 29 29 3 53 Tryz.underlying29 word_size G 1 1 6 1 6 _ [.int .u64 (h : Int)] _ 53 rfl (Nat.le_refl _) (by simp) (by simp [Value.oneCell']) (w.setCell ⟨G, 0, none⟩ (.int .u64 (l : Int))).drew.drew hr1 hS
  rw [show splice [Value.int .u64 (l : Int), .int .u64 (h : Int), .int .u64 0, .int .u64 0, .int .u64 0, .int .u64 0, .int .u64 0] 1 [.int .u64 (h : Int)] = [.int .u64 (l : Int), .int .u64 (h : Int), .int .u64 0, .int .u64 0, .int .u64 0, .int .u64 0, .int .u64 0] from rfl] at hR2
  have HO := Lib.hid (((Only.refl (fun k => k = G) w).setCell (p := ⟨G, 0, none⟩) rfl (.int .u64 (l : Int))).trans ⟨hO.os, hO.tape, hO.output, hO.size, hO.block⟩)
  have HR2 := Lib.hid hR2
  have HN := Lib.hid (norm2_two G 7 h w2 (hR2.cell 1 (by simp)) (by rw [beq_eq_false_iff_ne]; omega) (by decide))
  clear hO hR2 hS hr1 hr hy hl hh
  go_enter Tryz.func19, Tryz.ntmps19
  go_wp2_with fail
  refine (HM.out _).mono ?_
  rintro e wx ⟨rfl, rfl⟩
  go_wp2_with fail
  refine wp_loop_rounds 2 ?_
  rw [rounds_succ]
  go_wp2_with fail
  go_region
  go_wp2_with fail
  rw [rounds_succ]
  go_wp2_with fail
  go_still_tail 8, (by kernel_rfl)
  change wpList _ _ _ _ _ (wx.setCell ⟨G, 0, none⟩ (.int .u64 (l : Int))).drew.drew
  go_wp2_with fail
  refine HN.out.mono ?_
  rintro e w1 ⟨rfl, rfl⟩
  go_wp2_with fail
  go_ret
  exact ⟨⟨rfl, HR2.out⟩, HO.out⟩
end Go.Proofs.YtdbbmknjldapbaaGreatDoor
