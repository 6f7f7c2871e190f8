/-
  Big integers made of two words (package bigall): Or. Walked.
-/
import Derived.Test.YtdbbmknjldapbaaGreatDoorZi
namespace Go.Proofs.YtdbbmknjldapbaaGreatDoor
set_option linter.unusedVariables false
set_option linter.unusedSimpArgs false
open Go.RowKit Go.Lib Go.Sort

theorem bools_eq (w : World) : (binOp .eql 4 (.bool false) (.bool false)).run Tryz.prog w = .ok (.bool true) w := by kernel_rfl
theorem Only.undrew {S : Nat → Prop} {w w2 : World} (h : Only S w.drew w2) : Only S w w2 := ⟨h.os, h.tape, h.output, h.size, h.block⟩
set_option maxRecDepth 100000 in
set_option maxHeartbeats 3200000 in
theorem bigOr_zero (b y : Nat) (w : World) (hz : w.heap[b]? = some (.cells #[.bool false, .slice none 0 0] 31 (0, 0))) (hy : w.heap[y]? = some (.cells #[.bool false, .slice none 0 0] 31 (0, 0))) :
    Calls Tryz.prog 8 #[.pointer (some ⟨b, 0, none⟩), .pointer (some ⟨b, 0, none⟩), .pointer (some ⟨y, 0, none⟩)] w fun e w' => e = .returned (.pointer (some ⟨b, 0, none⟩)) ∧ w'.heap[b]? = some (.cells #[.bool false, .slice none 0 0] 31 (0, 0)) ∧ Only (fun k => k = b) w w' := by
  have z0 := cells_at hz 0
  have z1 := cells_at hz 1
  have y0 := cells_at hy 0
  have y1 := cells_at hy 1
  simp at z0 z1 y0 y1
  have zf0 := free_whole hz 0
  have zf1 := free_whole hz 1
  have hbe := bools_eq
  have HL := Lib.hid (head_lt hz)
  have HS : Hid (∀ n, Calls Tryz.prog 19 #[.slice none 0 0, .slice none 0 0, .slice none 0 0] (w.drewN n).drew fun e w' => e = .returned (.slice none 0 0) ∧ Only (fun _ => False) (w.drewN n) w') := Lib.hid (fun n => (nor_zero _).mono (fun e w' hx => ⟨hx.1, by obtain ⟨k, hk⟩ := hx.2; rw [hk]; exact ((Only.refl _ _).drew).drewN k⟩))
  clear hy
  go_enter Tryz.func8, Tryz.ntmps8
  go_wp2_with fail
  go_quiet (fail)
  have k0 : (w.drewN nq).cell? ⟨b, 0, none⟩ = _ := z0
  have k1 : (w.drewN nq).cell? ⟨b, 1, none⟩ = _ := z1
  have k2 : (w.drewN nq).cell? ⟨y, 0, none⟩ = _ := y0
  have k3 : (w.drewN nq).cell? ⟨y, 1, none⟩ = _ := y1
  have k4 : (w.drewN nq).frozen? ⟨b, 0, none⟩ = false := zf0
  have k5 : (w.drewN nq).frozen? ⟨b, 1, none⟩ = false := zf1
  have HZ : Hid ((w.drewN nq).heap[b]? = _) := Lib.hid hz
  have HO : Hid (Only (fun k => k = b) w (w.drewN nq)) := Lib.hid ((Only.refl _ w).drewN nq)
  have HS1 := HS.out nq
  have hlt : b < (w.drewN nq).heap.size := HL.out
  have HS := Lib.hid HS1
  have HL1 := Lib.hid hlt
  have HSZ : Hid ((w.drewN nq).heap.size = w.heap.size) := Lib.hid rfl
  clear z0 z1 y0 y1 zf0 zf1 hz HS1 hlt
  generalize w.drewN nq = w1 at *
  go_wp2_with fail
  go_region_law (first
      | (go_simp; go_at_call 19; refine HS.out.mono ?_; rintro e w2 ⟨rfl, ho⟩; have hz2 := (ho.block b HL1.out (fun h => h)).trans HZ.out; have j0 := cells_at hz2 0; have j1 := cells_at hz2 1; simp at j0 j1; have jf0 := free_whole hz2 0; have jf1 := free_whole hz2 1; have HZ2 := Lib.hid hz2; clear hz2; have HO2 := Lib.hid (HO.out.trans (ho.mono (fun k hk => absurd hk (fun h => h)))); clear ho))
  all_goals
    go_wp2_with fail
    go_ret
    exact ⟨rfl, head_set HZ2.out _ _, by first | exact only_set2 HO2.out _ _ | exact (only_set2 HO2.out _ _).drew⟩
set_option maxRecDepth 100000 in
set_option maxHeartbeats 3200000 in
theorem bigOr_low (b y G l : Nat) (hl : l ≠ 0) (w : World) (hz : w.heap[b]? = some (.cells #[.bool false, .slice none 0 0] 31 (0, 0))) (hy : w.heap[y]? = some (.cells #[.bool false, .slice (some ⟨G, 0, none⟩) 1 1] 31 (0, 0))) (hr : Row w G 53 [.int .u64 (l : Int)]) :
    Calls Tryz.prog 8 #[.pointer (some ⟨b, 0, none⟩), .pointer (some ⟨b, 0, none⟩), .pointer (some ⟨y, 0, none⟩)] w fun e w' => e = .returned (.pointer (some ⟨b, 0, none⟩)) ∧ (w'.heap[b]? = some (.cells #[.bool false, .slice (some ⟨w.heap.size, 0, none⟩) 1 1] 31 (0, 0)) ∧ Row w' w.heap.size 53 [.int .u64 (l : Int)]) ∧ Only (fun k => k = b) w w' := by
  have z0 := cells_at hz 0
  have z1 := cells_at hz 1
  have y0 := cells_at hy 0
  have y1 := cells_at hy 1
  simp at z0 z1 y0 y1
  have zf0 := free_whole hz 0
  have zf1 := free_whole hz 1
  have hbe := bools_eq
  have HL := Lib.hid (head_lt hz)
  have HS : Hid (∀ n, Calls Tryz.prog 19 #[.slice none 0 0, .slice none 0 0, .slice (some ⟨G, 0, none⟩) 1 1] (w.drewN n).drew fun e w' => (e = .returned (.slice (some ⟨w.heap.size, 0, none⟩) 1 1) ∧ Row w' w.heap.size 53 [.int .u64 (l : Int)]) ∧ Below w.heap.size (w.drewN n) w') := Lib.hid (fun n => (or_low G l hl (w.drewN n).drew hr).mono (fun e w' hx => ⟨hx.1, undrewB hx.2.1⟩))
  clear hy
  go_enter Tryz.func8, Tryz.ntmps8
  go_wp2_with fail
  go_quiet (fail)
  have k0 : (w.drewN nq).cell? ⟨b, 0, none⟩ = _ := z0
  have k1 : (w.drewN nq).cell? ⟨b, 1, none⟩ = _ := z1
  have k2 : (w.drewN nq).cell? ⟨y, 0, none⟩ = _ := y0
  have k3 : (w.drewN nq).cell? ⟨y, 1, none⟩ = _ := y1
  have k4 : (w.drewN nq).frozen? ⟨b, 0, none⟩ = false := zf0
  have k5 : (w.drewN nq).frozen? ⟨b, 1, none⟩ = false := zf1
  have HZ : Hid ((w.drewN nq).heap[b]? = _) := Lib.hid hz
  have HO : Hid (Only (fun k => k = b) w (w.drewN nq)) := Lib.hid ((Only.refl _ w).drewN nq)
  have HS1 := HS.out nq
  have hlt : b < (w.drewN nq).heap.size := HL.out
  have HS := Lib.hid HS1
  have HL1 := Lib.hid hlt
  have HSZ : Hid ((w.drewN nq).heap.size = w.heap.size) := Lib.hid rfl
  clear z0 z1 y0 y1 zf0 zf1 hz HS1 hlt
  generalize w.drewN nq = w1 at *
  go_wp2_with fail
  go_region_law (first
      | (go_simp; go_at_call 19; refine HS.out.mono ?_; rintro e w2 ⟨⟨rfl, hrow⟩, hb⟩; have hz2 := (hb.block b HL.out).trans HZ.out; have j0 := cells_at hz2 0; have j1 := cells_at hz2 1; simp at j0 j1; have jf0 := free_whole hz2 0; have jf1 := free_whole hz2 1; have HZ2 := Lib.hid hz2; clear hz2; have HR2 := Lib.hid hrow; have HO2 := Lib.hid (HO.out.trans (Only.ofBelow (by rw [HSZ.out]; exact hb))); clear hrow hb))
  all_goals
    go_wp2_with fail
    go_ret
    exact ⟨rfl, ⟨head_set HZ2.out _ _, row_set2 HR2.out (by have := HL.out; omega) _ _⟩, by first | exact only_set2 HO2.out _ _ | exact (only_set2 HO2.out _ _).drew⟩
set_option maxRecDepth 100000 in
set_option maxHeartbeats 3200000 in
theorem bigOr_high (b y G h : Nat) (hh : h ≠ 0) (hne : b ≠ G) (w : World) (hz : w.heap[b]? = some (.cells #[.bool false, .slice (some ⟨G, 0, none⟩) 2 7] 31 (0, 0))) (hy : w.heap[y]? = some (.cells #[.bool false, .slice none 0 0] 31 (0, 0))) (hr : Row w G 53 [.int .u64 0, .int .u64 (h : Int), .int .u64 0, .int .u64 0, .int .u64 0, .int .u64 0, .int .u64 0]) :
    Calls Tryz.prog 8 #[.pointer (some ⟨b, 0, none⟩), .pointer (some ⟨b, 0, none⟩), .pointer (some ⟨y, 0, none⟩)] w fun e w' => e = .returned (.pointer (some ⟨b, 0, none⟩)) ∧ (w'.heap[b]? = some (.cells #[.bool false, .slice (some ⟨G, 0, none⟩) 2 7] 31 (0, 0)) ∧ Row w' G 53 [.int .u64 0, .int .u64 (h : Int), .int .u64 0, .int .u64 0, .int .u64 0, .int .u64 0, .int .u64 0]) ∧ Only (fun k => k = b ∨ k = G) w w' := by
  have z0 := cells_at hz 0
  have z1 := cells_at hz 1
  have y0 := cells_at hy 0
  have y1 := cells_at hy 1
  simp at z0 z1 y0 y1
  have zf0 := free_whole hz 0
  have zf1 := free_whole hz 1
  have hbe := bools_eq
  have HL := Lib.hid (head_lt hz)
  have HS : Hid (∀ n, Calls Tryz.prog 19 #[.slice (some ⟨G, 0, none⟩) 2 7, .slice (some ⟨G, 0, none⟩) 2 7, .slice none 0 0] (w.drewN n).drew fun e w' => (e = .returned (.slice (some ⟨G, 0, none⟩) 2 7) ∧ Row w' G 53 [.int .u64 0, .int .u64 (h : Int), .int .u64 0, .int .u64 0, .int .u64 0, .int .u64 0, .int .u64 0]) ∧ Only (fun k => k = G) (w.drewN n) w') := Lib.hid (fun n => (or_high G h hh (w.drewN n).drew hr).mono (fun e w' hx => ⟨hx.1, hx.2.undrew⟩))
  clear hy
  go_enter Tryz.func8, Tryz.ntmps8
  go_wp2_with fail
  go_quiet (fail)
  have k0 : (w.drewN nq).cell? ⟨b, 0, none⟩ = _ := z0
  have k1 : (w.drewN nq).cell? ⟨b, 1, none⟩ = _ := z1
  have k2 : (w.drewN nq).cell? ⟨y, 0, none⟩ = _ := y0
  have k3 : (w.drewN nq).cell? ⟨y, 1, none⟩ = _ := y1
  have k4 : (w.drewN nq).frozen? ⟨b, 0, none⟩ = false := zf0
  have k5 : (w.drewN nq).frozen? ⟨b, 1, none⟩ = false := zf1
  have HZ : Hid ((w.drewN nq).heap[b]? = _) := Lib.hid hz
  have HO : Hid (Only (fun k => k = b) w (w.drewN nq)) := Lib.hid ((Only.refl _ w).drewN nq)
  have HS1 := HS.out nq
  have hlt : b < (w.drewN nq).heap.size := HL.out
  have HS := Lib.hid HS1
  have HL1 := Lib.hid hlt
  have HSZ : Hid ((w.drewN nq).heap.size = w.heap.size) := Lib.hid rfl
  clear z0 z1 y0 y1 zf0 zf1 hz HS1 hlt
  generalize w.drewN nq = w1 at *
  go_wp2_with fail
  go_region_law (first
      | (go_simp; go_at_call 19; refine HS.out.mono ?_; rintro e w2 ⟨⟨rfl, hrow⟩, ho⟩; have hz2 := (ho.block b HL1.out hne).trans HZ.out; have j0 := cells_at hz2 0; have j1 := cells_at hz2 1; simp at j0 j1; have jf0 := free_whole hz2 0; have jf1 := free_whole hz2 1; have HZ2 := Lib.hid hz2; clear hz2; have HR2 := Lib.hid hrow; have HO2 : Hid (Only (fun k => k = b ∨ k = G) w w2) := Lib.hid ((HO.out.mono (fun k hk => Or.inl hk)).trans (ho.mono (fun k hk => Or.inr hk))); clear hrow ho))
  all_goals
    go_wp2_with fail
    go_ret
    have hO3 := (HO2.out.setCell (p := ⟨b, 1, none⟩) (Or.inl rfl) (.slice (some ⟨G, 0, none⟩) 2 7)).setCell (p := ⟨b, 0, none⟩) (Or.inl rfl) (.bool false)
    exact ⟨rfl, ⟨head_set HZ2.out _ _, row_set2 HR2.out (fun e => hne e.symm) _ _⟩, by first | exact hO3 | exact hO3.drew⟩
set_option maxRecDepth 100000 in
set_option maxHeartbeats 3200000 in
theorem bigOr_both (b y G Gy h l : Nat) (hh : h ≠ 0) (hl : l < 18446744073709551616) (hne : b ≠ G) (w : World) (hz : w.heap[b]? = some (.cells #[.bool false, .slice (some ⟨G, 0, none⟩) 2 7] 31 (0, 0))) (hy : w.heap[y]? = some (.cells #[.bool false, .slice (some ⟨Gy, 0, none⟩) 1 1] 31 (0, 0))) (hr : Row w G 53 [.int .u64 0, .int .u64 (h : Int), .int .u64 0, .int .u64 0, .int .u64 0, .int .u64 0, .int .u64 0]) (hry : Row w Gy 53 [.int .u64 (l : Int)]) :
    Calls Tryz.prog 8 #[.pointer (some ⟨b, 0, none⟩), .pointer (some ⟨b, 0, none⟩), .pointer (some ⟨y, 0, none⟩)] w fun e w' => e = .returned (.pointer (some ⟨b, 0, none⟩)) ∧ (w'.heap[b]? = some (.cells #[.bool false, .slice (some ⟨G, 0, none⟩) 2 7] 31 (0, 0)) ∧ Row w' G 53 [.int .u64 (l : Int), .int .u64 (h : Int), .int .u64 0, .int .u64 0, .int .u64 0, .int .u64 0, .int .u64 0]) ∧ Only (fun k => k = b ∨ k = G) w w' := by
  have z0 := cells_at hz 0
  have z1 := cells_at hz 1
  have y0 := cells_at hy 0
  have y1 := cells_at hy 1
  simp at z0 z1 y0 y1
  have zf0 := free_whole hz 0
  have zf1 := free_whole hz 1
  have hbe := bools_eq
  have HL := Lib.hid (head_lt hz)
  have HS : Hid (∀ n, Calls Tryz.prog 19 #[.slice (some ⟨G, 0, none⟩) 2 7, .slice (some ⟨G, 0, none⟩) 2 7, .slice (some ⟨Gy, 0, none⟩) 1 1] (w.drewN n).drew fun e w' => (e = .returned (.slice (some ⟨G, 0, none⟩) 2 7) ∧ Row w' G 53 [.int .u64 (l : Int), .int .u64 (h : Int), .int .u64 0, .int .u64 0, .int .u64 0, .int .u64 0, .int .u64 0]) ∧ Only (fun k => k = G) (w.drewN n) w') := Lib.hid (fun n => (or_both G Gy h l hh hl (w.drewN n).drew hr hry).mono (fun e w' hx => ⟨hx.1, hx.2.undrew⟩))
  clear hy
  go_enter Tryz.func8, Tryz.ntmps8
  go_wp2_with fail
  go_quiet (fail)
  have k0 : (w.drewN nq).cell? ⟨b, 0, none⟩ = _ := z0
  have k1 : (w.drewN nq).cell? ⟨b, 1, none⟩ = _ := z1
  have k2 : (w.drewN nq).cell? ⟨y, 0, none⟩ = _ := y0
  have k3 : (w.drewN nq).cell? ⟨y, 1, none⟩ = _ := y1
  have k4 : (w.drewN nq).frozen? ⟨b, 0, none⟩ = false := zf0
  have k5 : (w.drewN nq).frozen? ⟨b, 1, none⟩ = false := zf1
  have HZ : Hid ((w.drewN nq).heap[b]? = _) := Lib.hid hz
  have HO : Hid (Only (fun k => k = b) w (w.drewN nq)) := Lib.hid ((Only.refl _ w).drewN nq)
  have HS1 := HS.out nq
  have hlt : b < (w.drewN nq).heap.size := HL.out
  have HS := Lib.hid HS1
  have HL1 := Lib.hid hlt
  have HSZ : Hid ((w.drewN nq).heap.size = w.heap.size) := Lib.hid rfl
  clear z0 z1 y0 y1 zf0 zf1 hz HS1 hlt
  generalize w.drewN nq = w1 at *
  go_wp2_with fail
  go_region_law (first
      | (go_simp; go_at_call 19; refine HS.out.mono ?_; rintro e w2 ⟨⟨rfl, hrow⟩, ho⟩; have hz2 := (ho.block b HL1.out hne).trans HZ.out; have j0 := cells_at hz2 0; have j1 := cells_at hz2 1; simp at j0 j1; have jf0 := free_whole hz2 0; have jf1 := free_whole hz2 1; have HZ2 := Lib.hid hz2; clear hz2; have HR2 := Lib.hid hrow; have HO2 : Hid (Only (fun k => k = b ∨ k = G) w w2) := Lib.hid ((HO.out.mono (fun k hk => Or.inl hk)).trans (ho.mono (fun k hk => Or.inr hk))); clear hrow ho))
  all_goals
    go_wp2_with fail
    go_ret
    have hO3 := (HO2.out.setCell (p := ⟨b, 1, none⟩) (Or.inl rfl) (.slice (some ⟨G, 0, none⟩) 2 7)).setCell (p := ⟨b, 0, none⟩) (Or.inl rfl) (.bool false)
    exact ⟨rfl, ⟨head_set HZ2.out _ _, row_set2 HR2.out (fun e => hne e.symm) _ _⟩, by first | exact hO3 | exact hO3.drew⟩
end Go.Proofs.YtdbbmknjldapbaaGreatDoor
