/-
  Big integers made of two words (package bigall): SetUint64, Lsh, Or, Neg. Walked.
-/
import Derived.Test.YtdbbmknjldapbaaGreatDoorZo
namespace Go.Proofs.YtdbbmknjldapbaaGreatDoor
set_option linter.unusedVariables false
set_option linter.unusedSimpArgs false
open Go.RowKit Go.Lib Go.Sort

theorem head_set {w : World} {b : Nat} {x y : Value} (hz : w.heap[b]? = some (.cells #[x, y] 31 (0, 0))) (u v : Value) : ((w.setCell ⟨b, 1, none⟩ v).setCell ⟨b, 0, none⟩ u).heap[b]? = some (.cells #[u, v] 31 (0, 0)) := by
  simp only [World.setCell, Array.getElem?_modify, if_true, hz, Option.map_some]
  rfl
theorem head_set0 {w : World} {b : Nat} {x y : Value} (hz : w.heap[b]? = some (.cells #[x, y] 31 (0, 0))) (u : Value) : (w.setCell ⟨b, 0, none⟩ u).heap[b]? = some (.cells #[u, y] 31 (0, 0)) := by
  simp only [World.setCell, Array.getElem?_modify, if_true, hz, Option.map_some]
  rfl
theorem head_lt {w : World} {b : Nat} {o : Obj} (hz : w.heap[b]? = some o) : b < w.heap.size := (Array.getElem?_eq_some_iff.1 hz).1
theorem other_setCell {w : World} {b k j : Nat} (h : k ≠ b) (v : Value) : (w.setCell ⟨b, j, none⟩ v).heap[k]? = w.heap[k]? := by
  simp only [World.setCell, Array.getElem?_modify]
  rw [if_neg (fun e => h e.symm)]
theorem only_set2 {w0 w : World} {b : Nat} (h : Only (fun k => k = b) w0 w) (u v : Value) : Only (fun k => k = b) w0 ((w.setCell ⟨b, 1, none⟩ v).setCell ⟨b, 0, none⟩ u) :=
  (h.setCell (p := ⟨b, 1, none⟩) rfl v).setCell (p := ⟨b, 0, none⟩) rfl u
theorem row_set2 {w : World} {b G : Nat} {t : TypeId} {xs : List Value} (h : Row w G t xs) (hn : G ≠ b) (u v : Value) : Row ((w.setCell ⟨b, 1, none⟩ v).setCell ⟨b, 0, none⟩ u) G t xs := by
  unfold Row at h ⊢
  rw [other_setCell hn, other_setCell hn]
  exact h
set_option maxRecDepth 100000 in
set_option maxHeartbeats 1600000 in
theorem bigU_zero (b : Nat) (w : World) (hz : w.heap[b]? = some (.cells #[.bool false, .slice none 0 0] 31 (0, 0))) :
    Calls Tryz.prog 6 #[.pointer (some ⟨b, 0, none⟩), .int .u64 0] w fun e w' => e = .returned (.pointer (some ⟨b, 0, none⟩)) ∧ w'.heap[b]? = some (.cells #[.bool false, .slice none 0 0] 31 (0, 0)) ∧ Only (fun k => k = b) w w' := by
  have z0 := cells_at hz 0
  have z1 := cells_at hz 1
  simp at z0 z1
  have zf0 : _ := free_whole hz 0
  have zf1 : _ := free_whole hz 1
  have HS := Lib.hid setU_zero
  have HZ := Lib.hid hz
  clear hz
  go_enter Tryz.func6, Tryz.ntmps6
  go_wp2_with fail
  refine (HS.out _).mono ?_
  rintro e w2 ⟨rfl, rfl⟩
  go_wp2_with fail
  go_ret
  exact ⟨rfl, head_set HZ.out _ _, only_set2 (Only.refl _ _) _ _⟩
set_option maxRecDepth 100000 in
set_option maxHeartbeats 1600000 in
theorem bigU_any (b v : Nat) (hv : v ≠ 0) (hv2 : v < 18446744073709551616) (w : World) (hz : w.heap[b]? = some (.cells #[.bool false, .slice none 0 0] 31 (0, 0))) :
    Calls Tryz.prog 6 #[.pointer (some ⟨b, 0, none⟩), .int .u64 (v : Int)] w fun e w' => e = .returned (.pointer (some ⟨b, 0, none⟩)) ∧ (w'.heap[b]? = some (.cells #[.bool false, .slice (some ⟨w.heap.size, 0, none⟩) 1 1] 31 (0, 0)) ∧ Row w' w.heap.size 53 [.int .u64 (v : Int)]) ∧ Only (fun k => k = b) w w' := by
  have z0 := cells_at hz 0
  have z1 := cells_at hz 1
  simp at z0 z1
  have zf0 : _ := free_whole hz 0
  have zf1 : _ := free_whole hz 1
  have HS := Lib.hid (setU_any v hv hv2)
  have hlt := head_lt hz
  have hz2 : (w.alloc (.cells #[.int .u64 (v : Int)] 53)).heap[b]? = some (.cells #[.bool false, .slice none 0 0] 31 (0, 0)) := by
    rw [Below.heap_alloc _ _ _ hlt]
    exact hz
  have HR : Hid (Row (w.alloc (.cells #[.int .u64 (v : Int)] 53)) w.heap.size 53 [.int .u64 (v : Int)]) := Lib.hid (Row.alloc w _ [.int .u64 (v : Int)])
  have HO : Hid (Only (fun k => k = b) w (w.alloc (.cells #[.int .u64 (v : Int)] 53))) := Lib.hid ((Only.refl _ w).alloc _)
  have y0 := cells_at hz2 0
  have y1 := cells_at hz2 1
  simp at y0 y1
  have yf0 := free_whole hz2 0
  have yf1 := free_whole hz2 1
  have HZ2 := Lib.hid hz2
  have HL := Lib.hid hlt
  obtain ⟨G, hG⟩ : ∃ G, w.heap.size = G := ⟨_, rfl⟩
  have HS' := HS.out w
  rw [hG] at HS' HR HL ⊢
  have HSS := Lib.hid HS'
  clear hz hz2 hlt hv hv2 HS HS' hG
  generalize w.alloc (.cells #[.int .u64 (v : Int)] 53) = w1 at *
  go_enter Tryz.func6, Tryz.ntmps6
  go_wp2_with fail
  refine HSS.out.mono ?_
  rintro e w2 ⟨rfl, rfl⟩
  go_wp2_with fail
  go_ret
  exact ⟨rfl, ⟨head_set HZ2.out _ _, row_set2 HR.out (by have := HL.out; omega) _ _⟩, only_set2 HO.out _ _⟩
set_option maxRecDepth 100000 in
set_option maxHeartbeats 3200000 in
theorem bigLsh_zero (b : Nat) (w : World) (hz : w.heap[b]? = some (.cells #[.bool false, .slice none 0 0] 31 (0, 0))) :
    Calls Tryz.prog 7 #[.pointer (some ⟨b, 0, none⟩), .pointer (some ⟨b, 0, none⟩), .int .u64 64] w fun e w' => e = .returned (.pointer (some ⟨b, 0, none⟩)) ∧ w'.heap[b]? = some (.cells #[.bool false, .slice none 0 0] 31 (0, 0)) ∧ Only (fun k => k = b) w w' := by
  have z0 := cells_at hz 0
  have z1 := cells_at hz 1
  simp at z0 z1
  have zf0 := free_whole hz 0
  have zf1 := free_whole hz 1
  have HZ := Lib.hid hz
  have hlt := head_lt hz
  have HS := Lib.hid lsh_zero
  clear hz hlt
  go_enter Tryz.func7, Tryz.ntmps7
  go_wp2_with fail
  go_region_law (first
      | (go_simp; go_at_call 14; refine (HS.out w.drew).mono ?_; rintro e w2 ⟨rfl, rfl⟩; skip))
  all_goals
    go_wp2_with fail
    go_ret
    exact ⟨rfl, head_set HZ.out _ _, (only_set2 (Only.refl _ _) _ _).drew⟩
set_option maxRecDepth 100000 in
set_option maxHeartbeats 3200000 in
theorem bigLsh_any (b G h : Nat) (hh : h ≠ 0) (hh2 : h < 18446744073709551616) (w : World) (hz : w.heap[b]? = some (.cells #[.bool false, .slice (some ⟨G, 0, none⟩) 1 1] 31 (0, 0))) (hr : Row w G 53 [.int .u64 (h : Int)]) :
    Calls Tryz.prog 7 #[.pointer (some ⟨b, 0, none⟩), .pointer (some ⟨b, 0, none⟩), .int .u64 64] w fun e w' => e = .returned (.pointer (some ⟨b, 0, none⟩)) ∧ (w'.heap[b]? = some (.cells #[.bool false, .slice (some ⟨w.heap.size, 0, none⟩) 2 7] 31 (0, 0)) ∧ Row w' w.heap.size 53 [.int .u64 0, .int .u64 (h : Int), .int .u64 0, .int .u64 0, .int .u64 0, .int .u64 0, .int .u64 0]) ∧ Only (fun k => k = b) w w' := by
  have z0 := cells_at hz 0
  have z1 := cells_at hz 1
  simp at z0 z1
  have zf0 := free_whole hz 0
  have zf1 := free_whole hz 1
  have HZ := Lib.hid hz
  have hlt := head_lt hz
  have HL := Lib.hid hlt
  have HS : Hid (Calls Tryz.prog 14 #[.slice (some ⟨G, 0, none⟩) 1 1, .slice (some ⟨G, 0, none⟩) 1 1, .int .u64 64] w.drew fun e w' => (e = .returned (.slice (some ⟨w.heap.size, 0, none⟩) 2 7) ∧ Row w' w.heap.size 53 [.int .u64 0, .int .u64 (h : Int), .int .u64 0, .int .u64 0, .int .u64 0, .int .u64 0, .int .u64 0]) ∧ Below w.heap.size w w' ∧ w.heap.size < w'.heap.size) := Lib.hid ((lsh_any G 1 h hh hh2 (by decide) w.drew hr).mono (fun e w' hx => ⟨hx.1, undrewB hx.2.1, hx.2.2⟩))
  clear hz hlt hh hh2 hr
  go_enter Tryz.func7, Tryz.ntmps7
  go_wp2_with fail
  go_region_law (first
      | (go_simp; go_at_call 14; refine HS.out.mono ?_; rintro e w2 ⟨⟨rfl, hrow⟩, hb, hsz⟩; have hz2 := (hb.block b (by first | exact HL.out | (have := HL.out; omega))).trans HZ.out; have y0 := cells_at hz2 0; have y1 := cells_at hz2 1; simp at y0 y1; have yf0 := free_whole hz2 0; have yf1 := free_whole hz2 1; have HZ2 := Lib.hid hz2; have HR2 := Lib.hid hrow; have HB2 := Lib.hid hb; clear hz2 hrow hb))
  all_goals
    go_wp2_with fail
    go_ret
    exact ⟨rfl, ⟨head_set HZ2.out _ _, row_set2 HR2.out (by have := HL.out; omega) _ _⟩, by first | exact only_set2 (Only.ofBelow HB2.out) _ _ | exact (only_set2 (Only.ofBelow HB2.out) _ _).drew | exact ((only_set2 (Only.ofBelow HB2.out) _ _).drew).drew⟩
end Go.Proofs.YtdbbmknjldapbaaGreatDoor
