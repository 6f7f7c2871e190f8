/-
  The laws' own look into a result of the operators, and the test of a big result (package n001_19), walked.
-/
import Derived.Test.YtffiamchcadloaaGreatDoorAddB
import Derived.Test.YtffiamchcadloaaGreatDoorSlc
namespace Go.Proofs.YtffiamchcadloaaGreatDoor
set_option linter.unusedVariables false
set_option linter.unusedSimpArgs false
open Go.RowKit Go.Lib

theorem asBigInt (v : Value) (w : World) : (Instr.typeAssert (.iface 49 v) 20 3 true).run Tryz.prog w = .ok (.tuple #[.int .i64 0, .bool false]) w := by kernel_rfl
theorem asBigFloat (v : Value) (w : World) : (Instr.typeAssert (.iface 49 v) 20 40 true).run Tryz.prog w = .ok (.tuple #[.float .f64 0, .bool false]) w := by kernel_rfl
theorem asBigBig (v : Value) (w : World) : (Instr.typeAssert (.iface 49 v) 20 49 true).run Tryz.prog w = .ok (.tuple #[v, .bool true]) w := by kernel_rfl
theorem mk_u64s (n : Nat) (hn : n ≤ 1048576) (w : World) : (Instr.makeSlice 22 (.int .i64 (n : Int)) (.int .i64 (n : Int))).run Tryz.prog w = .ok (.slice (some ⟨w.heap.size, 0, none⟩) n n) (w.alloc (.cells (Array.replicate n (.int .u64 0)) 25)) :=
  run_mk 22 25 (.int .u64 0) 8 Tryz.underlying22 (by kernel_rfl) rfl n n (by omega) (by omega) (by omega) w
set_option maxRecDepth 100000 in
set_option maxHeartbeats 1600000 in
theorem kind_int (x : Int) (w : World) :
    Calls Tryz.prog 21 #[.iface 3 (.int .i64 x)] w fun e w' => e = .returned (.tuple #[.int .i64 1, .int .i64 x, .float .f64 0, .string ByteArray.empty, .bool false, .slice none 0 0]) ∧ Below w.heap.size w w' := by
  have as1 := asIntIntX
  go_enter Tryz.func21, Tryz.ntmps21
  go_wp2
  exact bodyPost_ret (v := .tuple #[.int .i64 1, .int .i64 x, .float .f64 0, .string ByteArray.empty, .bool false, .slice none 0 0]) (by simp [results, Tryz.results21, go_sem]; try rfl) rfl ⟨rfl, by go_grown⟩
theorem words_u64 (N k : Nat) (h : k < (wordsOf N).length) : ∃ u : Int, (wordsOf N)[k]? = some (.int .u64 u) := by
  have hm : ∀ x ∈ wordsOf N, ∃ u : Int, x = .int .u64 u := by
    unfold wordsOf
    split
    · simp
    · split <;> simp
  obtain ⟨u, hu⟩ := hm _ (List.getElem_mem h)
  exact ⟨u, by rw [List.getElem?_eq_getElem h, hu]⟩
set_option maxRecDepth 100000 in
set_option maxHeartbeats 1600000 in
theorem kind_big (b : Nat) (neg : Bool) (N : Nat) (h0 : N ≠ 0) (w : World) (hN : BigAt w b neg N) :
    Calls Tryz.prog 21 #[.iface 49 (.pointer (some ⟨b, 0, none⟩))] w fun e w' => (∃ G L, e = .returned (.tuple #[.int .i64 3, .int .i64 0, .float .f64 0, .string ByteArray.empty, .bool neg, .slice (some ⟨G, 0, none⟩) L L]) ∧ (wordsOf N).length = L ∧ Row w' G 25 (wordsOf N)) ∧ Below w.heap.size w w' := by
  obtain ⟨g, c, cur, hh, hw⟩ := hN
  have x0 := word_at hh 0
  have x1 := word_at hh 1
  simp at x0 x1
  have hp := words_pos N h0
  have as1 := asBigInt
  have as2 := asBigFloat
  have as3 := asBigBig
  have hL2 : (wordsOf N).length ≤ 2 := by unfold wordsOf; split <;> (try split) <;> simp
  have hcell : ∀ j u, (wordsOf N)[j]? = some u → w.cell? ⟨g, j, none⟩ = some u := fun j u hu => by
    rw [word_at hw j]
    have hj : j < (wordsOf N).length := (List.getElem?_eq_some_iff.1 hu).1
    simp [List.getElem?_append_left hj, hu]
  have hgl : g < w.heap.size := (Array.getElem?_eq_some_iff.1 hw).1
  have HC := Lib.hid hcell
  have hbl : b < w.heap.size := (Array.getElem?_eq_some_iff.1 hh).1
  clear hh hw hcell
  generalize hLe : (wordsOf N).length = L at *
  have HLE := Lib.hid hLe
  clear hLe
  have mk := mk_u64s L (by omega)
  have hpI : (0 : Int) < (L : Int) := by omega
  have hp0 : ((L : Int) == 0) = false := by rw [beq_eq_false_iff_ne]; omega
  go_enter Tryz.func21, Tryz.ntmps21
  go_wp2
  have hF0 : Fill (w.alloc (.cells (Array.replicate L (.int .u64 0)) 25)) (w.alloc (.cells (Array.replicate L (.int .u64 0)) 25)) w.heap.size 25 (wordsOf N) (.int .u64 0) 0 := by
    refine Fill.start ?_
    rw [HLE.out]
    have := Row.alloc w 25 (List.replicate L (.int .u64 0))
    rwa [List.toArray_replicate] at this
  have HB0 := Lib.hid (show Below w.heap.size w (w.alloc (.cells (Array.replicate L (.int .u64 0)) 25)) by go_grown)
  have HF0 := Lib.hid hF0
  clear hF0 mk
  generalize hW0 : w.alloc (.cells (Array.replicate L (.int .u64 0)) 25) = W0 at HF0 HB0 ⊢
  clear hW0
  go_loopw [39] (fun vi wr => ∃ k : Nat, vi = .int .i64 (k : Int) ∧ k ≤ L ∧ Hid (Fill W0 wr w.heap.size 25 (wordsOf N) (.int .u64 0) k)) (fun vi _ => L - (RowKit.intOf vi).toNat)
  case atStart => exact ⟨0, rfl, Nat.zero_le _, HF0⟩
  case round =>
    obtain ⟨k, rfl, hk, HF⟩ := hrel
    by_cases hkn : k < L
    · have hkz : k < (wordsOf N).length := by rw [HLE.out]; exact hkn
      obtain ⟨u, hu⟩ := words_u64 N k hkz
      have c1 : wr.cell? ⟨g, k, none⟩ = some (.int .u64 u) := (HF.out.old (p := ⟨g, k, none⟩) (by have := HB0.out.size; show g < _; omega) (by show g ≠ _; omega)).trans ((HB0.out.cell (p := ⟨g, k, none⟩) hgl).trans (HC.out k _ hu))
      obtain ⟨y, c2⟩ := HF.out.cell k hkz
      have f2 := HF.out.free k
      have HS := Lib.hid (HF.out.step hkz (.int .u64 u) (by rw [List.getElem?_eq_getElem hkz] at hu; exact Option.some.inj hu))
      go_wp2_with fail
      go_roundw
      case rel => exact ⟨k + 1, by go_num, by omega, HS⟩
      case measure => simp [RowKit.intOf]; omega
    · obtain rfl : k = L := by omega
      have HR := Lib.hid (HF.out.done HLE.out.symm)
      have HBr := Lib.hid (HF.out.below (Nat.le_refl _) HB0.out)
      have x0' : wr.cell? ⟨b, 0, none⟩ = some (.bool neg) := (HBr.out.cell (p := ⟨b, 0, none⟩) hbl).trans x0
      have x1' := (HBr.out.cell (p := ⟨b, 1, none⟩) hbl).trans x1
      clear HF x0 x1
      cases neg
      all_goals go_wp2
      · exact bodyPost_ret (v := .tuple #[.int .i64 3, .int .i64 0, .float .f64 0, .string ByteArray.empty, .bool false, .slice (some ⟨w.heap.size, 0, none⟩) k k]) (by simp [results, Tryz.results21, go_sem]; try rfl) rfl ⟨⟨_, _, rfl, rfl, HR.out⟩, HBr.out⟩
      · exact bodyPost_ret (v := .tuple #[.int .i64 3, .int .i64 0, .float .f64 0, .string ByteArray.empty, .bool true, .slice (some ⟨w.heap.size, 0, none⟩) k k]) (by simp [results, Tryz.results21, go_sem]; try rfl) rfl ⟨⟨_, _, rfl, rfl, HR.out⟩, HBr.out⟩
end Go.Proofs.YtffiamchcadloaaGreatDoor
