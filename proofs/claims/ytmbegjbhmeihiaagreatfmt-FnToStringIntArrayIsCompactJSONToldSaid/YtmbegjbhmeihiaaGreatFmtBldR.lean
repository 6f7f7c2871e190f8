/-
  A strings.Builder that is written to many times: copyCheck, Write, WriteByte; its rows lie from block R on.
-/
import Derived.Test.YtmbegjbhmeihiaaGreatFmtBld
import Derived.Deep.Onto
namespace Go.Proofs.YtmbegjbhmeihiaaGreatFmt
set_option linter.unusedVariables false
set_option linter.unusedSimpArgs false
open Go.RowKit Go.Lib Go.Sort

/-- THE BUILDER at block b holds T; its rows lie from block R on. -/
def BldR (R b : Nat) (T : List UInt8) (w : World) : Prop :=
  b < R ∧ R ≤ w.heap.size ∧ ∃ p v, (p = .pointer none ∨ p = selfP b) ∧ w.heap[b]? = some (.cells #[p, v] 35 (0, 0)) ∧ w.ownsRow R 5 1 v T.length (bc T)
/-- .. and has been written to. -/
def BldU (R b : Nat) (T : List UInt8) (v : Value) (w : World) : Prop :=
  R ≤ w.heap.size ∧ w.heap[b]? = some (.cells #[selfP b, v] 35 (0, 0)) ∧ w.ownsRow R 5 1 v T.length (bc T)
abbrev SB (R b : Nat) : Nat → Prop := fun k => k = b ∨ R ≤ k

theorem own_set {w : World} {R b : Nat} {v u : Value} {o n : Nat} {xs : List Value} (h : w.ownsRow R 5 1 v n xs) (hb : b < R) : (w.setCell ⟨b, o, none⟩ u).ownsRow R 5 1 v n xs := by
  refine h.kept (row := some b) ⟨rfl, rfl, rfl, by simp [World.setCell], fun k hk hn => Below.heap_setCell _ _ _ _ (fun e => hn (congrArg some e))⟩ ?_
  right
  intro e
  have := (h.lt b e).1
  omega

set_option maxHeartbeats 1000000 in
set_option maxRecDepth 100000 in
theorem copyCheckR (R b : Nat) (T : List UInt8) (w : World) (h : BldR R b T w) :
    Calls Tryz.prog 248 #[selfP b] w fun e w' => e = .returned (.tuple #[]) ∧ (∃ v, BldU R b T v w') ∧ Only (fun k => k = b) w w' := by
  obtain ⟨hbR, hR, p, v, hp, hb, hown⟩ := h
  have h0 : w.cell? ⟨b, 0, none⟩ = some p := by rw [Lib.cell_of_heap hb]; rfl
  have hsh : w.shape? b = some (35, 2) := by simp [World.shape?, hb]
  have hfz : w.frozen? ⟨b, 0, none⟩ = false := Lib.frozen_of_heap hb 0
  rcases hp with rfl | rfl
  · have HU : Hid (BldU R b T v (w.setCell ⟨b, 0, none⟩ (selfP b)) ∧ Only (fun k => k = b) w (w.setCell ⟨b, 0, none⟩ (selfP b))) := by
      refine Lib.hid ⟨⟨by simpa [World.setCell] using hR, ?_, own_set hown hbR⟩, (Only.refl (fun k => k = b) w).setCell rfl _⟩
      simp only [World.setCell, Array.getElem?_modify, if_true, hb, Option.map_some]
      simp
    obtain ⟨j, hj, hjs⟩ := Option.map_eq_some_iff.1 bldSize
    clear hb hown
    go_enter Tryz.func248, Tryz.ntmps248
    go_wp2
    rw [Lib.run_to_unsafe w ⟨b, 0, none⟩ Tryz.underlying33 Tryz.underlying90 hj (by rw [hjs]; decide) hsh (Nat.zero_lt_succ 1)]
    simp only [Result.andThen]
    rw [Oper.upon_value]
    go_wp2
    rw [run_callFunc_extern Tryz.func249 (by kernel_rfl) (by kernel_rfl) (by kernel_rfl) (e := Extern.AbiNoEscape.same) (by kernel_rfl), Lib.run_noEscape]
    simp only [Result.andThen]
    rw [Oper.upon_value]
    go_wp2
    rw [Lib.run_from_unsafe w ⟨b, 0, none⟩ Tryz.underlying90 Tryz.underlying33 hj hsh bldLies]
    simp only [Result.andThen]
    rw [Oper.upon_value]
    go_wp2
    go_end0
    exact ⟨rfl, ⟨_, HU.out.1⟩, HU.out.2⟩
  · have HU : Hid (BldU R b T v w) := Lib.hid ⟨hR, hb, hown⟩
    obtain ⟨j, hj, hjs⟩ := Option.map_eq_some_iff.1 bldSize
    have hq := fun wx : World => Lib.run_neq_ptr_same (P := Tryz.prog) wx ⟨b, 0, none⟩ Tryz.underlying33 hj
    clear hb hown
    go_enter Tryz.func248, Tryz.ntmps248
    go_wp2
    go_end0
    exact ⟨rfl, ⟨_, HU.out⟩, Only.refl _ w⟩

/-- What the store of the grown buffer leaves. -/
theorem bld_stored {R b : Nat} {T out : List UInt8} {v v' : Value} {w1 w2 : World} (hbR : b < R) (h1 : BldU R b T v w1) (hown' : w2.ownsRow R 5 1 v' (T.length + out.length) (bc T ++ bc out)) (hgrow : w1.grownBy w2 v.ownBlock) :
    w2.heap[b]? = some (.cells #[selfP b, v] 35 (0, 0)) ∧ BldR R b (T ++ out) (w2.setCell ⟨b, 1, none⟩ v') ∧ Only (SB R b) w1 (w2.setCell ⟨b, 1, none⟩ v') ∧ (∃ ao n' cap, v' = .slice ao n' cap) := by
  obtain ⟨hR, hb, hown⟩ := h1
  have hlt : b < w1.heap.size := (Array.getElem?_eq_some_iff.1 hb).1
  have hne : v.ownBlock ≠ some b := fun e => by have := (hown.lt b e).1; omega
  have hb2 : w2.heap[b]? = some (.cells #[selfP b, v] 35 (0, 0)) := by
    rw [hgrow.block b hlt (fun e => hne e.symm)]
    exact hb
  refine ⟨hb2, ⟨hbR, ?_, selfP b, v', Or.inr rfl, ?_, ?_⟩, ?_, ?_⟩
  · have := hgrow.size
    simp only [World.setCell, Array.size_modify]
    omega
  · simp only [World.setCell, Array.getElem?_modify, if_true, hb2, Option.map_some]
    simp
  · rw [List.length_append, bc_append]
    exact own_set hown' hbR
  · refine Only.setCell ⟨hgrow.os, hgrow.tape, hgrow.output, hgrow.size, fun k hk hn => ?_⟩ (Or.inl rfl) _
    refine hgrow.block k hk (fun e => ?_)
    have := (hown.lt k e.symm).1
    exact hn (Or.inr this)
  · rcases hown'.2 with ⟨hv, _⟩ | ⟨g, cap, cur, hv, _⟩
    · exact ⟨_, _, _, hv⟩
    · exact ⟨_, _, _, hv⟩

set_option maxHeartbeats 2000000 in
set_option maxRecDepth 100000 in
theorem bldR_write (R b : Nat) (T out : List UInt8) (sa : Addr) (cap0 : Nat) (hT : T.length ≤ 1048576) (hs : out.length ≤ 65536) (w : World) (h : BldR R b T w) (hsa : sa.block < R) (hsb : sa.block ≠ b)
    (hcells : ∀ j v, (bc out)[j]? = some v → w.cell? (sa.add j) = some v) :
    Calls Tryz.prog 245 #[selfP b, .slice (some sa) out.length cap0] w fun e w' => e = .returned (.tuple #[.int .i64 (out.length : Int), .nilIface]) ∧ BldR R b (T ++ out) w' ∧ Only (SB R b) w w' := by
  obtain ⟨i0, hi, hz0, hz1, hz2⟩ := info_parts byteInfo
  have HC := Lib.hid (copyCheckR R b T w h)
  have hbR := h.1
  have hRw := h.2.1
  have HX := Lib.hid hcells
  clear h hcells
  go_enter Tryz.func245, Tryz.ntmps245
  go_wp2_with fail
  refine HC.out.mono ?_
  rintro e w1 ⟨rfl, ⟨v, hU⟩, hO⟩
  have HU := Lib.hid hU
  have HO := Lib.hid hO
  obtain ⟨hR1, hbk, hown⟩ := hU
  have hcells1 : ∀ j v, (bc out)[j]? = some v → w1.cell? (sa.add j) = some v := fun j v hj => by
    have e : (sa.add j).block = sa.block := by unfold Addr.add; split <;> rfl
    rw [HO.out.cell (by rw [e]; omega) (by rw [e]; exact hsb)]
    exact HX.out j v hj
  have HXX := Lib.hid hcells1
  have c0 : w1.cell? ⟨b, 0, none⟩ = some (selfP b) := by rw [Lib.cell_of_heap hbk]; rfl
  have c1 : w1.cell? ⟨b, 1, none⟩ = some v := by rw [Lib.cell_of_heap hbk]; rfl
  clear hcells1 hO HC HX hbk
  go_wp2_with (at_builtin; refine wpList_append_own _ rfl _ _ 24 rfl R 5 i0 (.int .u8 0) 1 1 Tryz.underlying24 hi hz0 hz1 hz2 rfl (by decide) _ _ _ rfl hown sa out.length cap0 (bc out) rfl (by simp [bc]) HXX.out (bc_one _) ?c3 ?c4 ?c5 ?_)
  case c3 => unfold maxLen; omega
  case c4 => omega
  case c5 => exact hR1
  intro v' w2 hown' hgrow _
  obtain ⟨hb2, hBR, hOn, ao, n', cap, rfl⟩ := bld_stored hbR HU.out hown' hgrow
  have d0 : w2.cell? ⟨b, 0, none⟩ = some (selfP b) := by rw [Lib.cell_of_heap hb2]; rfl
  have d1 : w2.cell? ⟨b, 1, none⟩ = some v := by rw [Lib.cell_of_heap hb2]; rfl
  have f1 : w2.frozen? ⟨b, 1, none⟩ = false := Lib.frozen_of_heap hb2 1
  have HP := Lib.hid hBR
  have HL := Lib.hid hOn
  clear hBR hOn hown hown' hgrow hb2 c0 c1
  go_wp2
  go_ret2
  exact ⟨rfl, HP.out, (HO.out.mono (fun k hk => Or.inl hk)).trans HL.out⟩

set_option maxHeartbeats 2000000 in
set_option maxRecDepth 100000 in
theorem bldR_byte (R b : Nat) (T : List UInt8) (c : UInt8) (hT : T.length ≤ 1048576) (w : World) (h : BldR R b T w) :
    Calls Tryz.prog 246 #[selfP b, .int .u8 (c.toNat : Int)] w fun e w' => e = .returned .nilIface ∧ BldR R b (T ++ [c]) w' ∧ Only (SB R b) w w' := by
  obtain ⟨i0, hi, hz0, hz1, hz2⟩ := info_parts byteInfo
  have HC := Lib.hid (copyCheckR R b T w h)
  have hbR := h.1
  have hRw := h.2.1
  clear h
  go_enter Tryz.func246, Tryz.ntmps246
  go_wp2_with fail
  refine HC.out.mono ?_
  rintro e w1 ⟨rfl, ⟨v, hU⟩, hO⟩
  have HO := Lib.hid hO
  have HU : Hid (BldU R b T v (w1.alloc (.cells #[.int .u8 (c.toNat : Int)] 5))) := by
    obtain ⟨hR1, hbk, hown⟩ := hU
    refine Lib.hid ⟨by simp; omega, ?_, hown.alloc _⟩
    have hlt : b < w1.heap.size := (Array.getElem?_eq_some_iff.1 hbk).1
    rw [Below.heap_alloc _ _ _ hlt]
    exact hbk
  obtain ⟨hR1, hbk, hown⟩ := hU
  have c0 : w1.cell? ⟨b, 0, none⟩ = some (selfP b) := by rw [Lib.cell_of_heap hbk]; rfl
  have c1 : w1.cell? ⟨b, 1, none⟩ = some v := by rw [Lib.cell_of_heap hbk]; rfl
  have hlt : b < w1.heap.size := (Array.getElem?_eq_some_iff.1 hbk).1
  clear hO HC hbk
  go_wp2_with (at_builtin; refine wpList_append_own _ rfl _ _ 24 rfl R 5 i0 (.int .u8 0) 1 1 Tryz.underlying24 hi hz0 hz1 hz2 rfl (by decide) _ _ _ rfl (hown.alloc _) ⟨w1.heap.size, 0, none⟩ 1 1 [.int .u8 (c.toNat : Int)] rfl rfl ?c1 ?c2 ?c3 ?c4 ?c5 ?_)
  case c1 =>
    intro j u hj
    cases j with
    | zero => simp at hj; subst hj; go_simp
    | succ j => simp at hj
  case c2 => intro u hu; simp at hu; subst hu; rfl
  case c3 => unfold maxLen; omega
  case c4 => omega
  case c5 => simp; omega
  intro v' w2 hown' hgrow _
  obtain ⟨hb2, hBR, hOn, ao, n', cap, rfl⟩ := bld_stored (out := [c]) hbR HU.out (by simpa [bc] using hown') hgrow
  have d0 : w2.cell? ⟨b, 0, none⟩ = some (selfP b) := by rw [Lib.cell_of_heap hb2]; rfl
  have d1 : w2.cell? ⟨b, 1, none⟩ = some v := by rw [Lib.cell_of_heap hb2]; rfl
  have f1 : w2.frozen? ⟨b, 1, none⟩ = false := Lib.frozen_of_heap hb2 1
  have HP := Lib.hid hBR
  have HL := Lib.hid hOn
  clear hBR hOn hown hown' hgrow hb2 c0 c1 HU
  go_wp2
  go_ret
  exact ⟨rfl, HP.out, ((HO.out.mono (fun k hk => Or.inl hk)).alloc _).trans HL.out⟩
end Go.Proofs.YtmbegjbhmeihiaaGreatFmt
