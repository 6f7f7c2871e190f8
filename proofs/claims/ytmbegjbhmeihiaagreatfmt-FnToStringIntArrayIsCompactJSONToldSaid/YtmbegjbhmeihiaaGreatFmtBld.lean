/-
  A fresh strings.Builder: copyCheck, WriteString, Write; each leaves the builder's bytes and only new memory besides.
-/
import Derived.Test.YtmbegjbhmeihiaaGreatFmtAppInt
import Derived.Lib.Builder
import Derived.Lib.AppendStr
import Derived.Laws.Externs
import Derived.Laws.AppendOwn
namespace Go.Proofs.YtmbegjbhmeihiaaGreatFmt
set_option linter.unusedVariables false
set_option linter.unusedSimpArgs false
open Go.RowKit Go.Lib Go.Sort

theorem bldSize : (Tryz.prog.info? 35).map (·.size) = some 2 := by kernel_rfl
theorem bldLies : liesAt Tryz.prog Tryz.prog.depth 35 (2 / Tryz.prog.cellsOf 35) 0 35 1 = true := by kernel_rfl
theorem byteInfo : (Tryz.prog.info? 5).map (fun i => (i.zero, i.size, i.bytes)) = some (some (.int .u8 0), 1, 1) := by kernel_rfl
theorem bldNe : 35 ≠ 5 := by decide

abbrev Bld (B b : Nat) (p : Value) (T : List UInt8) (w : World) : Prop := Lib.BuilderAt 35 5 B b p (bc T) w
abbrev selfP (b : Nat) : Value := .pointer (some ⟨b, 0, none⟩)

set_option maxHeartbeats 1000000 in
set_option maxRecDepth 100000 in
theorem copyCheck_first (B b : Nat) (w : World) (h : Bld B b (.pointer none) [] w) :
    Calls Tryz.prog 248 #[selfP b] w fun e w' => e = .returned (.tuple #[]) ∧ w' = w.setCell ⟨b, 0, none⟩ (selfP b) := by
  obtain ⟨j, hj, hjs⟩ := Option.map_eq_some_iff.1 bldSize
  have h0 := h.cell0
  have hsh := h.shape
  have hfz := h.frozen0
  clear h
  go_enter Tryz.func248, Tryz.ntmps248
  go_wp2
  rw [Lib.run_to_unsafe w ⟨b, 0, none⟩ Tryz.underlying33 Tryz.underlying90 hj (by rw [hjs]; decide) hsh (Nat.zero_lt_succ 1)]
  simp only [Result.andThen]
  rw [Oper.upon_value]
  go_wp2
  rw [run_callFunc_extern Tryz.func249 (by kernel_rfl) (by kernel_rfl) (by kernel_rfl) (e := Extern.AbiNoEscape.same) (by kernel_rfl), Lib.run_noEscape]
  simp only [Result.andThen]
  rw [Oper.upon_value]
  go_wp2
  rw [Lib.run_from_unsafe w ⟨b, 0, none⟩ Tryz.underlying90 Tryz.underlying33 hj hsh bldLies]
  simp only [Result.andThen]
  rw [Oper.upon_value]
  go_wp2
  go_end0
  exact ⟨rfl, rfl⟩

theorem checked {B b : Nat} {w : World} (h : Bld B b (.pointer none) [] w) : Bld B b (selfP b) [] (w.setCell ⟨b, 0, none⟩ (selfP b)) ∧ Below B w (w.setCell ⟨b, 0, none⟩ (selfP b)) :=
  ⟨h.used _, (Below.refl B w).setCell (p := ⟨b, 0, none⟩) h.1 _⟩

set_option maxHeartbeats 2000000 in
set_option maxRecDepth 100000 in
theorem bld_writeString (B b : Nat) (s : ByteArray) (hs : s.size ≤ 65536) (w : World) (h : Bld B b (.pointer none) [] w) (hB : B ≤ w.heap.size) :
    Calls Tryz.prog 247 #[selfP b, .string s] w fun e w' => e = .returned (.tuple #[.int .i64 (s.size : Int), .nilIface]) ∧ Bld B b (selfP b) s.data.toList w' ∧ Below B w w' := by
  obtain ⟨i0, hi, hz0, hz1, hz2⟩ := info_parts byteInfo
  have HC := Lib.hid (copyCheck_first B b w h)
  have HD := Lib.hid (checked h)
  clear h
  go_enter Tryz.func247, Tryz.ntmps247
  go_wp2_with fail
  refine HC.out.mono ?_
  rintro e w1 ⟨rfl, rfl⟩
  obtain ⟨h1, hb1⟩ := HD.out
  have hB1 : B ≤ (w.setCell ⟨b, 0, none⟩ (selfP b)).heap.size := by have := hb1.size; omega
  generalize w.setCell ⟨b, 0, none⟩ (selfP b) = w1 at h1 hb1 hB1 ⊢
  have hlt := h1.lt
  obtain ⟨hBb, v, hbk, hown, hne⟩ := h1
  have c0 : w1.cell? ⟨b, 0, none⟩ = some (selfP b) := by rw [Lib.cell_of_heap hbk]; rfl
  have c1 : w1.cell? ⟨b, 1, none⟩ = some v := by rw [Lib.cell_of_heap hbk]; rfl
  clear HC HD
  go_wp2_with (at_builtin; refine Lib.wpList_append_own_string _ rfl _ _ 24 9 rfl B 5 i0 Tryz.underlying24 Tryz.underlying9 hi hz0 hz1 hz2 _ _ _ rfl hown s rfl ?c3 ?c4 ?c5 ?_)
  case c3 => unfold maxLen; simp [bc]; omega
  case c4 => simp [bc]; omega
  case c5 => exact hB1
  intro v' w2 hown' hgrow _
  have hb2 : w2.heap[b]? = some (.cells #[selfP b, v] 35 (0, 0)) := by
    rw [hgrow.block b hlt (fun e => hne e.symm)]
    exact hbk
  have hput := Lib.BuilderAt.put (T := 35) (e := 5) hBb hb2 (v' := v') (bs' := bc s.data.toList) (by simpa [bc, Lib.strCells] using hown') bldNe
  have hbel : Below B w (w2.setCell ⟨b, 1, none⟩ v') := (hb1.grown hgrow hB1 (fun k hk => (hown.lt k hk).1)).setCell (p := ⟨b, 1, none⟩) hBb _
  have d0 : w2.cell? ⟨b, 0, none⟩ = some (selfP b) := by rw [Lib.cell_of_heap hb2]; rfl
  have d1 : w2.cell? ⟨b, 1, none⟩ = some v := by rw [Lib.cell_of_heap hb2]; rfl
  have f1 : w2.frozen? ⟨b, 1, none⟩ = false := Lib.frozen_of_heap hb2 1
  obtain ⟨ao, n', cap, rfl⟩ : ∃ ao n' cap, v' = .slice ao n' cap := by
    rcases hown'.2 with ⟨hv, _⟩ | ⟨g, cap, cur, hv, _⟩
    · exact ⟨_, _, _, hv⟩
    · exact ⟨_, _, _, hv⟩
  have HP := Lib.hid hput
  have HL := Lib.hid hbel
  clear hput hbel
  go_wp2
  go_ret2
  exact ⟨rfl, HP.out, HL.out⟩

set_option maxHeartbeats 2000000 in
set_option maxRecDepth 100000 in
theorem bld_write (B b : Nat) (sa : Addr) (out : List UInt8) (cap0 : Nat) (hs : out.length ≤ 65536) (w : World) (h : Bld B b (.pointer none) [] w) (hB : B ≤ w.heap.size) (hsa : sa.block ≠ b)
    (hcells : ∀ j v, (bc out)[j]? = some v → w.cell? (sa.add j) = some v) :
    Calls Tryz.prog 245 #[selfP b, .slice (some sa) out.length cap0] w fun e w' => e = .returned (.tuple #[.int .i64 (out.length : Int), .nilIface]) ∧ Bld B b (selfP b) out w' ∧ Below B w w' := by
  obtain ⟨i0, hi, hz0, hz1, hz2⟩ := info_parts byteInfo
  have HC := Lib.hid (copyCheck_first B b w h)
  have HD := Lib.hid (checked h)
  have hcells1 : ∀ j v, (bc out)[j]? = some v → (w.setCell ⟨b, 0, none⟩ (selfP b)).cell? (sa.add j) = some v := fun j v hj => by
    have e : (sa.add j).block = sa.block := by unfold Addr.add; split <;> rfl
    rw [World.cell?_of_block (w := w) (Below.heap_setCell _ _ _ _ (by rw [e]; simpa using hsa))]
    exact hcells j v hj
  clear h hcells
  have HX := Lib.hid hcells1
  clear hcells1
  go_enter Tryz.func245, Tryz.ntmps245
  go_wp2_with fail
  refine HC.out.mono ?_
  rintro e w1 ⟨rfl, rfl⟩
  obtain ⟨h1, hb1⟩ := HD.out
  have hX := HX.out
  have hB1 : B ≤ (w.setCell ⟨b, 0, none⟩ (selfP b)).heap.size := by have := hb1.size; omega
  generalize w.setCell ⟨b, 0, none⟩ (selfP b) = w1 at h1 hb1 hB1 hX ⊢
  have hlt := h1.lt
  obtain ⟨hBb, v, hbk, hown, hne⟩ := h1
  have c0 : w1.cell? ⟨b, 0, none⟩ = some (selfP b) := by rw [Lib.cell_of_heap hbk]; rfl
  have c1 : w1.cell? ⟨b, 1, none⟩ = some v := by rw [Lib.cell_of_heap hbk]; rfl
  clear HC HD HX
  have HXX := Lib.hid hX
  clear hX
  go_wp2_with (at_builtin; refine wpList_append_own _ rfl _ _ 24 rfl B 5 i0 (.int .u8 0) 1 1 Tryz.underlying24 hi hz0 hz1 hz2 rfl (by decide) _ _ _ rfl hown sa out.length cap0 (bc out) rfl (by simp [bc]) HXX.out (bc_one _) ?c3 ?c4 ?c5 ?_)
  case c3 => unfold maxLen; simp [bc]; omega
  case c4 => simp [bc]; omega
  case c5 => exact hB1
  intro v' w2 hown' hgrow _
  have hb2 : w2.heap[b]? = some (.cells #[selfP b, v] 35 (0, 0)) := by
    rw [hgrow.block b hlt (fun e => hne e.symm)]
    exact hbk
  have hput := Lib.BuilderAt.put (T := 35) (e := 5) hBb hb2 (v' := v') (bs' := bc out) (by simpa [bc] using hown') bldNe
  have hbel : Below B w (w2.setCell ⟨b, 1, none⟩ v') := (hb1.grown hgrow hB1 (fun k hk => (hown.lt k hk).1)).setCell (p := ⟨b, 1, none⟩) hBb _
  have d0 : w2.cell? ⟨b, 0, none⟩ = some (selfP b) := by rw [Lib.cell_of_heap hb2]; rfl
  have d1 : w2.cell? ⟨b, 1, none⟩ = some v := by rw [Lib.cell_of_heap hb2]; rfl
  have f1 : w2.frozen? ⟨b, 1, none⟩ = false := Lib.frozen_of_heap hb2 1
  obtain ⟨ao, n', cap, rfl⟩ : ∃ ao n' cap, v' = .slice ao n' cap := by
    rcases hown'.2 with ⟨hv, _⟩ | ⟨g, cap, cur, hv, _⟩
    · exact ⟨_, _, _, hv⟩
    · exact ⟨_, _, _, hv⟩
  have HP := Lib.hid hput
  have HL := Lib.hid hbel
  clear hput hbel
  go_wp2
  go_ret2
  exact ⟨rfl, HP.out, HL.out⟩
end Go.Proofs.YtmbegjbhmeihiaaGreatFmt
