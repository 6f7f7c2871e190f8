/-
  The walk of the law FnFunc0WrapIntText.
-/
import Derived.Test.YtcgpjijbnkgbcaaGreatFmtErrW0
import Derived.Test.YtcgpjijbnkgbcaaGreatFmtFnf
import Derived.Test.YtcgpjijbnkgbcaaGreatFmtPreview
import Derived.Test.YtcgpjijbnkgbcaaGreatFmtItoa10
namespace Go.Proofs.YtcgpjijbnkgbcaaGreatFmt
set_option linter.unusedVariables false
set_option linter.unusedSimpArgs false
open Go.RowKit Go.Lib Go.Sort

theorem te_le (inner : ByteArray) (h : inner.size ≤ 140737488351232) : (fnfPre ++ inner.data.toList).length ≤ 281474976710656 := by
  have hl : inner.data.toList.length = inner.size := by rw [Array.length_toList]; rfl
  rw [List.length_append, hl]
  show 20 + _ ≤ _
  omega
set_option maxRecDepth 100000 in
set_option maxHeartbeats 1600000 in
theorem zz_FnFunc0WrapIntText (name : ByteArray) (v : Int) (inner : ByteArray) (hname : name.size ≤ 140737488351232) (hinner : inner.size ≤ 140737488351232) (hv0 : -9223372036854775808 ≤ v) (hv1 : v ≤ 9223372036854775807) (w : World) (hT : Tabs w) :
    Calls Tryz.prog 11 #[.string name, .int .i64 v, .string inner] w (Says w (txtW0 name (itoa v) (fnfPre ++ inner.data.toList))) := by
  have hb : Below w.heap.size w ((w.alloc (.cells #[.string inner] 43)).alloc (.cells #[.string name, .iface 3 (.int .i64 v), .iface 41 (.pointer (some ⟨w.heap.size, 0, none⟩))] 47)) := by go_grown
  have hs : ((w.alloc (.cells #[.string inner] 43)).alloc (.cells #[.string name, .iface 3 (.int .i64 v), .iface 41 (.pointer (some ⟨w.heap.size, 0, none⟩))] 47)).heap.size = w.heap.size + 1 + 1 := by show ((w.heap.push _).push _).size = _; simp
  have hT1 := hT.on hb
  have hcell : ((w.alloc (.cells #[.string inner] 43)).alloc (.cells #[.string name, .iface 3 (.int .i64 v), .iface 41 (.pointer (some ⟨w.heap.size, 0, none⟩))] 47)).cell? ⟨w.heap.size, 0, none⟩ = some (.string inner) := by go_simp
  have e0 : ((w.alloc (.cells #[.string inner] 43)).alloc (.cells #[.string name, .iface 3 (.int .i64 v), .iface 41 (.pointer (some ⟨w.heap.size, 0, none⟩))] 47)).cell? ⟨w.heap.size + 1, 0, none⟩ = some (.string name) := by go_simp
  have e1 : ((w.alloc (.cells #[.string inner] 43)).alloc (.cells #[.string name, .iface 3 (.int .i64 v), .iface 41 (.pointer (some ⟨w.heap.size, 0, none⟩))] 47)).cell? ⟨w.heap.size + 1, 1, none⟩ = some (.iface 3 (.int .i64 v)) := by go_simp
  have e2 : ((w.alloc (.cells #[.string inner] 43)).alloc (.cells #[.string name, .iface 3 (.int .i64 v), .iface 41 (.pointer (some ⟨w.heap.size, 0, none⟩))] 47)).cell? ⟨w.heap.size + 1, 2, none⟩ = some (.iface 41 (.pointer (some ⟨w.heap.size, 0, none⟩))) := by go_simp
  generalize hW1 : ((w.alloc (.cells #[.string inner] 43)).alloc (.cells #[.string name, .iface 3 (.int .i64 v), .iface 41 (.pointer (some ⟨w.heap.size, 0, none⟩))] 47)) = w1 at hb hs hT1 hcell e0 e1 e2
  have HP := Lib.hid (errW0 name (.iface 3 (.int .i64 v)) (itoa v) w.heap.size (fnfPre ++ inner.data.toList) hname (Nat.le_trans (itoa_length_le v hv0 hv1) (by omega)) (te_le inner hinner)
    (preview_int v hv0 hv1) w1 hT1 (w.heap.size + 1) (by omega) e0 e1 e2
    (fun w2 hb2 => (fnf_error inner hinner w.heap.size w2 ((hb2.cell (p := ⟨w.heap.size, 0, none⟩) (by show w.heap.size < _; omega)).trans hcell)).mono fun e w' ⟨he, hb'⟩ => ⟨he, hb2.trans (below_of hb' hb2.size)⟩))
  have HB := Lib.hid hb
  clear hb hs hT hT1 hcell e0 e1 e2
  go_enter Tryz.func11, Tryz.ntmps11
  go_wp2_with fail
  try rw [hW1]
  refine HP.out.mono ?_
  rintro e w2 ⟨rfl, hb1⟩
  have hb2 := HB.out.trans (below_of hb1 HB.out.size)
  go_wp2_with fail
  go_ret
  exact ⟨rfl, hb2⟩

set_option maxHeartbeats 800000 in
theorem bytes_FnFunc0WrapIntText (name : ByteArray) (v : Int) (inner : ByteArray) (hname : name.size ≤ 140737488351232) (hinner : inner.size ≤ 140737488351232) (w : World) :
    Calls Tryz.prog 10 #[.string name, .int .i64 v, .string inner] w fun e w' => (∃ b, e = .returned (.bool b)) ∧ Below w.heap.size w w' := by
  go_enter Tryz.func10, Tryz.ntmps10
  go_wp2
  repeat (any_goals go_region; any_goals go_wp2)
  all_goals (go_ret; exact ⟨⟨_, rfl⟩, by go_grown⟩)

set_option maxRecDepth 100000 in
set_option maxHeartbeats 3200000 in
theorem walk_FnFunc0WrapIntText (name : ByteArray) (v : Int) (inner : ByteArray) (W : World) (wname : name.size ≤ 140737488351232) (wv : (Lit.int .i64 v).wf = true) (winner : inner.size ≤ 140737488351232) (hD : Tabs W) :
    Calls Tryz.prog 3 #[.string name, .int .i64 v, .string inner] W fun e w' => e = .returned (.bool true) ∧ Below W.heap.size W w' := by
  have HZ := Lib.hid (bytes_FnFunc0WrapIntText name v inner wname winner  W)
  have bv := bounds_int wv
  have yv := itoa_length_le v bv.1 bv.2
  have Iv := Lib.hid (says_from (fun w _ => itoa10_any v bv.1 bv.2 w) hD)
  have HP := Lib.hid (says_from (zz_FnFunc0WrapIntText name v inner wname winner bv.1 bv.2) hD)
  have z2 : ¬ 9223372036854775807 < name.size + 22 := by omega
  have z3 : ¬ 9223372036854775807 < name.size + 22 + (itoa v).length := by omega
  have z4 : ¬ 9223372036854775807 < name.size + 22 + (itoa v).length + 22 := by omega
  have z5 : ¬ 9223372036854775807 < name.size + 22 + (itoa v).length + 22 + inner.size := by omega
  have hE : ((txtW0 name (itoa v) (fnfPre ++ inner.data.toList)) == (name ++ ⟨#[32, 99, 97, 110, 110, 111, 116, 32, 98, 101, 32, 97, 112, 112, 108, 105, 101, 100, 32, 116, 111, 32]⟩ ++ ⟨(itoa v).toArray⟩ ++ ⟨#[58, 32, 102, 111, 114, 109, 97, 116, 32, 110, 111, 116, 32, 100, 101, 102, 105, 110, 101, 100, 58, 32]⟩ ++ inner : ByteArray).toList) = true := eq_text (by simp [txtW0, fnfPre])
  clear hD
  go_enter Tryz.func3, Tryz.ntmps3
  go_wp2_with fail
  refine HZ.out.mono ?_
  rintro e w0 ⟨⟨b, rfl⟩, hb0⟩
  cases b
  · go_wp2_with fail
    go_ret
    exact ⟨rfl, hb0⟩
  go_wp2_with fail
  all_goals (try (go_ret; exact ⟨rfl, hb0⟩))
  refine (HP.out _ hb0).mono ?_
  rintro e w1 ⟨rfl, hb1⟩
  go_wp2_with fail
  refine (Iv.out _ hb1).mono ?_
  rintro e w2 ⟨rfl, hb2⟩
  go_wp2_with fail
  go_ret
  exact ⟨rfl, hb2⟩
end Go.Proofs.YtcgpjijbnkgbcaaGreatFmt
