/-
  The walk of the law FnPreviewStringShapeAndBound.
-/
import Derived.Test.YtcajagjgbalakaaGreatFmtPrevStr
import Derived.Test.YtcajagjgbalakaaGreatFmtShape
import Derived.Test.YtcajagjgbalakaaGreatFmtUtf
namespace Go.Proofs.YtcajagjgbalakaaGreatFmt
set_option linter.unusedVariables false
set_option linter.unusedSimpArgs false
open Go.RowKit Go.Lib Go.Sort

set_option maxHeartbeats 800000 in
theorem bytes_FnPreviewStringShapeAndBound (s : ByteArray) (hs : s.size ≤ 140737488351232) (w : World) :
    Calls Tryz.prog 11 #[.string s] w fun e w' => (∃ b, e = .returned (.bool b)) ∧ Below w.heap.size w w' := by
  go_enter Tryz.func11, Tryz.ntmps11
  go_wp2
  repeat (any_goals go_region; any_goals go_wp2)
  all_goals (go_ret; exact ⟨⟨_, rfl⟩, by go_grown⟩)

set_option maxRecDepth 100000 in
set_option maxHeartbeats 3200000 in
theorem walk_FnPreviewStringShapeAndBound (s : ByteArray) (W : World) (ws : s.size ≤ 140737488351232) (hD : Tabs W) :
    Calls Tryz.prog 4 #[.string s] W fun e w' => e = .returned (.bool true) ∧ Below W.heap.size W w' := by
  have HZ := Lib.hid (bytes_FnPreviewStringShapeAndBound s ws W)
  have HD := Lib.hid hD
  clear hD
  by_cases gs : 1048576 < s.size
  · have qs : (1048576 : Int) < (s.size : Int) := by omega
    go_enter Tryz.func4, Tryz.ntmps4
    go_wp2_with fail
    refine HZ.out.mono ?_
    rintro e w0 ⟨⟨bb, rfl⟩, hb0⟩
    cases bb
    · go_wp2_with fail
      go_ret
      exact ⟨rfl, hb0⟩
    go_wp2_with fail
    all_goals (go_ret; exact ⟨rfl, hb0⟩)
  have qs : (s.size : Int) ≤ 1048576 := by omega
  have hsl : s.data.toList.length = s.size := by rw [Array.length_toList]; rfl
  obtain ⟨g, eg, hp⟩ : ∃ g : ByteArray, g.data.toList = previewOf (quoted s.data.toList) dots ∧ ∀ w, Below W.heap.size W w → Calls Tryz.prog 10 #[.iface 9 (.string s)] w fun e w' => e = .returned (.string g) ∧ Below W.heap.size W w' :=
    ⟨⟨(previewOf (quoted s.data.toList) dots).toArray⟩, rfl, says_from (preview_str s (by omega)) HD.out⟩
  have HP := Lib.hid hp
  have hgl : g.data.toList.length = g.size := by rw [Array.length_toList]; rfl
  have hle := previewOf_le (quoted s.data.toList)
  obtain ⟨mid, hm⟩ := preview_shape s.data.toList
  have hgood := preview_good s.data.toList
  rw [← eg] at hle hm hgood
  rw [hgl] at hle
  have hge : g.size = mid.length + 2 := by rw [← hgl, hm]; simp
  have x1 := reads_at g 0 (0 : Int) rfl (by omega)
  have x2 := reads_at g (mid.length + 1) ((g.size : Int) - 1) (by omega) (by omega)
  have e1 : at_ g.data.toList 0 = 34 := by rw [hm]; rfl
  have e2 : at_ g.data.toList (mid.length + 1) = 34 := by
    rw [hm]
    unfold at_
    rw [List.getD_eq_getElem?_getD, List.getElem?_cons_succ, List.getElem?_append_right (Nat.le_refl _), Nat.sub_self]
    rfl
  rw [e1] at x1
  rw [e2] at x2
  unfold Reads at x1 x2
  have HV := Lib.hid (fun w => valid_any g (by omega) hgood w)
  have l1 : ¬ (g.size : Int) < 2 := by omega
  have l2 : ¬ (30 : Int) < (g.size : Int) := by omega
  have l3 : (2 : Int) ≤ (g.size : Int) := by omega
  have l4 : (g.size : Int) ≤ 30 := by omega
  clear hp eg hgl hle hm hgood hge e1 e2
  go_enter Tryz.func4, Tryz.ntmps4
  go_wp2_with fail
  refine HZ.out.mono ?_
  rintro e w0 ⟨⟨bb, rfl⟩, hb0⟩
  cases bb
  · go_wp2_with fail
    go_ret
    exact ⟨rfl, hb0⟩
  go_wp2_with fail
  refine (HP.out _ hb0).mono ?_
  rintro e w1 ⟨rfl, hb1⟩
  go_wp2_with fail
  refine (HV.out _).mono ?_
  rintro e w2 ⟨rfl, hb2⟩
  go_wp2_with fail
  go_ret
  exact ⟨rfl, hb1.trans (below_of hb2 hb1.size)⟩
end Go.Proofs.YtcajagjgbalakaaGreatFmt
