/-
  The walk of the law FnPreviewPlainStringSpec.
-/
import Derived.Test.YtcajagjgbalakaaGreatFmtPrevStr
import Derived.Test.YtcajagjgbalakaaGreatFmtUtf
namespace Go.Proofs.YtcajagjgbalakaaGreatFmt
set_option linter.unusedVariables false
set_option linter.unusedSimpArgs false
open Go.RowKit Go.Lib Go.Sort

set_option maxHeartbeats 800000 in
theorem bytes_FnPreviewPlainStringSpec (s : ByteArray) (hs : s.size ≤ 140737488351232) (w : World) :
    Calls Tryz.prog 7 #[.string s] w fun e w' => (∃ b, e = .returned (.bool b)) ∧ Below w.heap.size w w' := by
  go_enter Tryz.func7, Tryz.ntmps7
  go_wp2
  repeat (any_goals go_region; any_goals go_wp2)
  all_goals (go_ret; exact ⟨⟨_, rfl⟩, by go_grown⟩)

theorem tq_data (s : ByteArray) : (⟨#[34]⟩ ++ s ++ ⟨#[34]⟩ : ByteArray).data.toList = 34 :: (s.data.toList ++ [34]) := by simp
theorem tq_size (s : ByteArray) : (⟨#[34]⟩ ++ s ++ ⟨#[34]⟩ : ByteArray).size = s.size + 2 := by
  have h := tq_data s
  have h2 := congrArg List.length h
  rw [Array.length_toList] at h2
  have hsl : s.data.toList.length = s.size := by rw [Array.length_toList]; rfl
  simp only [List.length_cons, List.length_append, List.length_nil, hsl] at h2
  exact h2
theorem quoted_passed (L : List UInt8) (h : escL L = L) : quoted L = 34 :: (L ++ [34]) := by unfold quoted; rw [h]
theorem slice_to (t : ByteArray) (k : Nat) (h : k ≤ t.size) (wx : World) : (Instr.slice 9 (.string t) none (some (.int .i64 (k : Int))) none).run Tryz.prog wx = .ok (.string (t.extract 0 k)) wx := by
  rw [run_slice_string_h (P := Tryz.prog) wx 9 t Tryz.underlying9 .i64 (k : Int) (by omega) (by omega), Int.toNat_natCast]
set_option maxRecDepth 100000 in
set_option maxHeartbeats 3200000 in
theorem walk_FnPreviewPlainStringSpec (s : ByteArray) (W : World) (ws : s.size ≤ 140737488351232) (hD : Tabs W) :
    Calls Tryz.prog 3 #[.string s] W fun e w' => e = .returned (.bool true) ∧ Below W.heap.size W w' := by
  have HZ := Lib.hid (bytes_FnPreviewPlainStringSpec s ws W)
  have HD := Lib.hid hD
  clear hD
  by_cases gs : 1048576 < s.size
  · have qs : (1048576 : Int) < (s.size : Int) := by omega
    go_enter Tryz.func3, Tryz.ntmps3
    go_wp2_with fail
    refine HZ.out.mono ?_
    rintro e w0 ⟨⟨bb, rfl⟩, hb0⟩
    cases bb
    · go_wp2_with fail
      go_ret
      exact ⟨rfl, hb0⟩
    go_wp2_with fail
    all_goals (go_ret; exact ⟨rfl, hb0⟩)
  have qs : (s.size : Int) ≤ 1048576 := by omega
  have hsl : s.data.toList.length = s.size := by rw [Array.length_toList]; rfl
  have HT := Lib.hid (fun w => plainText_any s (by omega) w)
  have HP := Lib.hid (says_from (preview_str s (by omega)) HD.out)
  have z1 : ¬ 9223372036854775807 < 1 + s.size := by omega
  have z2 : ¬ 9223372036854775807 < 1 + s.size + 1 := by omega
  go_enter Tryz.func3, Tryz.ntmps3
  go_wp2_with fail
  refine HZ.out.mono ?_
  rintro e w0 ⟨⟨bb, rfl⟩, hb0⟩
  cases bb
  · go_wp2_with fail
    go_ret
    exact ⟨rfl, hb0⟩
  go_wp2_with fail
  refine (HT.out _).mono ?_
  rintro e w1 ⟨⟨b, rfl, hpl⟩, hb1'⟩
  have hb1 := hb0.trans (below_of hb1' hb0.size)
  clear hb1'
  cases b
  · go_wp2_with fail
    go_ret
    exact ⟨rfl, hb1⟩
  have hq := hpl rfl
  clear hpl
  have HQ := Lib.hid (quoted_passed _ hq.1)
  clear hq
  by_cases hl : s.size + 2 ≤ 30
  · have l1 : ¬ (30 : Int) < 1 + (s.size : Int) + 1 := by omega
    have hE : (previewOf (quoted s.data.toList) dots == (⟨#[34]⟩ ++ s ++ ⟨#[34]⟩ : ByteArray).toList) = true := eq_text (by rw [tq_data, HQ.out, previewOf_short _ _ (by simp [hsl]; omega)])
    go_wp2_with fail
    refine (HP.out _ hb1).mono ?_
    rintro e w2 ⟨rfl, hb2⟩
    go_wp2_with fail
    go_ret
    exact ⟨rfl, hb2⟩
  · have l1 : (30 : Int) < 1 + (s.size : Int) + 1 := by omega
    obtain ⟨r, r1, r2, hpv, hr, hc⟩ := cut_places s.data.toList (by rw [HQ.out]; simp [hsl]; omega)
    rw [HQ.out, ← tq_data] at hpv hr hc
    have HR := Lib.hid (fun k (hk : k ≤ 25) => reads_at (⟨#[34]⟩ ++ s ++ ⟨#[34]⟩) k (k : Int) rfl (by rw [tq_size]; omega))
    have HS := Lib.hid (slice_to (⟨#[34]⟩ ++ s ++ ⟨#[34]⟩) r (by rw [tq_size]; omega))
    have HC := Lib.hid hc
    have HN := Lib.hid hr
    have hx : ((⟨#[34]⟩ ++ s ++ ⟨#[34]⟩ : ByteArray).extract 0 r).size ≤ 25 := by rw [ByteArray.size_extract]; omega
    have z3 : ¬ 9223372036854775807 < ((⟨#[34]⟩ ++ s ++ ⟨#[34]⟩ : ByteArray).extract 0 r).size + 5 := by omega
    have hE : (previewOf (quoted s.data.toList) dots == ((⟨#[34]⟩ ++ s ++ ⟨#[34]⟩ : ByteArray).extract 0 r ++ ⟨#[32, 46, 46, 46, 34]⟩).toList) = true := eq_text (by rw [HQ.out, ← tq_data, hpv, ByteArray.data_append, Array.toList_append, Lib.extract_data]; simp [dots])
    clear hpv hr hc hx
    go_wp2_with fail
    go_loopw [5] (fun vi wr => ∃ k : Nat, vi = .int .i64 (k : Int) ∧ r ≤ k ∧ k ≤ 25 ∧ Below W.heap.size W wr) (fun vi _ => (RowKit.intOf vi).toNat)
    case atStart => exact ⟨25, rfl, r2, by omega, hb1⟩
    case round =>
      obtain ⟨k, rfl, hk, hk2, hb⟩ := hrel
      have q0 : (0 : Int) < (k : Int) := by omega
      have x0 := HR.out k hk2
      unfold Reads at x0
      by_cases hkr : k = r
      · subst r
        have HK := Lib.hid (fun w => cont_no _ (at_lt _ k) HN.out w)
        have sl := HS.out
        generalize at_ (⟨#[34]⟩ ++ s ++ ⟨#[34]⟩ : ByteArray).data.toList k = x at x0 HK
        go_wp2_with fail
        refine (HK.out _).mono ?_
        rintro e w2 ⟨rfl, hb2'⟩
        have hb2 := hb.trans (below_of hb2' hb.size)
        go_wp2_with fail
        refine (HP.out _ hb2).mono ?_
        rintro e w3 ⟨rfl, hb3⟩
        go_wp2_with fail
        go_ret
        exact ⟨rfl, hb3⟩
      · have HK := Lib.hid (fun w => cont_yes _ (at_lt _ k) (HC.out k (by omega) hk2) w)
        generalize at_ (⟨#[34]⟩ ++ s ++ ⟨#[34]⟩ : ByteArray).data.toList k = x at x0 HK
        clear hE z3
        go_wp2_with fail
        refine (HK.out _).mono ?_
        rintro e w2 ⟨rfl, hb2'⟩
        have hb2 := hb.trans (below_of hb2' hb.size)
        go_wp2_with fail
        go_roundw
        case rel => exact ⟨k - 1, by go_num, by omega, by omega, hb2⟩
        case measure => simp [RowKit.intOf]; omega
end Go.Proofs.YtcajagjgbalakaaGreatFmt
