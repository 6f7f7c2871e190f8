/-
  The walk of the law FnLimitedMarshalPlainStringSpec.
-/
import Derived.Test.YtcajagjgbalakaaGreatFmtZero
import Derived.Test.YtcajagjgbalakaaGreatFmtPreview
import Derived.Test.YtcajagjgbalakaaGreatFmtWalkFnPreviewPlainStringSpec
namespace Go.Proofs.YtcajagjgbalakaaGreatFmt
set_option linter.unusedVariables false
set_option linter.unusedSimpArgs false
open Go.RowKit Go.Lib Go.Sort

set_option maxHeartbeats 800000 in
theorem bytes_FnLimitedMarshalPlainStringSpec (s : ByteArray) (n : Int) (hs : s.size ≤ 140737488351232) (w : World) :
    Calls Tryz.prog 13 #[.string s, .int .i64 n] w fun e w' => (∃ b, e = .returned (.bool b)) ∧ Below w.heap.size w w' := by
  go_enter Tryz.func13, Tryz.ntmps13
  go_wp2
  repeat (any_goals go_region; any_goals go_wp2)
  all_goals (go_ret; exact ⟨⟨_, rfl⟩, by go_grown⟩)

set_option maxRecDepth 100000 in
set_option maxHeartbeats 400000 in
theorem zz_marshalA (s : ByteArray) (hs : s.size ≤ 2097152) (n : Nat) (hn : n ≤ 65536) (w : World) (hT : Tabs w) :
    Calls Tryz.prog 14 #[.string s, .int .i64 (n : Int)] w (Marshalled w n (quoted s.data.toList)) := by
  have HM := Lib.hid (marshal_str0 s hs n hn w hT)
  clear hT
  go_enter Tryz.func14, Tryz.ntmps14
  go_wp2_with fail
  refine HM.out.mono ?_
  rintro e w1 ⟨hb, bb, hbb, rfl, hc⟩
  go_wp2_with fail
  go_ret
  exact ⟨hb, bb, hbb, by rw [List.length_take]; rfl, hc⟩
/-- The cells of what was handed back, in every later world. -/
theorem kept_cellsA {w1 w2 : World} {bb n : Nat} {T : List UInt8} (hc : ∃ cur : List Value, w1.heap[bb]? = some (.cells cur.toArray 5 (0, 0)) ∧ cur.length = n ∧ cur.take T.length = bc T) (hb : Below w1.heap.size w1 w2) (j : Nat) (hj : j < T.length) :
    w2.cell? ⟨bb, j, none⟩ = some (.int .u8 ((at_ T j : Nat) : Int)) := by
  obtain ⟨cur, h1, h2, h3⟩ := hc
  have hlt : bb < w1.heap.size := by
    rcases Nat.lt_or_ge bb w1.heap.size with h | h
    · exact h
    · rw [Array.getElem?_eq_none h] at h1; cases h1
  have h4 := (hb.block bb hlt).trans h1
  have e := Marshalled.cells h4 h3 j hj
  rw [at_get T j hj]
  rw [Go.WideShapes.add_plain, Nat.zero_add] at e
  exact e
set_option maxRecDepth 100000 in
set_option maxHeartbeats 3200000 in
theorem walk_FnLimitedMarshalPlainStringSpec (s : ByteArray) (n : Int) (W : World) (ws : s.size ≤ 140737488351232) (wn : (Lit.int .i64 n).wf = true) (hD : Tabs W) :
    Calls Tryz.prog 5 #[.string s, .int .i64 n] W fun e w' => e = .returned (.bool true) ∧ Below W.heap.size W w' := by
  have HZ := Lib.hid (bytes_FnLimitedMarshalPlainStringSpec s n ws W)
  have HD := Lib.hid hD
  clear hD
  by_cases gs : 1048576 < s.size
  · have qs : (1048576 : Int) < (s.size : Int) := by omega
    go_enter Tryz.func5, Tryz.ntmps5
    go_wp2_with fail
    refine HZ.out.mono ?_
    rintro e w0 ⟨⟨bb, rfl⟩, hb0⟩
    cases bb
    · go_wp2_with fail
      go_ret
      exact ⟨rfl, hb0⟩
    go_wp2_with fail
    all_goals (go_ret; exact ⟨rfl, hb0⟩)
  have qs : (s.size : Int) ≤ 1048576 := by omega
  have hsl : s.data.toList.length = s.size := by rw [Array.length_toList]; rfl
  have bn := bounds_int wn
  by_cases g1 : n < 0
  · go_enter Tryz.func5, Tryz.ntmps5
    go_wp2_with fail
    refine HZ.out.mono ?_
    rintro e w0 ⟨⟨bb, rfl⟩, hb0⟩
    cases bb
    · go_wp2_with fail
      go_ret
      exact ⟨rfl, hb0⟩
    go_wp2_with fail
    all_goals (go_ret; exact ⟨rfl, hb0⟩)
  by_cases g2 : 65536 < n
  · have g1' : ¬ n < 0 := g1
    go_enter Tryz.func5, Tryz.ntmps5
    go_wp2_with fail
    refine HZ.out.mono ?_
    rintro e w0 ⟨⟨bb, rfl⟩, hb0⟩
    cases bb
    · go_wp2_with fail
      go_ret
      exact ⟨rfl, hb0⟩
    go_wp2_with fail
    all_goals (go_ret; exact ⟨rfl, hb0⟩)
  obtain ⟨m, rfl⟩ : ∃ m : Nat, n = (m : Int) := ⟨n.toNat, by omega⟩
  have HT := Lib.hid (fun w => plainText_any s (by omega) w)
  have HM := Lib.hid (fun w (hb : Below W.heap.size W w) => zz_marshalA s (by omega) m (by omega) w (HD.out.on hb))
  have z1 : ¬ 9223372036854775807 < 1 + s.size := by omega
  have z2 : ¬ 9223372036854775807 < 1 + s.size + 1 := by omega
  have g3 : ¬ (65536 : Int) < (m : Int) := g2
  have g4 : (m : Int) ≤ 65536 := by omega
  go_enter Tryz.func5, Tryz.ntmps5
  go_wp2_with fail
  refine HZ.out.mono ?_
  rintro e w0 ⟨⟨bb, rfl⟩, hb0⟩
  cases bb
  · go_wp2_with fail
    go_ret
    exact ⟨rfl, hb0⟩
  go_wp2_with fail
  refine (HT.out _).mono ?_
  rintro e w1 ⟨⟨b, rfl, hpl⟩, hb1'⟩
  have hb1 := hb0.trans (below_of hb1' hb0.size)
  clear hb1'
  cases b
  · go_wp2_with fail
    go_ret
    exact ⟨rfl, hb1⟩
  have hq := hpl rfl
  clear hpl
  have HQ := Lib.hid (quoted_passed _ hq.1)
  clear hq
  by_cases hmn : m < s.size + 2
  · have l1 : (m : Int) < 1 + (s.size : Int) + 1 := by omega
    go_wp2_with fail
    refine (HM.out _ hb1).mono ?_
    rintro e w2 ⟨hb2', bb, hbb, rfl, hcur⟩
    have hb2 := hb1.trans (below_of hb2' hb1.size)
    have hln : ((quoted s.data.toList).take m).length = m := by rw [List.length_take, HQ.out]; simp [hsl]; omega
    have HCU := Lib.hid (fun w3 (hb : Below w2.heap.size w2 w3) j (hj : j < ((quoted s.data.toList).take m).length) => kept_cellsA hcur hb j hj)
    rw [hln] at HCU
    rw [hln]
    clear hcur hln
    have HR := Lib.hid (fun k (hk : k < m) => reads_at (⟨#[34]⟩ ++ s ++ ⟨#[34]⟩) k (k : Int) rfl (by rw [tq_size]; omega))
    have HA := Lib.hid (fun k (hk : k < m) => (at_take (quoted s.data.toList) m k (by omega)).trans (by rw [HQ.out, ← tq_data] : _ = at_ (⟨#[34]⟩ ++ s ++ ⟨#[34]⟩ : ByteArray).data.toList k))
    have HB2 := Lib.hid hb2
    clear hb2
    go_wp2_with fail
    go_loopw [8] (fun vi wr => ∃ k : Nat, vi = .int .i64 (k : Int) ∧ k ≤ m ∧ Below w2.heap.size w2 wr) (fun vi _ => m - (RowKit.intOf vi).toNat)
    case atStart => exact ⟨0, rfl, Nat.zero_le _, Below.refl _ _⟩
    case round =>
      obtain ⟨k, rfl, hk, hb⟩ := hrel
      by_cases hks : k < m
      · have q0 : (k : Int) < (m : Int) := by omega
        have x0 := HR.out k hks
        unfold Reads at x0
        have cu := HCU.out _ hb k hks
        rw [HA.out k hks] at cu
        have xb := at_lt (⟨#[34]⟩ ++ s ++ ⟨#[34]⟩ : ByteArray).data.toList k
        generalize at_ (⟨#[34]⟩ ++ s ++ ⟨#[34]⟩ : ByteArray).data.toList k = x at x0 cu xb
        go_wp2_with fail
        try go_region
        all_goals (go_wp2_with fail)
        all_goals go_roundw
        case rel => exact ⟨k + 1, by go_num, by omega, by first | exact hb | exact hb.drew⟩
        case measure => simp [RowKit.intOf]; omega
      · obtain rfl : k = m := by omega
        go_wp2_with fail
        go_ret
        exact ⟨rfl, HB2.out.trans (below_of hb HB2.out.size)⟩
  · have l1 : ¬ (m : Int) < 1 + (s.size : Int) + 1 := by omega
    go_wp2_with fail
    refine (HM.out _ hb1).mono ?_
    rintro e w2 ⟨hb2', bb, hbb, rfl, hcur⟩
    have hb2 := hb1.trans (below_of hb2' hb1.size)
    have hln : ((quoted s.data.toList).take m).length = (1 + s.size + 1) := by rw [List.length_take, HQ.out]; simp [hsl]; omega
    have HCU := Lib.hid (fun w3 (hb : Below w2.heap.size w2 w3) j (hj : j < ((quoted s.data.toList).take m).length) => kept_cellsA hcur hb j hj)
    rw [hln] at HCU
    rw [hln]
    clear hcur hln
    have HR := Lib.hid (fun k (hk : k < (1 + s.size + 1)) => reads_at (⟨#[34]⟩ ++ s ++ ⟨#[34]⟩) k (k : Int) rfl (by rw [tq_size]; omega))
    have HA := Lib.hid (fun k (hk : k < (1 + s.size + 1)) => (at_take (quoted s.data.toList) m k (by omega)).trans (by rw [HQ.out, ← tq_data] : _ = at_ (⟨#[34]⟩ ++ s ++ ⟨#[34]⟩ : ByteArray).data.toList k))
    have HB2 := Lib.hid hb2
    clear hb2
    go_wp2_with fail
    go_loopw [8] (fun vi wr => ∃ k : Nat, vi = .int .i64 (k : Int) ∧ k ≤ (1 + s.size + 1) ∧ Below w2.heap.size w2 wr) (fun vi _ => (1 + s.size + 1) - (RowKit.intOf vi).toNat)
    case atStart => exact ⟨0, rfl, Nat.zero_le _, Below.refl _ _⟩
    case round =>
      obtain ⟨k, rfl, hk, hb⟩ := hrel
      by_cases hks : k < (1 + s.size + 1)
      · have q0 : (k : Int) < 1 + (s.size : Int) + 1 := by omega
        have x0 := HR.out k hks
        unfold Reads at x0
        have cu := HCU.out _ hb k hks
        rw [HA.out k hks] at cu
        have xb := at_lt (⟨#[34]⟩ ++ s ++ ⟨#[34]⟩ : ByteArray).data.toList k
        generalize at_ (⟨#[34]⟩ ++ s ++ ⟨#[34]⟩ : ByteArray).data.toList k = x at x0 cu xb
        go_wp2_with fail
        try go_region
        all_goals (go_wp2_with fail)
        all_goals go_roundw
        case rel => exact ⟨k + 1, by go_num, by omega, by first | exact hb | exact hb.drew⟩
        case measure => simp [RowKit.intOf]; omega
      · obtain rfl : k = (1 + s.size + 1) := by omega
        go_wp2_with fail
        go_ret
        exact ⟨rfl, HB2.out.trans (below_of hb HB2.out.size)⟩
end Go.Proofs.YtcajagjgbalakaaGreatFmt
