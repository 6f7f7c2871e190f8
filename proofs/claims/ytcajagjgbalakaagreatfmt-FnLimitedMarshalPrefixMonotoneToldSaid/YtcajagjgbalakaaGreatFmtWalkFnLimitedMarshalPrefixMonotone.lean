/-
  The walk of the law FnLimitedMarshalPrefixMonotone.
-/
import Derived.Test.YtcajagjgbalakaaGreatFmtZero
import Derived.Test.YtcajagjgbalakaaGreatFmtPreview
import Derived.Test.YtcajagjgbalakaaGreatFmtPlainLaw
namespace Go.Proofs.YtcajagjgbalakaaGreatFmt
set_option linter.unusedVariables false
set_option linter.unusedSimpArgs false
open Go.RowKit Go.Lib Go.Sort

set_option maxHeartbeats 800000 in
theorem bytes_FnLimitedMarshalPrefixMonotone (s : ByteArray) (a : Int) (b : Int) (hs : s.size ≤ 140737488351232) (w : World) :
    Calls Tryz.prog 15 #[.string s, .int .i64 a, .int .i64 b] w fun e w' => (∃ b, e = .returned (.bool b)) ∧ Below w.heap.size w w' := by
  go_enter Tryz.func15, Tryz.ntmps15
  go_wp2
  repeat (any_goals go_region; any_goals go_wp2)
  all_goals (go_ret; exact ⟨⟨_, rfl⟩, by go_grown⟩)

set_option maxRecDepth 100000 in
set_option maxHeartbeats 400000 in
theorem zz_marshalB (s : ByteArray) (hs : s.size ≤ 2097152) (n : Nat) (hn : n ≤ 65536) (w : World) (hT : Tabs w) :
    Calls Tryz.prog 14 #[.string s, .int .i64 (n : Int)] w (Marshalled w n (quoted s.data.toList)) := by
  have HM := Lib.hid (marshal_str0 s hs n hn w hT)
  clear hT
  go_enter Tryz.func14, Tryz.ntmps14
  go_wp2_with fail
  refine HM.out.mono ?_
  rintro e w1 ⟨hb, bb, hbb, rfl, hc⟩
  go_wp2_with fail
  go_ret
  exact ⟨hb, bb, hbb, by rw [List.length_take]; rfl, hc⟩
/-- The cells of what was handed back, in every later world. -/
theorem kept_cellsB {w1 w2 : World} {bb n : Nat} {T : List UInt8} (hc : ∃ cur : List Value, w1.heap[bb]? = some (.cells cur.toArray 5 (0, 0)) ∧ cur.length = n ∧ cur.take T.length = bc T) (hb : Below w1.heap.size w1 w2) (j : Nat) (hj : j < T.length) :
    w2.cell? ⟨bb, j, none⟩ = some (.int .u8 ((at_ T j : Nat) : Int)) := by
  obtain ⟨cur, h1, h2, h3⟩ := hc
  have hlt : bb < w1.heap.size := by
    rcases Nat.lt_or_ge bb w1.heap.size with h | h
    · exact h
    · rw [Array.getElem?_eq_none h] at h1; cases h1
  have h4 := (hb.block bb hlt).trans h1
  have e := Marshalled.cells h4 h3 j hj
  rw [at_get T j hj]
  rw [Go.WideShapes.add_plain, Nat.zero_add] at e
  exact e
set_option maxRecDepth 100000 in
set_option maxHeartbeats 3200000 in
theorem walk_FnLimitedMarshalPrefixMonotone (s : ByteArray) (a : Int) (b : Int) (W : World) (ws : s.size ≤ 140737488351232) (wa : (Lit.int .i64 a).wf = true) (wb : (Lit.int .i64 b).wf = true) (hD : Tabs W) :
    Calls Tryz.prog 6 #[.string s, .int .i64 a, .int .i64 b] W fun e w' => e = .returned (.bool true) ∧ Below W.heap.size W w' := by
  have HZ := Lib.hid (bytes_FnLimitedMarshalPrefixMonotone s a b ws W)
  have HD := Lib.hid hD
  clear hD
  by_cases gs : 1048576 < s.size
  · have qs : (1048576 : Int) < (s.size : Int) := by omega
    go_enter Tryz.func6, Tryz.ntmps6
    go_wp2_with fail
    refine HZ.out.mono ?_
    rintro e w0 ⟨⟨bb, rfl⟩, hb0⟩
    cases bb
    · go_wp2_with fail
      go_ret
      exact ⟨rfl, hb0⟩
    go_wp2_with fail
    all_goals (go_ret; exact ⟨rfl, hb0⟩)
  have qs : (s.size : Int) ≤ 1048576 := by omega
  have hsl : s.data.toList.length = s.size := by rw [Array.length_toList]; rfl
  have ba := bounds_int wa
  have bb := bounds_int wb
  by_cases g1 : a < 0
  · go_enter Tryz.func6, Tryz.ntmps6
    go_wp2_with fail
    refine HZ.out.mono ?_
    rintro e w0 ⟨⟨bb, rfl⟩, hb0⟩
    cases bb
    · go_wp2_with fail
      go_ret
      exact ⟨rfl, hb0⟩
    go_wp2_with fail
    all_goals (go_ret; exact ⟨rfl, hb0⟩)
  by_cases g2 : b < a
  · have g1' : ¬ a < 0 := g1
    go_enter Tryz.func6, Tryz.ntmps6
    go_wp2_with fail
    refine HZ.out.mono ?_
    rintro e w0 ⟨⟨bb, rfl⟩, hb0⟩
    cases bb
    · go_wp2_with fail
      go_ret
      exact ⟨rfl, hb0⟩
    go_wp2_with fail
    all_goals (go_ret; exact ⟨rfl, hb0⟩)
  by_cases g3 : 65536 < b
  · have g1' : ¬ a < 0 := g1
    have g2' : ¬ b < a := g2
    go_enter Tryz.func6, Tryz.ntmps6
    go_wp2_with fail
    refine HZ.out.mono ?_
    rintro e w0 ⟨⟨bb, rfl⟩, hb0⟩
    cases bb
    · go_wp2_with fail
      go_ret
      exact ⟨rfl, hb0⟩
    go_wp2_with fail
    all_goals (go_ret; exact ⟨rfl, hb0⟩)
  obtain ⟨m, rfl⟩ : ∃ m : Nat, a = (m : Int) := ⟨a.toNat, by omega⟩
  obtain ⟨n, rfl⟩ : ∃ n : Nat, b = (n : Int) := ⟨b.toNat, by omega⟩
  have HM := Lib.hid (fun w (hb : Below W.heap.size W w) => zz_marshalB s (by omega) m (by omega) w (HD.out.on hb))
  have HN := Lib.hid (fun w (hb : Below W.heap.size W w) => zz_marshalB s (by omega) n (by omega) w (HD.out.on hb))
  have g4 : ¬ (65536 : Int) < (n : Int) := g3
  go_enter Tryz.func6, Tryz.ntmps6
  go_wp2_with fail
  refine HZ.out.mono ?_
  rintro e w0 ⟨⟨bb, rfl⟩, hb0⟩
  cases bb
  · go_wp2_with fail
    go_ret
    exact ⟨rfl, hb0⟩
  go_wp2_with fail
  refine (HM.out _ hb0).mono ?_
  rintro e w1 ⟨hb1', p1, hp1, rfl, hc1⟩
  have hb1 := hb0.trans (below_of hb1' hb0.size)
  go_wp2_with fail
  refine (HN.out _ hb1).mono ?_
  rintro e w2 ⟨hb2', p2, hp2, rfl, hc2⟩
  have hb2 := hb1.trans (below_of hb2' hb1.size)
  have HC1 := Lib.hid (fun w3 (hb : Below w2.heap.size w2 w3) j hj => kept_cellsB hc1 (hb2'.trans (below_of hb hb2'.size)) j hj)
  have HC2 := Lib.hid (fun w3 (hb : Below w2.heap.size w2 w3) j hj => kept_cellsB hc2 hb j hj)
  clear hc1 hc2
  have HA1 := Lib.hid (fun k (hk : k < m) => at_take (quoted s.data.toList) m k hk)
  have HA2 := Lib.hid (fun k (hk : k < n) => at_take (quoted s.data.toList) n k hk)
  have t1 : ((quoted s.data.toList).take m).length = min m (quoted s.data.toList).length := List.length_take
  have t2 : ((quoted s.data.toList).take n).length = min n (quoted s.data.toList).length := List.length_take
  generalize ((quoted s.data.toList).take m).length = u1 at t1 HC1 ⊢
  generalize ((quoted s.data.toList).take n).length = u2 at t2 HC2 ⊢
  generalize (quoted s.data.toList).length = q at t1 t2
  have l1 : ¬ (m : Int) < (u1 : Int) := by omega
  have l2 : ¬ (n : Int) < (u2 : Int) := by omega
  have l3 : ¬ (u2 : Int) < (u1 : Int) := by omega
  have HB2 := Lib.hid hb2
  clear hb2
  go_wp2_with fail
  go_loopw [9] (fun vi wr => ∃ k : Nat, vi = .int .i64 (k : Int) ∧ k ≤ u1 ∧ Below w2.heap.size w2 wr) (fun vi _ => u1 - (RowKit.intOf vi).toNat)
  case atStart => exact ⟨0, rfl, Nat.zero_le _, Below.refl _ _⟩
  case round =>
    obtain ⟨k, rfl, hk, hb⟩ := hrel
    by_cases hks : k < u1
    · have q0 : (k : Int) < (u1 : Int) := by omega
      have q1 : (k : Int) < (u2 : Int) := by omega
      have cu := HC1.out _ hb k hks
      have cv := HC2.out _ hb k (by omega)
      rw [HA1.out k (by omega)] at cu
      rw [HA2.out k (by omega)] at cv
      generalize at_ (quoted s.data.toList) k = x at cu cv
      go_wp2_with fail
      try go_region
      all_goals (go_wp2_with fail)
      all_goals go_roundw
      case rel => exact ⟨k + 1, by go_num, by omega, by first | exact hb | exact hb.drew⟩
      case measure => simp [RowKit.intOf]; omega
    · obtain rfl : k = u1 := by omega
      by_cases hu : k < m
      · have v1 : (k : Int) < (m : Int) := by omega
        have v2 : ((u2 : Int) == (k : Int)) = true := by rw [beq_iff_eq]; omega
        have v3 : ((u2 : Int) != (k : Int)) = false := by rw [bne, v2]; rfl
        go_wp2_with fail
        go_ret
        exact ⟨rfl, HB2.out.trans (below_of hb HB2.out.size)⟩
      · have v1 : ¬ (k : Int) < (m : Int) := by omega
        go_wp2_with fail
        go_ret
        exact ⟨rfl, HB2.out.trans (below_of hb HB2.out.size)⟩
end Go.Proofs.YtcajagjgbalakaaGreatFmt
