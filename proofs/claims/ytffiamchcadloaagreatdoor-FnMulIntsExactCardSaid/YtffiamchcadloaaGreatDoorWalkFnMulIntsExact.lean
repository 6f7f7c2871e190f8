/-
  The walk of the law FnMulIntsExact.
-/
import Derived.Test.YtffiamchcadloaaGreatDoorMatB
import Derived.Test.YtffiamchcadloaaGreatDoorMulB
import Derived.Test.YtffiamchcadloaaGreatDoorNeg
namespace Go.Proofs.YtffiamchcadloaaGreatDoor
set_option linter.unusedVariables false
set_option linter.unusedSimpArgs false
open Go.RowKit Go.Lib

set_option maxRecDepth 100000 in
set_option maxHeartbeats 1600000 in
theorem funcmul_int (l r v : Int) (w : World) (HC0 : ∀ w, Calls Tryz.prog 40 #[.int .i64 l, .int .i64 r] w fun e w' => e = .returned (.iface 3 (.int .i64 v)) ∧ Below w.heap.size w w') :
    Calls Tryz.prog 24 #[.nilIface, .iface 3 (.int .i64 l), .iface 3 (.int .i64 r)] w fun e w' => e = .returned (.iface 3 (.int .i64 v)) ∧ Below w.heap.size w w' := by
  have HC := Lib.hid HC0
  clear HC0
  have as1 := asIntNumX
  have as2 := asIntIntX
  go_enter Tryz.func24, Tryz.ntmps24
  go_wp2_with (first
    | (go_at_call 40; refine (HC.out _).mono ?_; rintro e w1 ⟨rfl, hb1⟩)
    | go_in)
  go_ret
  exact ⟨rfl, by first | exact hb1 | exact below_of hb1 (by simp)⟩
set_option maxRecDepth 100000 in
set_option maxHeartbeats 1600000 in
theorem funcmul_big (l r : Int) (neg : Bool) (N : Nat) (w : World) (HC0 : ∀ w, Calls Tryz.prog 40 #[.int .i64 l, .int .i64 r] w fun e w' => (∃ b, e = .returned (.iface 49 (.pointer (some ⟨b, 0, none⟩))) ∧ BigAt w' b neg N) ∧ Below w.heap.size w w') :
    Calls Tryz.prog 24 #[.nilIface, .iface 3 (.int .i64 l), .iface 3 (.int .i64 r)] w fun e w' => (∃ b, e = .returned (.iface 49 (.pointer (some ⟨b, 0, none⟩))) ∧ BigAt w' b neg N) ∧ Below w.heap.size w w' := by
  have HC := Lib.hid HC0
  clear HC0
  have as1 := asIntNumX
  have as2 := asIntIntX
  go_enter Tryz.func24, Tryz.ntmps24
  go_wp2_with (first
    | (go_at_call 40; refine (HC.out _).mono ?_; rintro e w1 ⟨⟨b, rfl, hN⟩, hb1⟩)
    | go_in)
  go_ret
  exact ⟨⟨_, rfl, hN⟩, by first | exact hb1 | exact below_of hb1 (by simp)⟩
theorem mulc_neg (l v : Int) (w : World) (HC0 : ∀ w, Calls Tryz.prog 41 #[.int .i64 l] w fun e w' => e = .returned (.iface 3 (.int .i64 v)) ∧ Below w.heap.size w w') :
    Calls Tryz.prog 40 #[.int .i64 l, .int .i64 (-1)] w fun e w' => e = .returned (.iface 3 (.int .i64 v)) ∧ Below w.heap.size w w' := by
  have HC := Lib.hid HC0
  clear HC0
  go_enter Tryz.func40, Tryz.ntmps40
  go_wp2_with fail
  refine (HC.out _).mono ?_
  rintro e w1 ⟨rfl, hb1⟩
  have HB1 := Lib.hid hb1
  clear hb1
  go_wp2_with fail
  go_ret
  exact ⟨rfl, HB1.out⟩
theorem mulc_neg_big (l : Int) (neg : Bool) (N : Nat) (w : World) (HC0 : ∀ w, Calls Tryz.prog 41 #[.int .i64 l] w fun e w' => (∃ b, e = .returned (.iface 49 (.pointer (some ⟨b, 0, none⟩))) ∧ BigAt w' b neg N) ∧ Below w.heap.size w w') :
    Calls Tryz.prog 40 #[.int .i64 l, .int .i64 (-1)] w fun e w' => (∃ b, e = .returned (.iface 49 (.pointer (some ⟨b, 0, none⟩))) ∧ BigAt w' b neg N) ∧ Below w.heap.size w w' := by
  have HC := Lib.hid HC0
  clear HC0
  go_enter Tryz.func40, Tryz.ntmps40
  go_wp2_with fail
  refine (HC.out _).mono ?_
  rintro e w1 ⟨⟨b, rfl, hN⟩, hb1⟩
  have HB1 := Lib.hid hb1
  have HN := Lib.hid hN
  clear hb1 hN
  go_wp2_with fail
  go_ret
  exact ⟨⟨_, rfl, HN.out⟩, HB1.out⟩
theorem mul_small (l r : Int) (hl0 : -9223372036854775808 ≤ l) (hl1 : l ≤ 9223372036854775807) (hr0 : -9223372036854775808 ≤ r) (hr1 : r ≤ 9223372036854775807) (h0 : -9223372036854775808 ≤ l * r) (h1 : l * r ≤ 9223372036854775807) (w : World) :
    Calls Tryz.prog 24 #[.nilIface, .iface 3 (.int .i64 l), .iface 3 (.int .i64 r)] w fun e w' => e = .returned (.iface 3 (.int .i64 (l * r))) ∧ Below w.heap.size w w' := by
  refine funcmul_int l r (l * r) w (fun w => ?_)
  by_cases hm : r = -1
  · subst hm
    have e : l * -1 = -l := by omega
    rw [e] at h0 h1 ⊢
    exact mulc_neg l (-l) w (fun w => negate_small l (by omega) hl1 w)
  · exact mulc_small l r (beq_eq_false_iff_ne.2 hm) hl0 hl1 h0 h1 w
theorem mul_big (l r : Int) (hl0 : -9223372036854775808 ≤ l) (hl1 : l ≤ 9223372036854775807) (hr0 : -9223372036854775808 ≤ r) (hr1 : r ≤ 9223372036854775807) (ho : l * r < -9223372036854775808 ∨ 9223372036854775807 < l * r) (w : World) :
    Calls Tryz.prog 24 #[.nilIface, .iface 3 (.int .i64 l), .iface 3 (.int .i64 r)] w fun e w' => (∃ b, e = .returned (.iface 49 (.pointer (some ⟨b, 0, none⟩))) ∧ BigAt w' b (decide (l * r < 0)) (l * r).natAbs) ∧ Below w.heap.size w w' := by
  refine funcmul_big l r _ _ w (fun w => ?_)
  by_cases hm : r = -1
  · subst hm
    have e : l = -9223372036854775808 := by omega
    subst e
    exact mulc_neg_big _ _ _ w (fun w => negate_min w)
  · exact mulc_big l r hl0 hl1 hr0 hr1 (beq_eq_false_iff_ne.2 hm) ho w

theorem zzmul_small (l r : Int) (hl0 : -9223372036854775808 ≤ l) (hl1 : l ≤ 9223372036854775807) (hr0 : -9223372036854775808 ≤ r) (hr1 : r ≤ 9223372036854775807) (h0 : -9223372036854775808 ≤ l * r) (h1 : l * r ≤ 9223372036854775807) (w : World) :
    Calls Tryz.prog 10 #[.int .i64 l, .int .i64 r] w fun e w' => e = .returned (.tuple #[.int .i64 1, .int .i64 (l * r), .bool false, .slice none 0 0]) ∧ Below w.heap.size w w' := by
  have HA := Lib.hid (fun w => mul_small l r hl0 hl1 hr0 hr1 h0 h1 w)
  clear hl0 hl1 hr0 hr1 h0 h1
  generalize l * r = P at *
  go_enter Tryz.func10, Tryz.ntmps10
  go_wp2_with fail
  refine (HA.out _).mono ?_
  rintro e w1 ⟨rfl, hb1⟩
  have HK := Lib.hid (fun w => kind_int P w)
  have HB1 := Lib.hid hb1
  clear hb1
  go_wp2_with fail
  refine (HK.out _).mono ?_
  rintro e w2 ⟨rfl, hb2⟩
  have HB2 := Lib.hid (HB1.out.trans (below_of hb2 HB1.out.size))
  clear hb2
  go_wp2_with fail
  exact bodyPost_ret (v := .tuple #[.int .i64 1, .int .i64 P, .bool false, .slice none 0 0]) (by simp [results, Tryz.results10, go_sem]; try rfl) rfl ⟨rfl, HB2.out⟩
theorem zzmul_big (l r : Int) (hl0 : -9223372036854775808 ≤ l) (hl1 : l ≤ 9223372036854775807) (hr0 : -9223372036854775808 ≤ r) (hr1 : r ≤ 9223372036854775807) (ho : l * r < -9223372036854775808 ∨ 9223372036854775807 < l * r) (w : World) :
    Calls Tryz.prog 10 #[.int .i64 l, .int .i64 r] w fun e w' => (∃ G L, e = .returned (.tuple #[.int .i64 3, .int .i64 0, .bool (decide (l * r < 0)), .slice (some ⟨G, 0, none⟩) L L]) ∧ (wordsOf (l * r).natAbs).length = L ∧ Row w' G 25 (wordsOf (l * r).natAbs)) ∧ Below w.heap.size w w' := by
  have HA := Lib.hid (fun w => mul_big l r hl0 hl1 hr0 hr1 ho w)
  have HK := Lib.hid (fun b w => kind_big b (decide (l * r < 0)) (l * r).natAbs (by omega) w)
  clear hl0 hl1 hr0 hr1 ho
  generalize (l * r).natAbs = N at *
  generalize decide (l * r < 0) = neg at *
  go_enter Tryz.func10, Tryz.ntmps10
  go_wp2_with fail
  refine (HA.out _).mono ?_
  rintro e w1 ⟨⟨b, rfl, hN⟩, hb1⟩
  have HB1 := Lib.hid hb1
  have HN := Lib.hid hN
  clear hb1 hN
  go_wp2_with fail
  refine (HK.out _ _ HN.out).mono ?_
  rintro e w2 ⟨⟨G, L, rfl, hL, hR⟩, hb2⟩
  have HB2 := Lib.hid (HB1.out.trans (below_of hb2 HB1.out.size))
  have HL := Lib.hid hL
  have HR := Lib.hid hR
  clear hb2 hL hR
  go_wp2_with fail
  exact bodyPost_ret (v := .tuple #[.int .i64 3, .int .i64 0, .bool neg, .slice (some ⟨G, 0, none⟩) L L]) (by simp [results, Tryz.results10, go_sem]; try rfl) rfl ⟨⟨_, _, rfl, HL.out, HR.out⟩, HB2.out⟩

/-- The product's two's complement by the amounts' product. -/
theorem prod_same (l r : Int) (h : decide (l < 0) = decide (r < 0)) : ((l.natAbs * r.natAbs : Nat) : Int) = l * r := by
  rw [Int.natCast_mul]
  by_cases hl : l < 0
  · have hr : r < 0 := by
      rw [decide_eq_true hl] at h
      exact of_decide_eq_true h.symm
    rw [show (l.natAbs : Int) = -l by omega, show (r.natAbs : Int) = -r by omega, Int.neg_mul_neg]
  · have hr : ¬ r < 0 := by
      rw [decide_eq_false hl] at h
      exact of_decide_eq_false h.symm
    rw [show (l.natAbs : Int) = l by omega, show (r.natAbs : Int) = r by omega]
theorem prod_other (l r : Int) (h : decide (l < 0) = !decide (r < 0)) : -((l.natAbs * r.natAbs : Nat) : Int) = l * r := by
  rw [Int.natCast_mul]
  by_cases hl : l < 0
  · have hr : ¬ r < 0 := by
      rw [decide_eq_true hl] at h
      intro hr
      rw [decide_eq_true hr] at h
      cases h
    rw [show (l.natAbs : Int) = -l by omega, show (r.natAbs : Int) = r by omega, Int.neg_mul, Int.neg_neg]
  · have hr : r < 0 := by
      rw [decide_eq_false hl] at h
      by_cases hr : r < 0
      · exact hr
      · rw [decide_eq_false hr] at h
        cases h
    rw [show (l.natAbs : Int) = l by omega, show (r.natAbs : Int) = -r by omega, Int.mul_neg, Int.neg_neg]
theorem prod_words (N : Nat) (h : N < 340282366920938463463374607431768211456) : ((N / 18446744073709551616 : Nat) : Int) = hi128 (N : Int) ∧ ((N % 18446744073709551616 : Nat) : Int) = lo128 (N : Int) := by
  unfold hi128 lo128
  omega
set_option maxRecDepth 100000 in
set_option maxHeartbeats 1600000 in
theorem law_same (l r P : Int) (W : World) (hs : (l < 0 ∧ r < 0) ∨ (¬ l < 0 ∧ ¬ r < 0))
    (HZ0 : ∀ w, Calls Tryz.prog 10 #[.int .i64 l, .int .i64 r] w fun e w' => (∃ k i n m, e = .returned (.tuple #[.int .i64 k, .int .i64 i, .bool n, m]) ∧ Calls Tryz.prog 9 #[.int .i64 k, .int .i64 i, .bool n, m, .int .u64 (hi128 P), .int .u64 (lo128 P)] w' fun e w'' => e = .returned (.bool true) ∧ w' = w'') ∧ Below w.heap.size w w')
    (HL0 : ∀ w, Calls Tryz.prog 12 #[.int .i64 l] w fun e w' => e = .returned (.int .u64 (l.natAbs : Int)) ∧ w' = w)
    (HR0 : ∀ w, Calls Tryz.prog 12 #[.int .i64 r] w fun e w' => e = .returned (.int .u64 (r.natAbs : Int)) ∧ w' = w)
    (HM0 : ∀ w, Calls Tryz.prog 11 #[.int .u64 (l.natAbs : Int), .int .u64 (r.natAbs : Int)] w fun e w' => e = .returned (.tuple #[.int .u64 (hi128 P), .int .u64 (lo128 P)]) ∧ w' = w) :
    Calls Tryz.prog 4 #[.int .i64 l, .int .i64 r] W fun e w' => e = .returned (.bool true) ∧ Below W.heap.size W w' := by
  have HZ := Lib.hid HZ0
  have HL := Lib.hid HL0
  have HR := Lib.hid HR0
  have HM := Lib.hid HM0
  clear HZ0 HL0 HR0 HM0
  generalize hi128 P = hP at *
  generalize lo128 P = lP at *
  generalize l.natAbs = la at *
  generalize r.natAbs = ra at *
  rcases hs with ⟨h1, h2⟩ | ⟨h1, h2⟩
  · have d1 : decide (l < 0) = true := decide_eq_true h1
    have d2 : decide (r < 0) = true := decide_eq_true h2
    go_enter Tryz.func4, Tryz.ntmps4
    go_wp2_with fail
    refine (HZ.out _).mono ?_
    rintro e w1 ⟨⟨k, i, n, m, rfl, hT⟩, hb1⟩
    have HB1 := Lib.hid hb1
    have HT := Lib.hid hT
    clear hb1 hT
    go_wp2_with fail
    refine (HL.out _).mono ?_
    rintro e w2 ⟨rfl, rfl⟩
    go_wp2_with fail
    refine (HR.out _).mono ?_
    rintro e w2 ⟨rfl, rfl⟩
    go_wp2_with fail
    refine (HM.out _).mono ?_
    rintro e w2 ⟨rfl, rfl⟩
    go_wp2_with fail
    refine HT.out.mono ?_
    rintro e w2 ⟨rfl, rfl⟩
    go_wp2_with fail
    go_ret
    exact ⟨rfl, HB1.out⟩
  · have d1 : decide (l < 0) = false := decide_eq_false h1
    have d2 : decide (r < 0) = false := decide_eq_false h2
    go_enter Tryz.func4, Tryz.ntmps4
    go_wp2_with fail
    refine (HZ.out _).mono ?_
    rintro e w1 ⟨⟨k, i, n, m, rfl, hT⟩, hb1⟩
    have HB1 := Lib.hid hb1
    have HT := Lib.hid hT
    clear hb1 hT
    go_wp2_with fail
    refine (HL.out _).mono ?_
    rintro e w2 ⟨rfl, rfl⟩
    go_wp2_with fail
    refine (HR.out _).mono ?_
    rintro e w2 ⟨rfl, rfl⟩
    go_wp2_with fail
    refine (HM.out _).mono ?_
    rintro e w2 ⟨rfl, rfl⟩
    go_wp2_with fail
    refine HT.out.mono ?_
    rintro e w2 ⟨rfl, rfl⟩
    go_wp2_with fail
    go_ret
    exact ⟨rfl, HB1.out⟩
set_option maxRecDepth 100000 in
set_option maxHeartbeats 1600000 in
theorem law_other (l r P N : Int) (W : World) (hs : (l < 0 ∧ ¬ r < 0) ∨ (¬ l < 0 ∧ r < 0))
    (HZ0 : ∀ w, Calls Tryz.prog 10 #[.int .i64 l, .int .i64 r] w fun e w' => (∃ k i n m, e = .returned (.tuple #[.int .i64 k, .int .i64 i, .bool n, m]) ∧ Calls Tryz.prog 9 #[.int .i64 k, .int .i64 i, .bool n, m, .int .u64 (hi128 P), .int .u64 (lo128 P)] w' fun e w'' => e = .returned (.bool true) ∧ w' = w'') ∧ Below w.heap.size w w')
    (HL0 : ∀ w, Calls Tryz.prog 12 #[.int .i64 l] w fun e w' => e = .returned (.int .u64 (l.natAbs : Int)) ∧ w' = w)
    (HR0 : ∀ w, Calls Tryz.prog 12 #[.int .i64 r] w fun e w' => e = .returned (.int .u64 (r.natAbs : Int)) ∧ w' = w)
    (HM0 : ∀ w, Calls Tryz.prog 11 #[.int .u64 (l.natAbs : Int), .int .u64 (r.natAbs : Int)] w fun e w' => e = .returned (.tuple #[.int .u64 (hi128 N), .int .u64 (lo128 N)]) ∧ w' = w)
    (HN0 : ∀ w, Calls Tryz.prog 13 #[.int .u64 (hi128 N), .int .u64 (lo128 N)] w fun e w' => e = .returned (.tuple #[.int .u64 (hi128 P), .int .u64 (lo128 P)]) ∧ w = w') :
    Calls Tryz.prog 4 #[.int .i64 l, .int .i64 r] W fun e w' => e = .returned (.bool true) ∧ Below W.heap.size W w' := by
  have HZ := Lib.hid HZ0
  have HL := Lib.hid HL0
  have HR := Lib.hid HR0
  have HM := Lib.hid HM0
  have HN := Lib.hid HN0
  clear HN0 HZ0 HL0 HR0 HM0
  generalize hi128 P = hP at *
  generalize lo128 P = lP at *
  generalize hi128 N = hN at *
  generalize lo128 N = lN at *
  generalize l.natAbs = la at *
  generalize r.natAbs = ra at *
  rcases hs with ⟨h1, h2⟩ | ⟨h1, h2⟩
  · have d1 : decide (l < 0) = true := decide_eq_true h1
    have d2 : decide (r < 0) = false := decide_eq_false h2
    go_enter Tryz.func4, Tryz.ntmps4
    go_wp2_with fail
    refine (HZ.out _).mono ?_
    rintro e w1 ⟨⟨k, i, n, m, rfl, hT⟩, hb1⟩
    have HB1 := Lib.hid hb1
    have HT := Lib.hid hT
    clear hb1 hT
    go_wp2_with fail
    refine (HL.out _).mono ?_
    rintro e w2 ⟨rfl, rfl⟩
    go_wp2_with fail
    refine (HR.out _).mono ?_
    rintro e w2 ⟨rfl, rfl⟩
    go_wp2_with fail
    refine (HM.out _).mono ?_
    rintro e w2 ⟨rfl, rfl⟩
    go_wp2_with fail
    refine (HN.out _).mono ?_
    rintro e w2 ⟨rfl, rfl⟩
    go_wp2_with fail
    refine HT.out.mono ?_
    rintro e w2 ⟨rfl, rfl⟩
    go_wp2_with fail
    go_ret
    exact ⟨rfl, HB1.out⟩
  · have d1 : decide (l < 0) = false := decide_eq_false h1
    have d2 : decide (r < 0) = true := decide_eq_true h2
    go_enter Tryz.func4, Tryz.ntmps4
    go_wp2_with fail
    refine (HZ.out _).mono ?_
    rintro e w1 ⟨⟨k, i, n, m, rfl, hT⟩, hb1⟩
    have HB1 := Lib.hid hb1
    have HT := Lib.hid hT
    clear hb1 hT
    go_wp2_with fail
    refine (HL.out _).mono ?_
    rintro e w2 ⟨rfl, rfl⟩
    go_wp2_with fail
    refine (HR.out _).mono ?_
    rintro e w2 ⟨rfl, rfl⟩
    go_wp2_with fail
    refine (HM.out _).mono ?_
    rintro e w2 ⟨rfl, rfl⟩
    go_wp2_with fail
    refine (HN.out _).mono ?_
    rintro e w2 ⟨rfl, rfl⟩
    go_wp2_with fail
    refine HT.out.mono ?_
    rintro e w2 ⟨rfl, rfl⟩
    go_wp2_with fail
    go_ret
    exact ⟨rfl, HB1.out⟩
theorem abs_prod (l r : Int) (hl0 : -9223372036854775808 ≤ l) (hl1 : l ≤ 9223372036854775807) (hr0 : -9223372036854775808 ≤ r) (hr1 : r ≤ 9223372036854775807) : l.natAbs * r.natAbs ≤ 85070591730234615865843651857942052864 := by
  have h := Nat.mul_le_mul (show l.natAbs ≤ 9223372036854775808 by omega) (show r.natAbs ≤ 9223372036854775808 by omega)
  omega
theorem walk_FnMulIntsExact (l r : Int) (W : World) (wl : (Lit.int .i64 l).wf = true) (wr : (Lit.int .i64 r).wf = true) (hD : Tabs W) :
    Calls Tryz.prog 4 #[.int .i64 l, .int .i64 r] W fun e w' => e = .returned (.bool true) ∧ Below W.heap.size W w' := by
  clear hD
  have bl := bounds_int wl
  have br := bounds_int wr
  clear wl wr
  have hab := abs_prod l r (by omega) (by omega) (by omega) (by omega)
  have hPa : (l * r).natAbs = l.natAbs * r.natAbs := Int.natAbs_mul l r
  have HZ : ∀ w, Calls Tryz.prog 10 #[.int .i64 l, .int .i64 r] w fun e w' => (∃ k i n m, e = .returned (.tuple #[.int .i64 k, .int .i64 i, .bool n, m]) ∧ Calls Tryz.prog 9 #[.int .i64 k, .int .i64 i, .bool n, m, .int .u64 (hi128 (l * r)), .int .u64 (lo128 (l * r))] w' fun e w'' => e = .returned (.bool true) ∧ w' = w'') ∧ Below w.heap.size w w' := by
    intro w
    by_cases ho : l * r < -9223372036854775808 ∨ 9223372036854775807 < l * r
    · refine (zzmul_big l r (by omega) (by omega) (by omega) (by omega) ho w).mono ?_
      rintro e w1 ⟨⟨G, L, rfl, rfl, hR⟩, hb⟩
      exact ⟨⟨_, _, _, _, rfl, matches_big (l * r) ho (by omega) (by omega) G _ w1 hR⟩, hb⟩
    · refine (zzmul_small l r (by omega) (by omega) (by omega) (by omega) (by omega) (by omega) w).mono ?_
      rintro e w1 ⟨rfl, hb⟩
      exact ⟨⟨_, _, _, _, rfl, matches_int (l * r) false _ (by omega) (by omega) w1⟩, hb⟩
  have HL := fun w => zzabs_any l (by omega) (by omega) w
  have HR := fun w => zzabs_any r (by omega) (by omega) w
  have HM := fun w => zzmul_any l.natAbs r.natAbs (by omega) (by omega) w
  obtain ⟨p1, p2⟩ := prod_words (l.natAbs * r.natAbs) (by omega)
  rw [p1, p2] at HM
  by_cases hs : (l < 0 ∧ r < 0) ∨ (¬ l < 0 ∧ ¬ r < 0)
  · have e := prod_same l r (by rcases hs with ⟨a, b⟩ | ⟨a, b⟩ <;> simp [a, b])
    rw [e] at HM
    exact law_same l r (l * r) W hs HZ HL HR HM
  · have hs' : (l < 0 ∧ ¬ r < 0) ∨ (¬ l < 0 ∧ r < 0) := by omega
    have e := prod_other l r (by rcases hs' with ⟨a, b⟩ | ⟨a, b⟩ <;> simp [a, b])
    have HN := fun w => neg128_any ((l.natAbs * r.natAbs : Nat) : Int) w
    rw [e] at HN
    exact law_other l r (l * r) _ W hs' HZ HL HR HM HN
end Go.Proofs.YtffiamchcadloaaGreatDoor
