/-
  funcOpAdd at two ints whose sum is no int, walked.
-/
import Derived.Test.YtffiamchcadloaaGreatDoorBigA
import Derived.Test.YtffiamchcadloaaGreatDoorAddI
namespace Go.Proofs.YtffiamchcadloaaGreatDoor
set_option linter.unusedVariables false
set_option linter.unusedSimpArgs false
open Go.RowKit Go.Lib

theorem Big1.on {w w' : World} {b g c : Nat} {neg : Bool} {m : Nat} (h : Big1 w b g c neg m) (hb : Below w.heap.size w w') : Big1 w' b g c neg m := by
  obtain ⟨cur, h2⟩ := h.word
  exact ⟨(hb.block b (Array.getElem?_eq_some_iff.1 h.head).1).trans h.head, cur, (hb.block g (Array.getElem?_eq_some_iff.1 h2).1).trans h2⟩
set_option maxRecDepth 100000 in
set_option maxHeartbeats 1600000 in
theorem addc_big (l r V : Int) (hl0 : -9223372036854775808 ≤ l) (hl1 : l ≤ 9223372036854775807) (hr0 : -9223372036854775808 ≤ r) (hr1 : r ≤ 9223372036854775807) (hV : IntKind.i64.wrap (l + r) = V) (hc : (0 ≤ r ∧ 0 < l ∧ 0 < r ∧ V < l) ∨ (r < 0 ∧ l < 0 ∧ l ≤ V)) (w : World) :
    Calls Tryz.prog 30 #[.int .i64 l, .int .i64 r] w fun e w' => (∃ b, e = .returned (.iface 49 (.pointer (some ⟨b, 0, none⟩))) ∧ BigAt w' b (decide (l < 0)) (l.natAbs + r.natAbs)) ∧ Below w.heap.size w w' := by
  have HL := Lib.hid (fun w => newInt_any l (by omega) hl0 hl1 w)
  have HR := Lib.hid (fun w => newInt_any r (by omega) hr0 hr1 w)
  have hsg : decide (r < 0) = decide (l < 0) := by
    rcases hc with ⟨q1, q2, q3, q4⟩ | ⟨q1, q2, q3⟩
    · rw [decide_eq_false (by omega), decide_eq_false (by omega)]
    · rw [decide_eq_true q1, decide_eq_true q2]
  have HSG := Lib.hid hsg
  clear hsg
  rcases hc with ⟨q1, q2, q3, q4⟩ | ⟨q1, q2, q3⟩
  · have c1 : ¬ l ≤ V := by omega
    have c3 : ¬ r < 0 := by omega
    go_enter Tryz.func30, Tryz.ntmps30
    go_wp2_with fail
    refine (HL.out _).mono ?_
    rintro e w1 ⟨rfl, hX, hs1, hb1⟩
    have HX := Lib.hid hX
    have HS1 := Lib.hid hs1
    have HB1 := Lib.hid hb1
    clear hX hs1 hb1 HL
    go_wp2_with fail
    refine (HR.out _).mono ?_
    rintro e w2 ⟨rfl, hY, hs2, hb2⟩
    rw [HSG.out] at hY
    have HA := Lib.hid (bigAdd_any (w.heap.size + 1) w.heap.size (w1.heap.size + 1) w1.heap.size 1 1 (decide (l < 0)) l.natAbs r.natAbs (by omega) (by omega) (by omega) (Nat.le_refl _) (by omega) (Nat.le_refl _) w2 (HX.out.on hb2) hY)
    have HB2 := Lib.hid (HB1.out.trans (below_of hb2 HB1.out.size))
    clear hY hs2 hb2 HR
    go_wp2_with fail
    refine HA.out.mono ?_
    rintro e w3 ⟨rfl, hN, hb3⟩
    have HN := Lib.hid hN
    have HB3 := Lib.hid (HB2.out.trans (hb3.mono (by omega)))
    clear hN hb3 HA
    go_wp2_with fail
    go_ret
    exact ⟨⟨_, rfl, HN.out⟩, HB3.out⟩
  · have c1 : ¬ V < l := by omega
    go_enter Tryz.func30, Tryz.ntmps30
    go_wp2_with fail
    refine (HL.out _).mono ?_
    rintro e w1 ⟨rfl, hX, hs1, hb1⟩
    have HX := Lib.hid hX
    have HS1 := Lib.hid hs1
    have HB1 := Lib.hid hb1
    clear hX hs1 hb1 HL
    go_wp2_with fail
    refine (HR.out _).mono ?_
    rintro e w2 ⟨rfl, hY, hs2, hb2⟩
    rw [HSG.out] at hY
    have HA := Lib.hid (bigAdd_any (w.heap.size + 1) w.heap.size (w1.heap.size + 1) w1.heap.size 1 1 (decide (l < 0)) l.natAbs r.natAbs (by omega) (by omega) (by omega) (Nat.le_refl _) (by omega) (Nat.le_refl _) w2 (HX.out.on hb2) hY)
    have HB2 := Lib.hid (HB1.out.trans (below_of hb2 HB1.out.size))
    clear hY hs2 hb2 HR
    go_wp2_with fail
    refine HA.out.mono ?_
    rintro e w3 ⟨rfl, hN, hb3⟩
    have HN := Lib.hid hN
    have HB3 := Lib.hid (HB2.out.trans (hb3.mono (by omega)))
    clear hN hb3 HA
    go_wp2_with fail
    go_ret
    exact ⟨⟨_, rfl, HN.out⟩, HB3.out⟩

set_option maxRecDepth 100000 in
set_option maxHeartbeats 1600000 in
theorem add_big (l r : Int) (hl0 : -9223372036854775808 ≤ l) (hl1 : l ≤ 9223372036854775807) (hr0 : -9223372036854775808 ≤ r) (hr1 : r ≤ 9223372036854775807) (ho : l + r < -9223372036854775808 ∨ 9223372036854775807 < l + r) (w : World) :
    Calls Tryz.prog 22 #[.nilIface, .iface 3 (.int .i64 l), .iface 3 (.int .i64 r)] w fun e w' => (∃ b, e = .returned (.iface 49 (.pointer (some ⟨b, 0, none⟩))) ∧ BigAt w' b (decide (l + r < 0)) (l + r).natAbs) ∧ Below w.heap.size w w' := by
  have hd : decide (l + r < 0) = decide (l < 0) := by
    rcases ho with h | h
    · rw [decide_eq_true (by omega), decide_eq_true (by omega)]
    · rw [decide_eq_false (by omega), decide_eq_false (by omega)]
  have hn : (l + r).natAbs = l.natAbs + r.natAbs := by omega
  rw [hd, hn]
  clear hd hn
  have HC := Lib.hid (fun w => addc_big l r _ hl0 hl1 hr0 hr1 rfl (by rw [IntKind.wrap_i64]; omega) w)
  have as1 := asIntNumX
  have as2 := asIntIntX
  go_enter Tryz.func22, Tryz.ntmps22
  go_wp2_with (first
    | (go_at_call 30; refine (HC.out _).mono ?_; rintro e w1 ⟨⟨b, rfl, hN⟩, hb1⟩)
    | go_in)
  go_ret
  exact ⟨⟨_, rfl, hN⟩, by first | exact hb1 | exact below_of hb1 (by simp)⟩
end Go.Proofs.YtffiamchcadloaaGreatDoor
