/-
  The walk of the law FnBigToFloatCorrectlyRounded.
-/
import Derived.Test.YtdbbmknjldapbaaGreatDoorZz
import Derived.Test.YtdbbmknjldapbaaGreatDoorMf
namespace Go.Proofs.YtdbbmknjldapbaaGreatDoor
set_option linter.unusedVariables false
set_option linter.unusedSimpArgs false
open Go.RowKit Go.Lib Go.Sort Ieee

theorem bounds_u64 {n : Int} (h : (Lit.int .u64 n).wf = true) : 0 ≤ n ∧ n ≤ 18446744073709551615 := by
  simpa [Lit.wf, IntKind.min, IntKind.max, IntKind.signed, IntKind.bits] using h
theorem zz_any (neg : Bool) (hi lo : Nat) (hh : hi < 18446744073709551616) (hl : lo < 18446744073709551616) (w : World) (hT : TabW w) :
    Calls Tryz.prog 4 #[.bool neg, .int .u64 (hi : Int), .int .u64 (lo : Int)] w fun e w' => e = .returned (.float .f64 (fw neg (hi * 18446744073709551616 + lo))) ∧ Below w.heap.size w w' := by
  obtain ⟨P, L, T1, T53, hq⟩ := hT.tq
  cases neg
  · exact zz_pos hi lo hh hl w hq hT.leaf
  · exact zz_neg hi lo hh hl w hq hT.leaf
/-- The law's model gives the nearest float. -/
theorem model_any (hi lo : Nat) (hh : hi < 18446744073709551616) (hl : lo < 18446744073709551616) (w : World) :
    Calls Tryz.prog 5 #[.int .u64 (hi : Int), .int .u64 (lo : Int)] w fun e w' => e = .returned (.float .f64 (rung (hi * 18446744073709551616 + lo))) ∧ ∃ k, w' = w.drewN k := by
  by_cases hs : hi * 18446744073709551616 + lo < 9007199254740992
  · obtain rfl : hi = 0 := by omega
    rw [Nat.zero_mul, Nat.zero_add] at hs ⊢
    exact (model_small lo hs w).mono (fun e w' hx => ⟨hx.1, 0, hx.2⟩)
  · have hQ : hi * 18446744073709551616 + lo ≠ 0 := by omega
    obtain ⟨a, b⟩ := log2_lt _ hQ
    have l0 : 53 ≤ (hi * 18446744073709551616 + lo).log2 := (Nat.le_log2 hQ).2 (by omega)
    have l1 : (hi * 18446744073709551616 + lo).log2 < 128 := (Nat.log2_lt hQ).2 (by omega)
    obtain ⟨s, hs2⟩ : ∃ s, (hi * 18446744073709551616 + lo).log2 = s + 53 := ⟨(hi * 18446744073709551616 + lo).log2 - 53, by omega⟩
    rw [hs2] at a b l1
    exact model_big hi lo _ s hh hl rfl a b (by omega) w
theorem order_fw (neg : Bool) (Q : Nat) (hQ : Q < 340282366920938463463374607431768211456) :
    (FloatKind.f64.format.order (fw neg Q) (if neg then 9223372036854775808 + rung Q else rung Q) == some Ordering.eq) = true := by
  have hr0 : rung 0 = 0 := by rw [← float_nat 0]; rfl
  by_cases h0 : Q = 0
  · subst h0
    rw [hr0]
    cases neg <;> decide
  · unfold fw
    rw [if_neg h0]
    have hw : 4503599627370496 ≤ rung Q ∧ rung Q < 9218868437227405312 := by
      by_cases hs : Q < 18446744073709551616
      · exact rung_within Q (by omega) hs
      · exact rung_big_within Q (by omega) (by omega)
    have := order_word neg (rung Q) hw.1 hw.2
    have e : double.word neg (rung Q) = (if neg then 9223372036854775808 else 0) + rung Q := by
      unfold Format.word
      cases neg
      · rw [if_neg (by decide), if_neg (by decide)]; omega
      · rw [if_pos rfl, if_pos rfl, dbl_sign]
    rw [e] at this
    have e2 : (if neg then 9223372036854775808 + rung Q else rung Q) = (if neg then 9223372036854775808 else 0) + rung Q := by
      cases neg
      · rw [if_neg (by decide), if_neg (by decide)]; omega
      · rw [if_pos rfl, if_pos rfl]
    rw [e2]
    show (double.order _ _ == _) = true
    rw [this]
    rfl
theorem rung_lt (Q : Nat) (hQ : Q < 340282366920938463463374607431768211456) : rung Q < 2 ^ 63 := by
  by_cases h0 : Q = 0
  · subst h0
    rw [show rung 0 = 0 by rw [← float_nat 0]; rfl]
    decide
  · by_cases hs : Q < 18446744073709551616
    · have := rung_within Q (by omega) hs
      omega
    · have := rung_big_within Q (by omega) (by omega)
      omega
theorem neg_rung (Q : Nat) (hQ : Q < 340282366920938463463374607431768211456) : Go.Op.negFloat .f64 (rung Q) = 9223372036854775808 + rung Q := by
  have h := neg_word (rung Q) (rung_lt Q hQ)
  have e0 : double.word false (rung Q) = rung Q := word_false _
  have e1 : double.word true (rung Q) = 9223372036854775808 + rung Q := by unfold Format.word; rw [if_pos rfl, dbl_sign]
  rw [e0, e1] at h
  exact h
set_option maxRecDepth 100000 in
set_option maxHeartbeats 1600000 in
theorem walk_FnBigToFloatCorrectlyRounded (neg : Bool) (hi lo : Int) (W : World) (wh : (Lit.int .u64 hi).wf = true) (wl : (Lit.int .u64 lo).wf = true) (hD : TabW W) :
    Calls Tryz.prog 3 #[.bool neg, .int .u64 hi, .int .u64 lo] W fun e w' => e = .returned (.bool true) ∧ Below W.heap.size W w' := by
  obtain ⟨hh0, hh1⟩ := bounds_u64 wh
  obtain ⟨hl0, hl1⟩ := bounds_u64 wl
  obtain ⟨h, rfl⟩ := Int.eq_ofNat_of_zero_le hh0
  obtain ⟨l, rfl⟩ := Int.eq_ofNat_of_zero_le hl0
  have HZ := Lib.hid (zz_any neg h l (by omega) (by omega) W hD)
  have HM := Lib.hid (fun w => model_any h l (by omega) (by omega) w)
  have ho := order_fw neg (h * 18446744073709551616 + l) (by omega)
  have hn := neg_rung (h * 18446744073709551616 + l) (by omega)
  obtain ⟨F, hF⟩ : ∃ F, fw neg (h * 18446744073709551616 + l) = F := ⟨_, rfl⟩
  obtain ⟨R, hR⟩ : ∃ R, rung (h * 18446744073709551616 + l) = R := ⟨_, rfl⟩
  rw [hF] at HZ ho
  rw [hR] at HM ho hn
  clear hF hR wh wl hh0 hh1 hl0 hl1 hD
  cases neg
  · rw [if_neg (by decide)] at ho
    go_enter Tryz.func3, Tryz.ntmps3
    go_wp2_with fail
    refine HZ.out.mono ?_
    rintro e w1 ⟨rfl, hb1⟩
    have HB1 := Lib.hid hb1
    clear hb1
    go_wp2_with fail
    refine (HM.out _).mono ?_
    rintro e w2 ⟨rfl, k, rfl⟩
    go_wp2_with fail
    go_ret
    exact ⟨rfl, ⟨HB1.out.os, HB1.out.tape, HB1.out.output, HB1.out.size, HB1.out.block⟩⟩
  · rw [if_pos rfl] at ho
    obtain ⟨R', hR'⟩ : ∃ R', 9223372036854775808 + R = R' := ⟨_, rfl⟩
    rw [hR'] at hn ho
    have hu : ∀ w : World, (Op.unary .neg (.float .f64 R)).run Tryz.prog w = .ok (.float .f64 R') w := fun w => by rw [← hn]; rfl
    clear hR' hn
    go_enter Tryz.func3, Tryz.ntmps3
    go_wp2_with fail
    refine HZ.out.mono ?_
    rintro e w1 ⟨rfl, hb1⟩
    have HB1 := Lib.hid hb1
    clear hb1
    go_wp2_with fail
    refine (HM.out _).mono ?_
    rintro e w2 ⟨rfl, k, rfl⟩
    go_wp2_with fail
    go_ret
    exact ⟨rfl, ⟨HB1.out.os, HB1.out.tape, HB1.out.output, HB1.out.size, HB1.out.block⟩⟩
end Go.Proofs.YtdbbmknjldapbaaGreatDoor
