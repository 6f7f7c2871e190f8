/-
  The library's decimal rounded to a whole number (internal/strconv.shouldRoundUp, RoundedInteger), walked.
-/
import Derived.Test.YtdbbmknjldapbaaGreatDoorRi
namespace Go.Proofs.YtdbbmknjldapbaaGreatDoor
set_option linter.unusedVariables false
set_option linter.unusedSimpArgs false
open Go.RowKit Go.Lib

set_option maxRecDepth 100000 in
set_option maxHeartbeats 1600000 in
theorem up_any (b nd q : Nat) (f : Nat → UInt8) (dp : Int) (neg : Bool) (hn : nd ≤ 800) (hq : q < nd) (hq0 : 0 < q) (hd : ∀ i, i < nd → 48 ≤ (f i).toNat ∧ (f i).toNat ≤ 57) (w : World) (h : DcAt w w b f (nd : Int) dp neg false) :
    Calls Tryz.prog 129 #[.pointer (some ⟨b, 0, none⟩), .int .i64 (q : Int)] w fun r w' => r = .returned (.bool (upF f nd q)) ∧ ∃ k, w' = w.drewN k := by
  have c0 := h.cnt
  have cc := h.cut
  have c1 := h.dig q (by omega)
  have d1 := hd q hq
  have c2 := h.dig (q - 1) (by omega)
  have d2 := hd (q - 1) (by omega)
  unfold upF
  obtain ⟨i, rfl⟩ : ∃ i, q = i + 1 := ⟨q - 1, by omega⟩
  rw [Nat.add_sub_cancel] at c2 d2 ⊢
  obtain ⟨c, hc⟩ : ∃ c, (f (i + 1)).toNat = c := ⟨_, rfl⟩
  obtain ⟨y, hy⟩ : ∃ y, (f i).toNat = y := ⟨_, rfl⟩
  rw [hc] at c1 d1 ⊢
  rw [hy] at c2 d2 ⊢
  clear hc hy hd h
  have q1 : (0 : Int) ≤ (i : Int) + 1 := by omega
  have q2 : ¬ (nd : Int) ≤ (i : Int) + 1 := by omega
  have q3 : (i : Int) + 1 < 800 := by omega
  have q3' : (i : Int) < 800 := by omega
  have q4 : (0 : Int) < (i : Int) + 1 := by omega
  have q5 : (48 : Int) ≤ (y : Int) := by omega
  have q5' : (y : Int) ≤ 57 := by omega
  by_cases h5 : c = 53
  · have e1 : ((c : Int) == 53) = true := by rw [beq_iff_eq]; omega
    by_cases hl : i + 1 + 1 = nd
    · have e2 : ((i : Int) + 1 + 1 == (nd : Int)) = true := by rw [beq_iff_eq]; omega
      rw [if_pos ⟨h5, hl⟩]
      have e3 : decide ((y - 48) % 2 ≠ 0) = (((y : Int) - 48) % 2 != 0) := by
        rw [Bool.eq_iff_iff, decide_eq_true_eq, bne_iff_ne]
        omega
      rw [e3]
      clear h5 hl
      go_enter Tryz.func129, Tryz.ntmps129
      go_wp2_with fail
      go_ret
      exact ⟨rfl, 0, rfl⟩
    · have e2 : ((i : Int) + 1 + 1 == (nd : Int)) = false := by rw [beq_eq_false_iff_ne]; omega
      rw [if_neg (fun hh => hl hh.2)]
      have e3 : decide (53 ≤ c) = true := decide_eq_true (by omega)
      have e4 : (53 : Int) ≤ (c : Int) := by omega
      rw [e3]
      clear h5 hl e3
      go_enter Tryz.func129, Tryz.ntmps129
      go_wp2_with fail
      go_ret
      exact ⟨rfl, 0, rfl⟩
  · have e1 : ((c : Int) == 53) = false := by rw [beq_eq_false_iff_ne]; omega
    rw [if_neg (fun hh => h5 hh.1)]
    have e3 : decide (53 ≤ c) = decide ((53 : Int) ≤ (c : Int)) := by
      rw [Bool.eq_iff_iff, decide_eq_true_eq, decide_eq_true_eq]
      omega
    rw [e3]
    clear h5 e3
    go_enter Tryz.func129, Tryz.ntmps129
    go_wp2_with fail
    go_ret
    exact ⟨rfl, 0, rfl⟩
set_option maxRecDepth 100000 in
theorem up_none (b nd q : Nat) (f : Nat → UInt8) (dp : Int) (neg : Bool) (hq : nd ≤ q) (hq1 : q ≤ 1000) (w : World) (h : DcAt w w b f (nd : Int) dp neg false) :
    Calls Tryz.prog 129 #[.pointer (some ⟨b, 0, none⟩), .int .i64 (q : Int)] w fun r w' => r = .returned (.bool false) ∧ ∃ k, w' = w.drewN k := by
  have c0 := h.cnt
  clear h
  have q1 : (0 : Int) ≤ (q : Int) := by omega
  have q2 : (nd : Int) ≤ (q : Int) := by omega
  go_enter Tryz.func129, Tryz.ntmps129
  go_wp2_with fail
  go_ret
  exact ⟨rfl, 0, rfl⟩
theorem VV_lt (D : List UInt8) (hd : Digs D) (r : Nat) : VV D r < 10 ^ r := by
  induction r with
  | zero => rw [VV_zero]; decide
  | succ r ih =>
    have := dg_le D hd r
    rw [VV_step, Nat.pow_succ]
    omega
/-- What RoundedInteger gives. -/
def rndF (f : Nat → UInt8) (nd q : Nat) : Nat := VV (pre f nd) q + if q < nd ∧ upF f nd q = true then 1 else 0
set_option maxRecDepth 100000 in
set_option maxHeartbeats 1600000 in
theorem rounded_any (b nd q : Nat) (f : Nat → UInt8) (neg : Bool) (hn : nd ≤ 800) (hp : 0 < nd) (hq0 : 0 < q) (hq20 : q ≤ 18) (hd : ∀ i, i < nd → 48 ≤ (f i).toNat ∧ (f i).toNat ≤ 57) (w : World) (h : DcAt w w b f (nd : Int) (q : Int) neg false) :
    Calls Tryz.prog 112 #[.pointer (some ⟨b, 0, none⟩)] w fun r w' => r = .returned (.int .u64 (rndF f nd q : Int)) ∧ ∃ k, w' = w.drewN k := by
  have hdg : Digs (pre f nd) := fun x hx => by
    obtain ⟨i, hi, rfl⟩ := List.mem_iff_getElem.1 hx
    rw [pre_get]
    exact hd i (by rw [pre_length] at hi; exact hi)
  have HG := Lib.hid hdg
  have H := Lib.hid h
  have HD := Lib.hid hd
  have c0 := h.cnt
  have c1 := h.pt
  have q1 : ¬ (20 : Int) < (q : Int) := by omega
  obtain ⟨B, hB⟩ : ∃ B : Bool, rndF f nd q = VV (pre f nd) q + (if B = true then 1 else 0) ∧ Calls Tryz.prog 129 #[.pointer (some ⟨b, 0, none⟩), .int .i64 (q : Int)] w fun r w' => r = .returned (.bool B) ∧ ∃ k, w' = w.drewN k := by
    by_cases hlt : q < nd
    · exact ⟨upF f nd q, by unfold rndF; simp [hlt], up_any b nd q f _ neg hn hlt hq0 hd w h⟩
    · exact ⟨false, by unfold rndF; simp [hlt], up_none b nd q f _ neg (by omega) (by omega) w h⟩
  have HBB := Lib.hid hB.1
  have HU := Lib.hid hB.2
  clear h hd hdg hB
  go_enter Tryz.func112, Tryz.ntmps112
  go_wp2_with fail
  go_loopw [3, 4] (fun vi vn wx => ∃ i : Nat, vi = .int .i64 (i : Int) ∧ vn = .int .u64 (VV (pre f nd) i : Int) ∧ i ≤ q ∧ i ≤ nd ∧ w = wx) (fun vi _ _ => q + 1 - (RowKit.intOf vi).toNat)
  case atStart => exact ⟨0, rfl, by rw [VV_zero]; rfl, by omega, by omega, rfl⟩
  case round =>
    obtain ⟨i, rfl, rfl, hi, hin, rfl⟩ := hrel
    by_cases hiq : i < q
    · have g1 : (i : Int) < (q : Int) := by omega
      by_cases hind : i < nd
      · have g2 : (i : Int) < (nd : Int) := by omega
        have hvl := VV_lt (pre f nd) HG.out i
        have hpj : 10 ^ i ≤ 1000000000000000000 := Nat.pow_le_pow_right (by decide) (show i ≤ 18 by omega)
        have hst := VVf_in f nd i hind
        have d1 := HD.out i hind
        have k1 := H.out.dig i (by omega)
        obtain ⟨c, hc⟩ : ∃ c, (f i).toNat = c := ⟨_, rfl⟩
        rw [hc] at d1 k1 hst
        obtain ⟨n, hn0⟩ : ∃ n, VV (pre f nd) i = n := ⟨_, rfl⟩
        rw [hn0] at hvl hst ⊢
        have w1 : IntKind.u64.wrap ((n : Int) * 10) = (n : Int) * 10 := by rw [IntKind.wrap_u64]; omega
        have w2 : IntKind.u64.wrap ((n : Int) * 10 + ((c : Int) - 48)) = (n : Int) * 10 + ((c : Int) - 48) := by rw [IntKind.wrap_u64]; omega
        have HX := Lib.hid (show (VV (pre f nd) (i + 1) : Int) = (n : Int) * 10 + ((c : Int) - 48) by omega)
        have g3 : (48 : Int) ≤ (c : Int) := by omega
        have g4 : (c : Int) ≤ 57 := by omega
        have g5 : (i : Int) < 800 := by omega
        clear hvl hpj hst hn0 hc
        go_wp2_with fail
        go_roundw
        case rel => exact ⟨i + 1, by go_num, congrArg (Value.int .u64) HX.out.symm, by omega, by omega, trivial⟩
        case measure => simp [RowKit.intOf]; omega
      · have g2 : ¬ (i : Int) < (nd : Int) := by omega
        go_wp2_with fail
        go_loopw [3, 4] (fun vi vn wx => ∃ j : Nat, vi = .int .i64 (j : Int) ∧ vn = .int .u64 (VV (pre f nd) j : Int) ∧ j ≤ q ∧ i ≤ j ∧ w = wx) (fun vi _ _ => q + 1 - (RowKit.intOf vi).toNat)
        case atStart => exact ⟨i, rfl, rfl, hi, Nat.le_refl _, rfl⟩
        case round =>
          obtain ⟨j, rfl, rfl, hj, hjq, rfl⟩ := hrel
          have hvl := VV_lt (pre f nd) HG.out j
          have hpj : 10 ^ j ≤ 1000000000000000000 := Nat.pow_le_pow_right (by decide) (show j ≤ 18 by omega)
          obtain ⟨n, hn0⟩ : ∃ n, VV (pre f nd) j = n := ⟨_, rfl⟩
          rw [hn0] at hvl ⊢
          have HN := Lib.hid hn0
          clear hn0
          by_cases hjlt : j < q
          · have g1 : (j : Int) < (q : Int) := by omega
            have w1 : IntKind.u64.wrap ((n : Int) * 10) = (n : Int) * 10 := by rw [IntKind.wrap_u64]; omega
            have g2 : (j : Int) < 100 := by omega
            clear hvl hpj
            go_wp2_with fail
            go_roundw
            case rel => exact ⟨j + 1, by go_num, by rw [VVf_out f nd j (by omega), HN.out]; go_num, by omega, by omega, trivial⟩
            case measure => simp [RowKit.intOf]; omega
          · obtain rfl : j = q := by omega
            have g1 : ¬ ((j : Nat) : Int) < (j : Int) := by omega
            have w1 : IntKind.u64.wrap ((n : Int) + 1) = (n : Int) + 1 := by rw [IntKind.wrap_u64]; omega
            clear hvl hpj
            go_wp2_with fail
            refine (HU.out).mono ?_
            rintro e1 w2 ⟨rfl, k, rfl⟩
            cases hB : B
            · have HR := Lib.hid (show rndF f nd j = n by rw [HBB.out, HN.out, hB]; rfl)
              clear hB
              go_wp2_with fail
              go_ret
              exact ⟨by rw [HR.out]; rfl, k, rfl⟩
            · have HR := Lib.hid (show rndF f nd j = n + 1 by rw [HBB.out, HN.out, hB]; rfl)
              clear hB
              go_wp2_with fail
              go_ret
              exact ⟨by rw [HR.out]; rfl, k, rfl⟩
    · have g1 : decide ((i : Int) < (q : Int)) = false := decide_eq_false (by omega)
      go_wp2_with fail
      go_loopw [3, 4] (fun vi vn wx => ∃ j : Nat, vi = .int .i64 (j : Int) ∧ vn = .int .u64 (VV (pre f nd) j : Int) ∧ j ≤ q ∧ i ≤ j ∧ w = wx) (fun vi _ _ => q + 1 - (RowKit.intOf vi).toNat)
      case atStart => exact ⟨i, rfl, rfl, hi, Nat.le_refl _, rfl⟩
      case round =>
        obtain ⟨j, rfl, rfl, hj, hjq, rfl⟩ := hrel
        have hvl := VV_lt (pre f nd) HG.out j
        have hpj : 10 ^ j ≤ 1000000000000000000 := Nat.pow_le_pow_right (by decide) (show j ≤ 18 by omega)
        obtain ⟨n, hn0⟩ : ∃ n, VV (pre f nd) j = n := ⟨_, rfl⟩
        rw [hn0] at hvl ⊢
        have HN := Lib.hid hn0
        clear hn0
        by_cases hjlt : j < q
        · exact absurd hjlt (by omega)
        · obtain rfl : j = q := by omega
          have g1 : ¬ ((j : Nat) : Int) < (j : Int) := by omega
          have w1 : IntKind.u64.wrap ((n : Int) + 1) = (n : Int) + 1 := by rw [IntKind.wrap_u64]; omega
          clear hvl hpj
          go_wp2_with fail
          refine (HU.out).mono ?_
          rintro e1 w2 ⟨rfl, k, rfl⟩
          cases hB : B
          · have HR := Lib.hid (show rndF f nd j = n by rw [HBB.out, HN.out, hB]; rfl)
            clear hB
            go_wp2_with fail
            go_ret
            exact ⟨by rw [HR.out]; rfl, k, rfl⟩
          · have HR := Lib.hid (show rndF f nd j = n + 1 by rw [HBB.out, HN.out, hB]; rfl)
            clear hB
            go_wp2_with fail
            go_ret
            exact ⟨by rw [HR.out]; rfl, k, rfl⟩
end Go.Proofs.YtdbbmknjldapbaaGreatDoor
