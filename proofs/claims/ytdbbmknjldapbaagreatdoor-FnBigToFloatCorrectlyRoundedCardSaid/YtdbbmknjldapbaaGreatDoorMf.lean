/-
  The law's own model of a rounding (package n001_105, zzModel128): bits of a number of two words; what it computes. Plain, then walked.
-/
import Derived.Test.YtdbbmknjldapbaaGreatDoorRs
import Derived.Test.YtdbbmknjldapbaaGreatDoorUb
import Derived.Test.YtdbbmknjldapbaaGreatDoorUo
import Derived.Test.YtdbbmknjldapbaaGreatDoorDbl
import Derived.Laws.FloatArith
import Derived.Test.YtdbbmknjldapbaaGreatDoorAg
namespace Go.Proofs.YtdbbmknjldapbaaGreatDoor
set_option linter.unusedVariables false
set_option linter.unusedSimpArgs false
open Go.RowKit Go.Lib

theorem bit_split (Q k : Nat) : Q / 2 ^ k = 2 * (Q / 2 ^ (k + 1)) + Q / 2 ^ k % 2 := by
  rw [Nat.pow_succ, ← Nat.div_div_eq_div_mul]
  omega
theorem nev_bits (Q s : Nat) : nev Q (s + 1) = Q / 2 ^ (s + 1) + (if Q / 2 ^ s % 2 = 1 ∧ (Q % 2 ^ s ≠ 0 ∨ Q / 2 ^ (s + 1) % 2 = 1) then 1 else 0) := by
  unfold nev
  have h1 := Nat.mod_pow_succ (b := 2) (k := s) (x := Q)
  have hK := Nat.two_pow_pos s
  have hl := Nat.mod_lt Q hK
  rw [h1, Nat.pow_succ]
  generalize Q / (2 ^ s * 2) = m
  generalize hb : Q / 2 ^ s % 2 = b
  have hb2 : b < 2 := by rw [← hb]; exact Nat.mod_lt _ (by decide)
  generalize Q % 2 ^ s = l at *
  generalize 2 ^ s = K at *
  have hb3 : b = 0 ∨ b = 1 := by omega
  rcases hb3 with h | h
  · subst h
    rw [Nat.mul_zero, Nat.add_zero]
    rw [if_neg (by omega), if_neg (by omega)]
  · subst h
    rw [Nat.mul_one]
    congr 1
    by_cases hm : m % 2 = 1
    · rw [if_pos (by omega), if_pos ⟨rfl, Or.inr hm⟩]
    · by_cases h0 : l = 0
      · rw [if_neg (by omega), if_neg (by omega)]
      · rw [if_pos (by omega), if_pos ⟨rfl, Or.inl h0⟩]
/-- The rounded 53 bits, doubled as often as bits were left out. -/
theorem rung_model (Q s : Nat) (h0 : 2 ^ (s + 53) ≤ Q) (h1 : Q < 2 ^ (s + 54)) (hs : s ≤ 100) : rung (nev Q (s + 1)) + (s + 1) * 4503599627370496 = rung Q := by
  have hb := nev_bounds Q (s + 53) h0 h1 (by omega)
  have hr := rung_big Q (s + 53) h0 h1 (by omega)
  rw [show s + 53 - 52 = s + 1 by omega] at hb hr
  generalize nev Q (s + 1) = m at *
  by_cases hm : m = 9007199254740992
  · subst hm
    have e : rung 9007199254740992 = 4845873199050653696 := by
      have := rung_big 9007199254740992 53 (by decide) (by decide) (by decide)
      rw [show nev 9007199254740992 (53 - 52) = 4503599627370496 by decide] at this
      rw [this]
      decide
    rw [e]
    omega
  · have e := rung_small m 52 (by omega) (by omega) (by decide)
    rw [show 52 - 52 = 0 by decide, Nat.pow_zero, Nat.mul_one] at e
    rw [e]
    omega
/-- The number of two words. -/
theorem word_hi (hi lo j : Nat) (hl : lo < 18446744073709551616) : (hi * 18446744073709551616 + lo) / 2 ^ (64 + j) = hi / 2 ^ j := by
  rw [Nat.pow_add, ← Nat.div_div_eq_div_mul, show (2 : Nat) ^ 64 = 18446744073709551616 by decide]
  congr 1
  omega
theorem word_lo (hi lo k : Nat) (hk : k < 64) : (hi * 18446744073709551616 + lo) / 2 ^ k % 2 = lo / 2 ^ k % 2 := by
  have e : hi * 18446744073709551616 = hi * 2 ^ (63 - k) * 2 * 2 ^ k := by
    rw [Nat.mul_assoc, Nat.mul_assoc, ← Nat.pow_succ', ← Nat.pow_add, show 63 - k + (k + 1) = 64 by omega]
  rw [e, Nat.add_comm, Nat.add_mul_div_right _ _ (Nat.two_pow_pos k), Nat.add_mul_mod_self_right]
theorem low_lo (hi lo k : Nat) (hk : k ≤ 64) : (hi * 18446744073709551616 + lo) % 2 ^ k = lo % 2 ^ k := by
  have e : hi * 18446744073709551616 = hi * 2 ^ (64 - k) * 2 ^ k := by
    rw [Nat.mul_assoc, ← Nat.pow_add, show 64 - k + k = 64 by omega]
  rw [e, Nat.add_comm, Nat.add_mul_mod_self_right]
theorem low_hi (hi lo j : Nat) (hl : lo < 18446744073709551616) : (hi * 18446744073709551616 + lo) % 2 ^ (64 + j) = hi % 2 ^ j * 18446744073709551616 + lo := by
  rw [Nat.pow_add, Nat.mod_mul, show (2 : Nat) ^ 64 = 18446744073709551616 by decide]
  rw [show (hi * 18446744073709551616 + lo) % 18446744073709551616 = lo by omega, show (hi * 18446744073709551616 + lo) / 18446744073709551616 = hi by omega]
  omega
end Go.Proofs.YtdbbmknjldapbaaGreatDoor
/-
  The law's own model of a rounding (package n001_105): its bit readers, walked.
-/
namespace Go.Proofs.YtdbbmknjldapbaaGreatDoor
set_option linter.unusedVariables false
set_option linter.unusedSimpArgs false
open Go.RowKit Go.Lib

set_option maxRecDepth 100000 in
set_option maxHeartbeats 800000 in
theorem zbit_any (hi lo k v : Nat) (hh : hi < 18446744073709551616) (hl : lo < 18446744073709551616) (hk : k < 128) (hv : (hi * 18446744073709551616 + lo) / 2 ^ k % 2 = v) (w : World) :
    Calls Tryz.prog 11 #[.int .u64 (hi : Int), .int .u64 (lo : Int), .int .i64 (k : Int)] w fun e w' => e = .returned (.int .u64 (v : Int)) ∧ w' = w := by
  by_cases h64 : 64 ≤ k
  · obtain ⟨j, rfl⟩ : ∃ j, k = 64 + j := ⟨k - 64, by omega⟩
    rw [word_hi hi lo j hl] at hv
    obtain ⟨K, hK⟩ : ∃ K : Nat, 2 ^ j = K := ⟨_, rfl⟩
    have hKI : (2 : Int) ^ j = (K : Int) := by rw [← hK]; push_cast; rfl
    obtain ⟨t, ht⟩ : ∃ t, hi / 2 ^ j = t := ⟨_, rfl⟩
    rw [ht] at hv
    rw [hK] at ht
    have e1 : (hi : Int) / (K : Int) = (t : Int) := by rw [← ht]; push_cast; rfl
    have htl : t ≤ hi := by rw [← ht]; exact Nat.div_le_self _ _
    have e2 := and_one t (by omega)
    rw [hv] at e2
    have e3 : IntKind.u64.wrap (t : Int) = (t : Int) := by rw [IntKind.wrap_u64]; omega
    have g1 : (64 : Int) ≤ 64 + (j : Int) := by omega
    have g2 : 64 + (j : Int) - 64 = (j : Int) := by omega
    have g3 : (j : Int) < 64 := by omega
    have e4 : IntKind.u64.wrap (j : Int) = (j : Int) := by rw [IntKind.wrap_u64]; omega
    rw [Int.natCast_add, show ((64 : Nat) : Int) = 64 from rfl]
    clear hh hl hk hv h64 ht htl hK
    go_enter Tryz.func11, Tryz.ntmps11
    go_wp2_with fail
    go_ret
    exact ⟨rfl, rfl⟩
  · have hk2 : k < 64 := by omega
    rw [word_lo hi lo k hk2] at hv
    obtain ⟨K, hK⟩ : ∃ K : Nat, 2 ^ k = K := ⟨_, rfl⟩
    have hKI : (2 : Int) ^ k = (K : Int) := by rw [← hK]; push_cast; rfl
    obtain ⟨t, ht⟩ : ∃ t, lo / 2 ^ k = t := ⟨_, rfl⟩
    rw [ht] at hv
    rw [hK] at ht
    have e1 : (lo : Int) / (K : Int) = (t : Int) := by rw [← ht]; push_cast; rfl
    have htl : t ≤ lo := by rw [← ht]; exact Nat.div_le_self _ _
    have e2 := and_one t (by omega)
    rw [hv] at e2
    have e3 : IntKind.u64.wrap (t : Int) = (t : Int) := by rw [IntKind.wrap_u64]; omega
    have g1 : ¬ (64 : Int) ≤ (k : Int) := by omega
    have g3 : (k : Int) < 64 := by omega
    have e4 : IntKind.u64.wrap (k : Int) = (k : Int) := by rw [IntKind.wrap_u64]; omega
    clear hh hl hk hv h64 ht htl hK hk2
    go_enter Tryz.func11, Tryz.ntmps11
    go_wp2_with fail
    go_ret
    exact ⟨rfl, rfl⟩
/-- The bits under the p-th: are they not all zero? -/
def lowNz (Q p : Nat) : Bool := decide (Q % 2 ^ p ≠ 0)
theorem mask_pow (n K j : Nat) (hK : 2 ^ j = K) (hn : n < 18446744073709551616) (hj : j ≤ 63) : bits .and .u64 (n : Int) ((K : Int) - 1) = ((n % K : Nat) : Int) :=
  u64_mask n K j hK.symm hn (by rw [← hK]; exact Nat.le_trans (Nat.pow_le_pow_right (by decide) hj) (by decide))
set_option maxRecDepth 100000 in
set_option maxHeartbeats 800000 in
theorem zlow_any (hi lo p : Nat) (r : Bool) (hh : hi < 18446744073709551616) (hl : lo < 18446744073709551616) (hp : p < 128) (hr : lowNz (hi * 18446744073709551616 + lo) p = r) (w : World) :
    Calls Tryz.prog 12 #[.int .u64 (hi : Int), .int .u64 (lo : Int), .int .i64 (p : Int)] w fun e w' => e = .returned (.bool r) ∧ w' = w := by
  unfold lowNz at hr
  by_cases h0 : p = 0
  · subst h0
    rw [Nat.pow_zero, Nat.mod_one] at hr
    subst hr
    go_enter Tryz.func12, Tryz.ntmps12
    go_wp2_with fail
    go_ret
    exact ⟨rfl, rfl⟩
  by_cases h64 : 64 ≤ p
  · obtain ⟨j, rfl⟩ : ∃ j, p = 64 + j := ⟨p - 64, by omega⟩
    rw [low_hi hi lo j hl] at hr
    have g0 : ¬ 64 + (j : Int) ≤ 0 := by omega
    have g1 : (64 : Int) ≤ 64 + (j : Int) := by omega
    have g2 : 64 + (j : Int) - 64 = (j : Int) := by omega
    rw [Int.natCast_add, show ((64 : Nat) : Int) = 64 from rfl]
    by_cases hlo : lo = 0
    · subst hlo
      by_cases hj : j = 0
      · subst hj
        rw [Nat.pow_zero, Nat.mod_one] at hr
        subst hr
        clear g0 g1 g2
        go_enter Tryz.func12, Tryz.ntmps12
        go_wp2_with fail
        go_ret
        exact ⟨rfl, rfl⟩
      · obtain ⟨K, hK⟩ : ∃ K : Nat, 2 ^ j = K := ⟨_, rfl⟩
        have hKI : (2 : Int) ^ j = (K : Int) := by rw [← hK]; push_cast; rfl
        have e1 := mask_pow hi K j hK hh (by omega)
        have hK1 : 1 ≤ K := by rw [← hK]; exact Nat.two_pow_pos j
        have hK2 : K ≤ 9223372036854775808 := by rw [← hK]; exact Nat.pow_le_pow_right (n := 2) (by decide) (show j ≤ 63 by omega)
        have e2 : IntKind.u64.wrap (K : Int) = (K : Int) := by rw [IntKind.wrap_u64]; omega
        have e3 : IntKind.u64.wrap ((K : Int) - 1) = (K : Int) - 1 := by rw [IntKind.wrap_u64]; omega
        have e4 : IntKind.u64.wrap (j : Int) = (j : Int) := by rw [IntKind.wrap_u64]; omega
        have g3 : (j : Int) < 64 := by omega
        have g4 : ((j : Int) == 0) = false := by rw [beq_eq_false_iff_ne]; omega
        rw [hK] at hr
        obtain ⟨t, ht⟩ : ∃ t, hi % K = t := ⟨_, rfl⟩
        rw [ht] at hr e1
        have e5 : ((t : Int) != 0) = r := by
          rw [← hr]
          by_cases h : t = 0
          · subst h; rfl
          · rw [decide_eq_true (by omega), bne_iff_ne]; omega
        clear hr hK1 hK2 ht hK hj h64 hp h0 hh hl
        go_enter Tryz.func12, Tryz.ntmps12
        go_wp2_with fail
        go_ret
        exact ⟨rfl, rfl⟩
    · have e1 : ((lo : Int) != 0) = true := by rw [bne_iff_ne]; omega
      rw [decide_eq_true (by omega)] at hr
      subst hr
      clear hlo h64 hp h0 hh hl g2
      go_enter Tryz.func12, Tryz.ntmps12
      go_wp2_with fail
      go_ret
      exact ⟨rfl, rfl⟩
  · rw [low_lo hi lo p (by omega)] at hr
    obtain ⟨K, hK⟩ : ∃ K : Nat, 2 ^ p = K := ⟨_, rfl⟩
    have hKI : (2 : Int) ^ p = (K : Int) := by rw [← hK]; push_cast; rfl
    have e1 := mask_pow lo K p hK hl (by omega)
    have hK1 : 1 ≤ K := by rw [← hK]; exact Nat.two_pow_pos p
    have hK2 : K ≤ 9223372036854775808 := by rw [← hK]; exact Nat.pow_le_pow_right (n := 2) (by decide) (show p ≤ 63 by omega)
    have e2 : IntKind.u64.wrap (K : Int) = (K : Int) := by rw [IntKind.wrap_u64]; omega
    have e3 : IntKind.u64.wrap ((K : Int) - 1) = (K : Int) - 1 := by rw [IntKind.wrap_u64]; omega
    have e4 : IntKind.u64.wrap (p : Int) = (p : Int) := by rw [IntKind.wrap_u64]; omega
    have g0 : ¬ (p : Int) ≤ 0 := by omega
    have g1 : ¬ (64 : Int) ≤ (p : Int) := by omega
    have g3 : (p : Int) < 64 := by omega
    rw [hK] at hr
    obtain ⟨t, ht⟩ : ∃ t, lo % K = t := ⟨_, rfl⟩
    rw [ht] at hr e1
    have e5 : ((t : Int) != 0) = r := by
      rw [← hr]
      by_cases h : t = 0
      · subst h; rfl
      · rw [decide_eq_true (by omega), bne_iff_ne]; omega
    clear hr hK1 hK2 ht hK h64 hp h0 hh hl
    go_enter Tryz.func12, Tryz.ntmps12
    go_wp2_with fail
    go_ret
    exact ⟨rfl, rfl⟩
end Go.Proofs.YtdbbmknjldapbaaGreatDoor
/-
  The law's own model of a rounding (package n001_105, zzModel128), walked.
-/
namespace Go.Proofs.YtdbbmknjldapbaaGreatDoor
set_option linter.unusedVariables false
set_option linter.unusedSimpArgs false
open Go.RowKit Go.Lib

theorem or_bit (m b : Nat) (hm : m < 9007199254740992) (hb : b < 2) : bits .or .u64 ((m : Int) * 2) (b : Int) = ((2 * m + b : Nat) : Int) := by
  have hb2 : b = 0 ∨ b = 1 := by omega
  rcases hb2 with h | h
  · subst h
    have := u64_or_nat (2 * m) 0 (by omega) (by decide)
    rw [Nat.or_zero] at this
    rw [show (m : Int) * 2 = ((2 * m : Nat) : Int) by omega]
    exact this
  · subst h
    have := or_one (2 * m) (by omega)
    rw [show (m : Int) * 2 = ((2 * m : Nat) : Int) by omega, show ((1 : Nat) : Int) = 1 from rfl, this]
    omega
set_option maxRecDepth 100000 in
set_option maxHeartbeats 800000 in
theorem model_small (lo : Nat) (hl : lo < 9007199254740992) (w : World) :
    Calls Tryz.prog 5 #[.int .u64 0, .int .u64 (lo : Int)] w fun e w' => e = .returned (.float .f64 (rung lo)) ∧ w' = w := by
  have h1 : (lo : Int) < 9007199254740992 := by omega
  have h2 := float_nat lo
  clear hl
  go_enter Tryz.func5, Tryz.ntmps5
  go_wp2_with fail
  go_ret
  exact ⟨rfl, rfl⟩
set_option maxRecDepth 100000 in
set_option maxHeartbeats 800000 in
theorem model_big (hi lo Q s : Nat) (hh : hi < 18446744073709551616) (hl : lo < 18446744073709551616) (hQ : hi * 18446744073709551616 + lo = Q) (h0 : 2 ^ (s + 53) ≤ Q) (h1 : Q < 2 ^ (s + 54)) (hs : s ≤ 74) (w : World) :
    Calls Tryz.prog 5 #[.int .u64 (hi : Int), .int .u64 (lo : Int)] w fun e w' => e = .returned (.float .f64 (rung Q)) ∧ ∃ k, w' = w.drewN k := by
  have HBit := Lib.hid (fun (k v : Nat) (hk : k < 128) (hv : Q / 2 ^ k % 2 = v) (w : World) => zbit_any hi lo k v hh hl hk (by rw [hQ]; exact hv) w)
  have HLow := Lib.hid (fun (p : Nat) (r : Bool) (hp : p < 128) (hr : lowNz Q p = r) (w : World) => zlow_any hi lo p r hh hl hp (by rw [hQ]; exact hr) w)
  have HA := Lib.hid h0
  have HB := Lib.hid h1
  have HS := Lib.hid hs
  have hbig : 9007199254740992 ≤ Q := Nat.le_trans (Nat.pow_le_pow_right (n := 2) (by decide) (show 53 ≤ s + 53 by omega)) h0
  have hcase : ((hi : Int) == 0) = false ∨ (((hi : Int) == 0) = true ∧ decide ((lo : Int) < 9007199254740992) = false) := by
    by_cases hz : hi = 0
    · exact Or.inr ⟨by rw [beq_iff_eq]; omega, decide_eq_false (by omega)⟩
    · exact Or.inl (by rw [beq_eq_false_iff_ne]; omega)
  have hsI : (s : Int) ≤ 74 := by omega
  clear h0 h1 hs hh hl hQ hbig
  have HC := Lib.hid hcase
  rcases hcase with hc | ⟨hc, hc2⟩
  all_goals
    go_enter Tryz.func5, Tryz.ntmps5
    go_wp2_with fail
    go_loopw [5] (fun vl wr => ∃ l : Nat, vl = .int .i64 (l : Int) ∧ Hid (s + 54 ≤ l ∧ l ≤ 128) ∧ w = wr) (fun vl _ => (RowKit.intOf vl).toNat)
    case atStart => exact ⟨128, rfl, Lib.hid (by have := HS.out; omega), rfl⟩
    case round =>
      obtain ⟨l, rfl, HLl, rfl⟩ := hrel
      obtain ⟨l', rfl⟩ : ∃ l', l = l' + 1 := ⟨l - 1, by have := HLl.out; omega⟩
      have hlI : (l' : Int) ≤ 127 := by have := HLl.out; omega
      rw [Int.natCast_add, Int.natCast_one]
      by_cases htop : l' = s + 53
      · have hv : Q / 2 ^ l' % 2 = 1 := by
          rw [htop]
          have h1 : Q / 2 ^ (s + 53) < 2 := (Nat.div_lt_iff_lt_mul (Nat.two_pow_pos _)).2 (by have := HB.out; rw [show s + 54 = (s + 53) + 1 by omega, Nat.pow_succ] at this; omega)
          have h2 : 1 ≤ Q / 2 ^ (s + 53) := (Nat.le_div_iff_mul_le (Nat.two_pow_pos _)).2 (by have := HA.out; omega)
          omega
        have HT := Lib.hid hv
        have HTop := Lib.hid htop
        have hsh : (l' : Int) + 1 - 53 = (s : Int) + 1 := by omega
        clear hv htop
        go_wp2_with fail
        refine (HBit.out l' 1 (by have := HLl.out; omega) HT.out _).mono ?_
        rintro e w1 ⟨rfl, rfl⟩
        go_wp2_with fail
        -- SECOND LOOP
        go_loopw [7, 8] (fun vm vi wx => ∃ n : Nat, vm = .int .u64 ((Q / 2 ^ (n + 1) : Nat) : Int) ∧ vi = .int .i64 (n : Int) ∧ Hid (s ≤ n ∧ n ≤ s + 53) ∧ w1 = wx) (fun _ vi _ => (RowKit.intOf vi).toNat)
        case atStart => exact ⟨l', by rw [Nat.div_eq_of_lt (by rw [HTop.out]; exact HB.out)]; rfl, by go_num, Lib.hid (by have := HTop.out; omega), rfl⟩
        case round =>
          obtain ⟨n, rfl, rfl, HN, rfl⟩ := hrel
          have hnI : (n : Int) ≤ 127 := by have := HN.out; have := HS.out; omega
          by_cases hns : n = s
          · have hns' := hns.symm
            subst hns'
            have g1 : ¬ (s : Int) + 1 ≤ (s : Int) := by omega
            obtain ⟨b, hbit⟩ : ∃ b, Q / 2 ^ s % 2 = b := ⟨_, rfl⟩
            obtain ⟨r, hlow⟩ : ∃ r, lowNz Q s = r := ⟨_, rfl⟩
            obtain ⟨m, hmq⟩ : ∃ m, Q / 2 ^ (s + 1) = m := ⟨_, rfl⟩
            have hnev := nev_bits Q s
            rw [hbit, hmq] at hnev
            have hlr : r = decide (Q % 2 ^ s ≠ 0) := hlow.symm
            have hb2 : b = 0 ∨ b = 1 := by have := Nat.mod_lt (Q / 2 ^ s) (show 0 < 2 by decide); omega
            have hbd := nev_bounds Q (s + 53) HA.out HB.out (by omega)
            rw [show s + 53 - 52 = s + 1 by omega] at hbd
            have hmM : m < 18446744073709551615 := by split at hnev <;> omega
            have HBI := Lib.hid (HBit.out s b (by have := HS.out; omega) hbit)
            have HLO := Lib.hid (HLow.out s r (by have := HS.out; omega) hlow)
            rw [hmq]
            have ha1 := and_one m (by omega)
            have hwm : IntKind.u64.wrap ((m : Int) + 1) = ((m + 1 : Nat) : Int) := by rw [IntKind.wrap_u64]; omega
            clear hbit hlow hmq hbd hmM hsh HN HTop HLl hlI hnI
            rcases hb2 with h | h
            · subst h
              rw [if_neg (by intro hx; exact absurd hx.1 (by decide)), Nat.add_zero] at hnev
              rw [show ((0 : Nat) : Int) = 0 from rfl] at HBI
              have hm : nev Q (s + 1) = m := hnev
              clear hnev hlr ha1 hwm
              go_wp2_with fail
              refine (HBI.out _).mono ?_
              rintro e w2 ⟨rfl, rfl⟩
              have HM := Lib.hid hm
              have hb := nev_bounds Q (s + 53) HA.out HB.out (by omega)
              rw [show s + 53 - 52 = s + 1 by omega, hm] at hb
              obtain ⟨F0, hF0⟩ : ∃ F0, rung m = F0 := ⟨_, rfl⟩
              have hfl : floatOfInt .f64 (m : Int) = F0 := by rw [← hF0]; exact float_nat m
              have hrm := rung_model Q s HA.out HB.out (by have := HS.out; omega)
              rw [hm, hF0] at hrm
              have hw := rung_within m (by omega) (by omega)
              rw [hF0] at hw
              have HW := Lib.hid hw
              have HRM := Lib.hid hrm
              clear hm hb hF0 hrm hw
              go_wp2_with fail
              go_loopw [9, 10] (fun vf vi wx => ∃ n : Nat, vf = .float .f64 (F0 + n * 4503599627370496) ∧ vi = .int .i64 (n : Int) ∧ Hid (n ≤ s + 1) ∧ w2 = wx) (fun _ vi _ => 200 - (RowKit.intOf vi).toNat)
              case atStart => exact ⟨0, by simp, rfl, Lib.hid (by omega), rfl⟩
              case round =>
                obtain ⟨n, rfl, rfl, HN, rfl⟩ := hrel
                have hnI : (n : Int) ≤ 75 := by have := HN.out; have := HS.out; omega
                by_cases hn : n < s + 1
                · have g1 : (n : Int) < (s : Int) + 1 := by omega
                  have hd := double_word (F0 + n * 4503599627370496) (by have := HW.out; omega) (by
                    have h1 := HRM.out
                    have h2 := rung_big_within Q (Nat.le_trans (Nat.le_trans (by decide) (Nat.pow_le_pow_right (n := 2) (by decide) (show 53 ≤ s + 53 by omega))) HA.out) (Nat.lt_trans HB.out (Nat.pow_lt_pow_right (by decide) (by have := HS.out; omega)))
                    have h3 : (n + 1) * 4503599627370496 ≤ (s + 1) * 4503599627370496 := Nat.mul_le_mul_right _ hn
                    omega)
                  have hrun : ∀ wx : World, (binOp .mul 23 (.float .f64 (F0 + n * 4503599627370496)) (.float .f64 4611686018427387904)).run Tryz.prog wx = .ok (.float .f64 (F0 + n * 4503599627370496 + 4503599627370496)) wx := fun wx => run_float_arith wx _ _ _ _ _ _ hd
                  have HNX := Lib.hid hn
                  clear hd hn
                  go_wp2_with fail
                  exact ⟨⟨n + 1, by rw [Nat.add_mul, Nat.one_mul, Nat.add_assoc], by go_num, Lib.hid (by have := HNX.out; omega), by first | rfl | trivial⟩, by simp [RowKit.intOf]; omega⟩
                · have hn1 : n = s + 1 := by have := HN.out; omega
                  have g1 : ¬ (n : Int) < (s : Int) + 1 := by omega
                  have hend : F0 + n * 4503599627370496 = rung Q := by rw [hn1]; exact HRM.out
                  rw [hend]
                  clear hend hn hn1
                  obtain ⟨RQ, hRQ⟩ : ∃ RQ, rung Q = RQ := ⟨_, rfl⟩
                  rw [hRQ]
                  have HRQ := Lib.hid hRQ
                  clear hRQ
                  go_wp2_with fail
                  go_ret
                  exact ⟨by rw [HRQ.out]; rfl, 0, rfl⟩
            · subst h
              rw [show ((1 : Nat) : Int) = 1 from rfl] at HBI
              cases r with
              | true =>
                have hq : Q % 2 ^ s ≠ 0 := of_decide_eq_true hlr.symm
                rw [if_pos ⟨rfl, Or.inl hq⟩] at hnev
                obtain ⟨mq, hmq⟩ : ∃ mq, m + 1 = mq := ⟨_, rfl⟩
                rw [hmq] at hnev hwm
                have hm : nev Q (s + 1) = mq := hnev
                clear hnev hlr ha1 hq hmq
                go_wp2_with fail
                refine (HBI.out _).mono ?_
                rintro e w2 ⟨rfl, rfl⟩
                go_wp2_with fail
                refine (HLO.out _).mono ?_
                rintro e w3 ⟨rfl, rfl⟩
                have HM := Lib.hid hm
                have hb := nev_bounds Q (s + 53) HA.out HB.out (by omega)
                rw [show s + 53 - 52 = s + 1 by omega, hm] at hb
                obtain ⟨F0, hF0⟩ : ∃ F0, rung mq = F0 := ⟨_, rfl⟩
                have hfl : floatOfInt .f64 (mq : Int) = F0 := by rw [← hF0]; exact float_nat mq
                have hrm := rung_model Q s HA.out HB.out (by have := HS.out; omega)
                rw [hm, hF0] at hrm
                have hw := rung_within mq (by omega) (by omega)
                rw [hF0] at hw
                have HW := Lib.hid hw
                have HRM := Lib.hid hrm
                clear hm hb hF0 hrm hw
                go_wp2_with fail
                go_loopw [9, 10] (fun vf vi wx => ∃ n : Nat, vf = .float .f64 (F0 + n * 4503599627370496) ∧ vi = .int .i64 (n : Int) ∧ Hid (n ≤ s + 1) ∧ w3 = wx) (fun _ vi _ => 200 - (RowKit.intOf vi).toNat)
                case atStart => exact ⟨0, by simp, rfl, Lib.hid (by omega), rfl⟩
                case round =>
                  obtain ⟨n, rfl, rfl, HN, rfl⟩ := hrel
                  have hnI : (n : Int) ≤ 75 := by have := HN.out; have := HS.out; omega
                  by_cases hn : n < s + 1
                  · have g1 : (n : Int) < (s : Int) + 1 := by omega
                    have hd := double_word (F0 + n * 4503599627370496) (by have := HW.out; omega) (by
                      have h1 := HRM.out
                      have h2 := rung_big_within Q (Nat.le_trans (Nat.le_trans (by decide) (Nat.pow_le_pow_right (n := 2) (by decide) (show 53 ≤ s + 53 by omega))) HA.out) (Nat.lt_trans HB.out (Nat.pow_lt_pow_right (by decide) (by have := HS.out; omega)))
                      have h3 : (n + 1) * 4503599627370496 ≤ (s + 1) * 4503599627370496 := Nat.mul_le_mul_right _ hn
                      omega)
                    have hrun : ∀ wx : World, (binOp .mul 23 (.float .f64 (F0 + n * 4503599627370496)) (.float .f64 4611686018427387904)).run Tryz.prog wx = .ok (.float .f64 (F0 + n * 4503599627370496 + 4503599627370496)) wx := fun wx => run_float_arith wx _ _ _ _ _ _ hd
                    have HNX := Lib.hid hn
                    clear hd hn
                    go_wp2_with fail
                    exact ⟨⟨n + 1, by rw [Nat.add_mul, Nat.one_mul, Nat.add_assoc], by go_num, Lib.hid (by have := HNX.out; omega), by first | rfl | trivial⟩, by simp [RowKit.intOf]; omega⟩
                  · have hn1 : n = s + 1 := by have := HN.out; omega
                    have g1 : ¬ (n : Int) < (s : Int) + 1 := by omega
                    have hend : F0 + n * 4503599627370496 = rung Q := by rw [hn1]; exact HRM.out
                    rw [hend]
                    clear hend hn hn1
                    obtain ⟨RQ, hRQ⟩ : ∃ RQ, rung Q = RQ := ⟨_, rfl⟩
                    rw [hRQ]
                    have HRQ := Lib.hid hRQ
                    clear hRQ
                    go_wp2_with fail
                    go_ret
                    exact ⟨by rw [HRQ.out]; rfl, 0, rfl⟩
              | false =>
                have hq : ¬ Q % 2 ^ s ≠ 0 := of_decide_eq_false hlr.symm
                by_cases hodd : m % 2 = 1
                · rw [if_pos ⟨rfl, Or.inr hodd⟩] at hnev
                  rw [hodd, show ((1 : Nat) : Int) = 1 from rfl] at ha1
                  obtain ⟨mq, hmq⟩ : ∃ mq, m + 1 = mq := ⟨_, rfl⟩
                  rw [hmq] at hnev hwm
                  have hm : nev Q (s + 1) = mq := hnev
                  clear hnev hlr hq hmq hodd
                  go_wp2_with fail
                  refine (HBI.out _).mono ?_
                  rintro e w2 ⟨rfl, rfl⟩
                  go_wp2_with fail
                  refine (HLO.out _).mono ?_
                  rintro e w3 ⟨rfl, rfl⟩
                  have HM := Lib.hid hm
                  have hb := nev_bounds Q (s + 53) HA.out HB.out (by omega)
                  rw [show s + 53 - 52 = s + 1 by omega, hm] at hb
                  obtain ⟨F0, hF0⟩ : ∃ F0, rung mq = F0 := ⟨_, rfl⟩
                  have hfl : floatOfInt .f64 (mq : Int) = F0 := by rw [← hF0]; exact float_nat mq
                  have hrm := rung_model Q s HA.out HB.out (by have := HS.out; omega)
                  rw [hm, hF0] at hrm
                  have hw := rung_within mq (by omega) (by omega)
                  rw [hF0] at hw
                  have HW := Lib.hid hw
                  have HRM := Lib.hid hrm
                  clear hm hb hF0 hrm hw
                  go_wp2_with fail
                  go_loopw [9, 10] (fun vf vi wx => ∃ n : Nat, vf = .float .f64 (F0 + n * 4503599627370496) ∧ vi = .int .i64 (n : Int) ∧ Hid (n ≤ s + 1) ∧ w3 = wx) (fun _ vi _ => 200 - (RowKit.intOf vi).toNat)
                  case atStart => exact ⟨0, by simp, rfl, Lib.hid (by omega), rfl⟩
                  case round =>
                    obtain ⟨n, rfl, rfl, HN, rfl⟩ := hrel
                    have hnI : (n : Int) ≤ 75 := by have := HN.out; have := HS.out; omega
                    by_cases hn : n < s + 1
                    · have g1 : (n : Int) < (s : Int) + 1 := by omega
                      have hd := double_word (F0 + n * 4503599627370496) (by have := HW.out; omega) (by
                        have h1 := HRM.out
                        have h2 := rung_big_within Q (Nat.le_trans (Nat.le_trans (by decide) (Nat.pow_le_pow_right (n := 2) (by decide) (show 53 ≤ s + 53 by omega))) HA.out) (Nat.lt_trans HB.out (Nat.pow_lt_pow_right (by decide) (by have := HS.out; omega)))
                        have h3 : (n + 1) * 4503599627370496 ≤ (s + 1) * 4503599627370496 := Nat.mul_le_mul_right _ hn
                        omega)
                      have hrun : ∀ wx : World, (binOp .mul 23 (.float .f64 (F0 + n * 4503599627370496)) (.float .f64 4611686018427387904)).run Tryz.prog wx = .ok (.float .f64 (F0 + n * 4503599627370496 + 4503599627370496)) wx := fun wx => run_float_arith wx _ _ _ _ _ _ hd
                      have HNX := Lib.hid hn
                      clear hd hn
                      go_wp2_with fail
                      exact ⟨⟨n + 1, by rw [Nat.add_mul, Nat.one_mul, Nat.add_assoc], by go_num, Lib.hid (by have := HNX.out; omega), by first | rfl | trivial⟩, by simp [RowKit.intOf]; omega⟩
                    · have hn1 : n = s + 1 := by have := HN.out; omega
                      have g1 : ¬ (n : Int) < (s : Int) + 1 := by omega
                      have hend : F0 + n * 4503599627370496 = rung Q := by rw [hn1]; exact HRM.out
                      rw [hend]
                      clear hend hn hn1
                      obtain ⟨RQ, hRQ⟩ : ∃ RQ, rung Q = RQ := ⟨_, rfl⟩
                      rw [hRQ]
                      have HRQ := Lib.hid hRQ
                      clear hRQ
                      go_wp2_with fail
                      go_ret
                      exact ⟨by rw [HRQ.out]; rfl, 0, rfl⟩
                · rw [if_neg (by rintro ⟨_, hx | hx⟩; exact hq hx; exact hodd hx), Nat.add_zero] at hnev
                  have h0 : m % 2 = 0 := by omega
                  rw [h0, show ((0 : Nat) : Int) = 0 from rfl] at ha1
                  have hm : nev Q (s + 1) = m := hnev
                  clear hnev hlr hq hodd h0 hwm
                  go_wp2_with fail
                  refine (HBI.out _).mono ?_
                  rintro e w2 ⟨rfl, rfl⟩
                  go_wp2_with fail
                  refine (HLO.out _).mono ?_
                  rintro e w3 ⟨rfl, rfl⟩
                  have HM := Lib.hid hm
                  have hb := nev_bounds Q (s + 53) HA.out HB.out (by omega)
                  rw [show s + 53 - 52 = s + 1 by omega, hm] at hb
                  obtain ⟨F0, hF0⟩ : ∃ F0, rung m = F0 := ⟨_, rfl⟩
                  have hfl : floatOfInt .f64 (m : Int) = F0 := by rw [← hF0]; exact float_nat m
                  have hrm := rung_model Q s HA.out HB.out (by have := HS.out; omega)
                  rw [hm, hF0] at hrm
                  have hw := rung_within m (by omega) (by omega)
                  rw [hF0] at hw
                  have HW := Lib.hid hw
                  have HRM := Lib.hid hrm
                  clear hm hb hF0 hrm hw
                  go_wp2_with fail
                  go_loopw [9, 10] (fun vf vi wx => ∃ n : Nat, vf = .float .f64 (F0 + n * 4503599627370496) ∧ vi = .int .i64 (n : Int) ∧ Hid (n ≤ s + 1) ∧ w3 = wx) (fun _ vi _ => 200 - (RowKit.intOf vi).toNat)
                  case atStart => exact ⟨0, by simp, rfl, Lib.hid (by omega), rfl⟩
                  case round =>
                    obtain ⟨n, rfl, rfl, HN, rfl⟩ := hrel
                    have hnI : (n : Int) ≤ 75 := by have := HN.out; have := HS.out; omega
                    by_cases hn : n < s + 1
                    · have g1 : (n : Int) < (s : Int) + 1 := by omega
                      have hd := double_word (F0 + n * 4503599627370496) (by have := HW.out; omega) (by
                        have h1 := HRM.out
                        have h2 := rung_big_within Q (Nat.le_trans (Nat.le_trans (by decide) (Nat.pow_le_pow_right (n := 2) (by decide) (show 53 ≤ s + 53 by omega))) HA.out) (Nat.lt_trans HB.out (Nat.pow_lt_pow_right (by decide) (by have := HS.out; omega)))
                        have h3 : (n + 1) * 4503599627370496 ≤ (s + 1) * 4503599627370496 := Nat.mul_le_mul_right _ hn
                        omega)
                      have hrun : ∀ wx : World, (binOp .mul 23 (.float .f64 (F0 + n * 4503599627370496)) (.float .f64 4611686018427387904)).run Tryz.prog wx = .ok (.float .f64 (F0 + n * 4503599627370496 + 4503599627370496)) wx := fun wx => run_float_arith wx _ _ _ _ _ _ hd
                      have HNX := Lib.hid hn
                      clear hd hn
                      go_wp2_with fail
                      exact ⟨⟨n + 1, by rw [Nat.add_mul, Nat.one_mul, Nat.add_assoc], by go_num, Lib.hid (by have := HNX.out; omega), by first | rfl | trivial⟩, by simp [RowKit.intOf]; omega⟩
                    · have hn1 : n = s + 1 := by have := HN.out; omega
                      have g1 : ¬ (n : Int) < (s : Int) + 1 := by omega
                      have hend : F0 + n * 4503599627370496 = rung Q := by rw [hn1]; exact HRM.out
                      rw [hend]
                      clear hend hn hn1
                      obtain ⟨RQ, hRQ⟩ : ∃ RQ, rung Q = RQ := ⟨_, rfl⟩
                      rw [hRQ]
                      have HRQ := Lib.hid hRQ
                      clear hRQ
                      go_wp2_with fail
                      go_ret
                      exact ⟨by rw [HRQ.out]; rfl, 0, rfl⟩
          · obtain ⟨n', rfl⟩ : ∃ n', n = n' + 1 := ⟨n - 1, by have := HN.out; omega⟩
            have g1 : (s : Int) ≤ (n' : Int) := by have := HN.out; omega
            rw [Int.natCast_add, Int.natCast_one]
            obtain ⟨m, hmq⟩ : ∃ m, Q / 2 ^ (n' + 1 + 1) = m := ⟨_, rfl⟩
            obtain ⟨b, hbit⟩ : ∃ b, Q / 2 ^ (n' + 1) % 2 = b := ⟨_, rfl⟩
            have hspl := bit_split Q (n' + 1)
            rw [hmq, hbit] at hspl
            have hml : Q / 2 ^ (n' + 1) < 9007199254740992 := by
              rw [Nat.div_lt_iff_lt_mul (Nat.two_pow_pos _), show 9007199254740992 = 2 ^ 53 by decide, ← Nat.pow_add]
              exact Nat.lt_of_lt_of_le HB.out (Nat.pow_le_pow_right (by decide) (by have := HN.out; omega))
            have hb2 : b < 2 := by rw [← hbit]; exact Nat.mod_lt _ (by decide)
            have hor := or_bit m b (by omega) hb2
            rw [← hspl] at hor
            have HBI := Lib.hid (HBit.out (n' + 1) b (by have := HN.out; have := HS.out; omega) hbit)
            rw [Int.natCast_add, Int.natCast_one] at HBI
            rw [hmq]
            have hw1 : IntKind.u64.wrap ((m : Int) * 2) = (m : Int) * 2 := by rw [IntKind.wrap_u64]; omega
            obtain ⟨v, hv⟩ : ∃ v, Q / 2 ^ (n' + 1) = v := ⟨_, rfl⟩
            rw [hv] at hor hml
            have hw2 : IntKind.u64.wrap (v : Int) = (v : Int) := by rw [IntKind.wrap_u64]; omega
            have HV := Lib.hid hv
            clear hmq hbit hspl hb2 hml hns hsh HTop HLl hlI hv
            go_wp2_with fail
            refine (HBI.out _).mono ?_
            rintro e w2 ⟨rfl, rfl⟩
            go_wp2_with fail
            exact ⟨⟨n', by rw [HV.out], by go_num, Lib.hid (by have := HN.out; omega), by first | rfl | trivial⟩, by simp [RowKit.intOf]⟩
      · have hv : Q / 2 ^ l' % 2 = 0 := by
          have h1 : Q / 2 ^ l' = 0 := Nat.div_eq_of_lt (Nat.lt_of_lt_of_le HB.out (Nat.pow_le_pow_right (by decide) (by have := HLl.out; omega)))
          rw [h1]
        have HT := Lib.hid hv
        have HTop := Lib.hid htop
        clear hv htop
        go_wp2_with fail
        refine (HBit.out l' 0 (by have := HLl.out; omega) HT.out _).mono ?_
        rintro e w1 ⟨rfl, rfl⟩
        go_wp2_with fail
        exact ⟨⟨l', rfl, Lib.hid (by have := HLl.out; have := HTop.out; omega), by first | rfl | trivial⟩, by simp [RowKit.intOf]⟩
end Go.Proofs.YtdbbmknjldapbaaGreatDoor
