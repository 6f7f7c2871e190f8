/-
  The library's decimal made a float (internal/strconv.floatBits), walked.
-/
import Derived.Test.YtdbbmknjldapbaaGreatDoorRj
import Derived.Test.YtdbbmknjldapbaaGreatDoorUw
import Derived.ScopeJumps
namespace Go.Proofs.YtdbbmknjldapbaaGreatDoor
set_option linter.unusedVariables false
set_option linter.unusedSimpArgs false
open Go.RowKit Go.Lib

/-- The library's steps of two for a number of so many digits. -/
def pw9 (i : Nat) : Nat := [1, 3, 6, 9, 13, 16, 19, 23, 26].getD i 27
theorem pw9_le (i : Nat) : 1 ≤ pw9 i ∧ pw9 i ≤ 27 ∧ 2 ^ pw9 i ≤ 10 ^ i ∨ i = 0 := by
  rcases (by omega : i = 0 ∨ i = 1 ∨ i = 2 ∨ i = 3 ∨ i = 4 ∨ i = 5 ∨ i = 6 ∨ i = 7 ∨ i = 8 ∨ 9 ≤ i) with rfl | rfl | rfl | rfl | rfl | rfl | rfl | rfl | rfl | h
  · exact Or.inr rfl
  all_goals try exact Or.inl (by decide)
  refine Or.inl ?_
  have e : pw9 i = 27 := by
    unfold pw9
    rw [List.getD_eq_getElem?_getD, List.getElem?_eq_none (by simp; omega)]
    rfl
  rw [e]
  exact ⟨by decide, by decide, Nat.le_trans (show 2 ^ 27 ≤ 10 ^ 9 by decide) (Nat.pow_le_pow_right (by decide) h)⟩
/-- The digits of 5^53. -/
def five53 : List UInt8 := [49, 49, 49, 48, 50, 50, 51, 48, 50, 52, 54, 50, 53, 49, 53, 54, 53, 52, 48, 52, 50, 51, 54, 51, 49, 54, 54, 56, 48, 57, 48, 56, 50, 48, 51, 49, 50, 53]
/-- What floatBits reads of the library's variables. -/
structure TabD (P L : Addr) (b : Nat) (T1 T53 : ByteArray) (w : World) : Prop where
  ps : w.cell? ⟨8, 0, none⟩ = some (.slice (some ⟨P.block, P.off, none⟩) 9 9)
  pw : ∀ i, i < 9 → w.cell? ⟨P.block, P.off + i, none⟩ = some (.int .i64 (pw9 i : Int))
  c1 : Cheat w L 1 1 [53] T1
  c53 : Cheat w L 53 16 five53 T53
  i0 : w.cell? ⟨5, 0, none⟩ = some (.int .u64 52)
  i1 : w.cell? ⟨5, 1, none⟩ = some (.int .u64 11)
  i2 : w.cell? ⟨5, 2, none⟩ = some (.int .i64 (-1023))
  ne : P.block ≠ b ∧ L.block ≠ b ∧ 8 ≠ b ∧ 16 ≠ b ∧ 5 ≠ b
theorem only_cell {b : Nat} {w w' : World} (h : Only (fun k => k = b) w w') {c o : Nat} (hc : c ≠ b) {v : Value} (hv : w.cell? ⟨c, o, none⟩ = some v) : w'.cell? ⟨c, o, none⟩ = some v := by
  rw [h.cell (p := ⟨c, o, none⟩) (lt_of_cell' hv) hc]
  exact hv
theorem Cheat.on {b : Nat} {L : Addr} {k dl : Nat} {S : List UInt8} {T : ByteArray} {w w' : World} (h : Cheat w L k dl S T) (ho : Only (fun k => k = b) w w') (h1 : L.block ≠ b) (h2 : 16 ≠ b) : Cheat w' L k dl S T :=
  ⟨only_cell ho h2 h.tab, only_cell ho h1 h.num, only_cell ho h1 h.str, h.size, h.at_, h.digs, h.len, h.last, h.five, h.cnt, h.lo, h.hi, h.pos, h.kk⟩
theorem TabD.on {P L : Addr} {b : Nat} {T1 T53 : ByteArray} {w w' : World} (h : TabD P L b T1 T53 w) (ho : Only (fun k => k = b) w w') : TabD P L b T1 T53 w' :=
  ⟨only_cell ho h.ne.2.2.1 h.ps, fun i hi => only_cell ho h.ne.1 (h.pw i hi), h.c1.on ho h.ne.2.1 h.ne.2.2.2.1, h.c53.on ho h.ne.2.1 h.ne.2.2.2.1, only_cell ho h.ne.2.2.2.2 h.i0, only_cell ho h.ne.2.2.2.2 h.i1, only_cell ho h.ne.2.2.2.2 h.i2, h.ne⟩
/-- How far the scaling can go. -/
theorem NumF.exp_lt {f : Nat → UInt8} {nd dp p e : Nat} (h : NumF f nd dp p e) (hp : p < 2 ^ 128) : e < 132 := by
  have h1 := h.above
  have h10 : 1 ≤ 10 ^ dp := Nat.pow_pos (by decide)
  have h2 : 2 ^ e * 1 ≤ 2 ^ e * 10 ^ dp := Nat.mul_le_mul_left _ h10
  have h3 : 2 ^ e < 2 ^ 132 := by omega
  exact (Nat.pow_lt_pow_iff_right (by decide)).1 h3
theorem NumF.dp_le {f g : Nat → UInt8} {nd dp nd' dp' p e k : Nat} (h : NumF f nd dp p e) (h' : NumF g nd' dp' p (e + k)) (hk : 1 ≤ k) : dp' ≤ dp := by
  have h1 := h.below
  have h2 := h'.above
  have hE := Nat.two_pow_pos e
  refine Decidable.byContradiction fun hgt => ?_
  have h3 : 10 * 10 ^ dp ≤ 10 ^ dp' := by rw [← Nat.pow_succ']; exact Nat.pow_le_pow_right (by decide) (by omega)
  have h4 : 2 * 2 ^ e ≤ 2 ^ (e + k) := by rw [← Nat.pow_succ']; exact Nat.pow_le_pow_right (by decide) (by omega)
  have h5 : 2 * 2 ^ e * (10 * 10 ^ dp) ≤ 2 ^ (e + k) * 10 ^ dp' := Nat.mul_le_mul h4 h3
  have h6 : 2 * 2 ^ e * (10 * 10 ^ dp) = 20 * (2 ^ e * 10 ^ dp) := by rw [Nat.mul_mul_mul_comm]
  omega
theorem VV_first (D : List UInt8) (hd : Digs D) (r : Nat) : VV D (r + 1) < (VV D 1 + 1) * 10 ^ r ∧ VV D 1 * 10 ^ r ≤ VV D (r + 1) := by
  induction r with
  | zero => simp
  | succ r ih =>
    have := dg_le D hd (r + 1)
    rw [VV_step, Nat.pow_succ, ← Nat.mul_assoc, ← Nat.mul_assoc]
    omega
theorem NumF.lead {f : Nat → UInt8} {nd p e : Nat} (h : NumF f nd 0 p e) : p * 10 < ((f 0).toNat - 48 + 1) * 2 ^ e ∧ ((f 0).toNat - 48) * 2 ^ e ≤ p * 10 := by
  obtain ⟨n, rfl⟩ : ∃ n, nd = n + 1 := ⟨nd - 1, by have := h.pos; omega⟩
  have h1 := VV_first (pre f (n + 1)) h.digs n
  have h2 := VVf_in f (n + 1) 0 (by omega)
  rw [VV_zero, Nat.zero_mul, Nat.zero_add] at h2
  rw [Nat.zero_add] at h2
  rw [h2, VV_all _ (n + 1) (by rw [pre_length]; exact Nat.le_refl _), pre_length, Nat.sub_self, Nat.pow_zero, Nat.mul_one] at h1
  have hv := h.val
  rw [Nat.pow_zero, Nat.mul_one, Nat.pow_succ'] at hv
  have hE := Nat.two_pow_pos e
  have hT := Nat.pow_pos (n := n) (show 0 < 10 by decide)
  generalize (f 0).toNat - 48 = y at *
  generalize valD (pre f (n + 1)) = V at *
  generalize 2 ^ e = E at *
  generalize 10 ^ n = T at *
  constructor
  · apply Nat.lt_of_mul_lt_mul_right (a := T)
    have h3 := (Nat.mul_lt_mul_right hE).2 h1.1
    rw [hv] at h3
    rw [Nat.mul_assoc p, Nat.mul_right_comm]
    exact h3
  · refine Nat.le_of_mul_le_mul_right (?_ : y * E * T ≤ p * 10 * T) hT
    have h3 := Nat.mul_le_mul_right E h1.2
    rw [hv] at h3
    rw [Nat.mul_assoc p, Nat.mul_right_comm]
    exact h3
theorem NumF.low {f : Nat → UInt8} {nd p e : Nat} (h : NumF f nd 0 p e) (h5 : (f 0).toNat < 53) : 2 * p < 2 ^ e := by
  have h1 := h.lead.1
  have h2 : ((f 0).toNat - 48 + 1) * 2 ^ e ≤ 5 * 2 ^ e := Nat.mul_le_mul_right _ (by omega)
  omega
theorem NumF.high {f : Nat → UInt8} {nd p e : Nat} (h : NumF f nd 0 p e) (h5 : 53 ≤ (f 0).toNat) : 2 ^ e ≤ 2 * p := by
  have h1 := h.lead.2
  have h2 : 5 * 2 ^ e ≤ ((f 0).toNat - 48) * 2 ^ e := Nat.mul_le_mul_right _ (by omega)
  omega
theorem NumF.zero {f : Nat → UInt8} {nd dp p e : Nat} (h : NumF f nd dp p (e - 1)) (he : 1 ≤ e) (hp : 2 * p < 2 ^ e) : dp = 0 := by
  have h1 := h.above
  obtain ⟨n, rfl⟩ : ∃ n, e = n + 1 := ⟨e - 1, by omega⟩
  rw [Nat.add_sub_cancel] at h1
  rw [Nat.pow_succ] at hp
  rcases Nat.eq_zero_or_pos dp with h0 | h0
  · exact h0
  · have h2 : 10 ^ 1 ≤ 10 ^ dp := Nat.pow_le_pow_right (by decide) h0
    have h3 := Nat.mul_le_mul_left (2 ^ n) h2
    omega
/-- What RoundedInteger gives is the nearest whole number. -/
theorem NumF.rndF_nev {f : Nat → UInt8} {nd p e : Nat} (h : NumF f nd 16 p e) (ht : (f (nd - 1)).toNat ≠ 48) : rndF f nd 16 = nev p e := by
  unfold rndF
  by_cases hlt : 16 < nd
  · rw [h.round hlt (by decide) ht]
    simp [hlt]
  · have hv := h.val
    have hV := VV_all (pre f nd) 16 (by rw [pre_length]; omega)
    rw [pre_length] at hV
    have h10 := Nat.pow_pos (n := nd) (show 0 < 10 by decide)
    have e1 : p = VV (pre f nd) 16 * 2 ^ e := by
      apply Nat.eq_of_mul_eq_mul_right h10
      rw [← hv, hV, show (10 : Nat) ^ 16 = 10 ^ (16 - nd) * 10 ^ nd by rw [← Nat.pow_add]; congr 1; omega]
      simp only [Nat.mul_assoc, Nat.mul_comm, Nat.mul_left_comm]
    have hE := Nat.two_pow_pos e
    have e2 : nev p e = VV (pre f nd) 16 := by
      rw [e1]
      unfold nev
      rw [Nat.mul_div_cancel _ hE, Nat.mul_mod_left]
      rw [if_neg (by omega), Nat.add_zero]
    rw [e2]
    simp [hlt]
theorem window {p e : Nat} (he : 54 ≤ e) (h1 : 2 ^ e ≤ 2 * p) (h2 : p < 2 ^ e * 10 ^ 0) : 2 ^ (e - 1) ≤ p ∧ p < 2 ^ (e - 1 + 1) := by
  obtain ⟨n, rfl⟩ : ∃ n, e = n + 1 := ⟨e - 1, by omega⟩
  rw [Nat.pow_zero, Nat.mul_one] at h2
  rw [Nat.add_sub_cancel]
  rw [Nat.pow_succ] at h1
  exact ⟨by omega, h2⟩
theorem NumF.sixteen {f : Nat → UInt8} {nd dp p e : Nat} (h : NumF f nd dp p (e - 53)) (he : 54 ≤ e) (h1 : 2 ^ e ≤ 2 * p) (h2 : p < 2 ^ e * 10 ^ 0) : dp = 16 := by
  have a := h.above
  have c := h.below
  obtain ⟨n, rfl⟩ : ∃ n, e = n + 53 := ⟨e - 53, by omega⟩
  rw [Nat.add_sub_cancel] at a c
  rw [Nat.pow_zero, Nat.mul_one] at h2
  rw [Nat.pow_add] at h1 h2
  have hE := Nat.two_pow_pos n
  generalize 2 ^ n = E at *
  have hlo : 16 ≤ dp := by
    refine Decidable.byContradiction fun hlt => ?_
    have h3 : 10 ^ dp ≤ 10 ^ 15 := Nat.pow_le_pow_right (by decide) (by omega)
    have h4 := Nat.mul_le_mul_left E h3
    omega
  have hhi : dp ≤ 16 := by
    refine Decidable.byContradiction fun hgt => ?_
    have h3 : 10 ^ 17 ≤ 10 ^ dp := Nat.pow_le_pow_right (by decide) (by omega)
    have h4 := Nat.mul_le_mul_left E h3
    omega
  omega
/-- What holds where the bits are put together. -/
structure OutJ (b p : Nat) (neg : Bool) (w : World) (x : Int) (m E : Nat) (w' : World) : Prop where
  exp : x + 1023 = (E : Int)
  lt : E < 2047
  lo : 4503599627370496 ≤ m
  hi : m < 9007199254740992
  rung : rung p = E * 4503599627370496 + (m - 4503599627370496)
  only : Only (fun k => k = b) w w'
  sgn : w'.cell? ⟨b, 802, none⟩ = some (.bool neg)
  i0 : w'.cell? ⟨5, 0, none⟩ = some (.int .u64 52)
  i1 : w'.cell? ⟨5, 1, none⟩ = some (.int .u64 11)
  i2 : w'.cell? ⟨5, 2, none⟩ = some (.int .i64 (-1023))
theorem and2047 (x : Int) (h0 : 0 ≤ x) (h1 : x < 2048) : bits .and .i64 x 2047 = x := by
  have h := bits_mask .i64 63 (by decide) (fun n h0 h1 => by rw [IntKind.wrap_i64]; omega) 11 (by decide) x h0 (by omega)
  have e : x % 2 ^ 11 = x := by omega
  rw [e] at h
  exact h
theorem and52 (m : Nat) (h0 : 4503599627370496 ≤ m) (h1 : m < 9007199254740992) : bits .and .u64 (m : Int) 4503599627370495 = ((m - 4503599627370496 : Nat) : Int) := by
  have h := u64_and_nat m 4503599627370495 (by omega) (by omega)
  have e : m &&& 4503599627370495 = m % 4503599627370496 := Nat.and_two_pow_sub_one_eq_mod m 52
  rw [e, show m % 4503599627370496 = m - 4503599627370496 by omega] at h
  exact h
theorem fb_bits (m e : Nat) (x : Int) (hx : x + 1023 = (e : Int)) (he : e < 2047) (h0 : 4503599627370496 ≤ m) (h1 : m < 9007199254740992) :
    bits .or .u64 (bits .and .u64 (m : Int) 4503599627370495) (IntKind.u64.wrap (IntKind.u64.wrap (bits .and .i64 (x + 1023) 2047) * 4503599627370496)) = ((e * 4503599627370496 + (m - 4503599627370496) : Nat) : Int) := by
  rw [and52 m h0 h1, hx, and2047 _ (by omega) (by omega)]
  have e1 : IntKind.u64.wrap (e : Int) = (e : Int) := by rw [IntKind.wrap_u64]; omega
  have e2 : IntKind.u64.wrap ((e : Int) * 4503599627370496) = ((e * 4503599627370496 : Nat) : Int) := by rw [IntKind.wrap_u64]; omega
  rw [e1, e2]
  have := pk_or 0 (m - 4503599627370496) e (Or.inl rfl) (by omega) (by omega)
  rw [Nat.zero_add, Nat.zero_add] at this
  exact this
theorem or_sign (r : Nat) (h : r < 9223372036854775808) : bits .or .u64 (r : Int) 9223372036854775808 = ((9223372036854775808 + r : Nat) : Int) := by
  have h1 := u64_or_nat r 9223372036854775808 (by omega) (by omega)
  rw [Nat.or_comm, nat_join 63 9223372036854775808 r (by decide) h] at h1
  exact h1
theorem rung_low {p e m : Nat} (h : rung p = min ((e - 1 + 1022) * 4503599627370496 + m) 9218868437227405312) (h0 : 54 ≤ e) (h1 : e < 132) (h2 : 4503599627370496 ≤ m) (h3 : m < 9007199254740992) : rung p = (e + 1022) * 4503599627370496 + (m - 4503599627370496) := by
  rw [h]
  omega
theorem rung_high {p e : Nat} (h : rung p = min ((e - 1 + 1022) * 4503599627370496 + 9007199254740992) 9218868437227405312) (h0 : 54 ≤ e) (h1 : e < 132) : rung p = (e + 1023) * 4503599627370496 + (4503599627370496 - 4503599627370496) := by
  rw [h]
  omega
/-- A scope that a goto leaves ahead, once: the part behind the label is walked where the goto stands. -/
theorem wp_scope_once {P : Program} {a : Act} {w : World} {Q : Exit → Act → World → Prop} {c rest : Code} (l : Nat) (hf : findLabel c l = some rest)
    (h : c.wp P (Exit.jump l (fun a w => rest.wp P (Exit.jump l (fun _ _ => False) Q) a w) Q) a w) : (Code.scope c).wp P Q a w :=
  wp_scope_jumps l _ (fun _ _ => 0) hf h (fun a w hJ => fun b k cs => by
    obtain ⟨e, a', w', q, r⟩ := hJ b k cs
    refine ⟨e, a', w', ?_, r⟩
    cases e with
    | goto l' => exact q.2.elim
    | normal => exact q
    | exit id => exact q
    | ret => exact q
    | panic ch => exact q
    | outgrown => exact q)
set_option maxRecDepth 100000 in
set_option maxHeartbeats 6400000 in
theorem float_bits (b : Nat) (P L : Addr) (nd dp p : Nat) (T1 T53 : ByteArray) (f : Nat → UInt8) (neg : Bool) (hn : nd ≤ 40) (hdp : dp ≤ 40) (hF : NumF f nd dp p 0) (hp1 : p < 2 ^ 128) (hp0 : 2 ^ 53 ≤ p) (w : World) (hT : TabD P L b T1 T53 w) (h : DcAt w w b f (nd : Int) (dp : Int) neg false) :
    Calls Tryz.prog 80 #[.pointer (some ⟨b, 0, none⟩), .pointer (some ⟨5, 0, none⟩)] w fun r w' => r = .returned (.tuple #[.int .u64 (((if neg then 9223372036854775808 else 0) + rung p : Nat) : Int), .bool false]) ∧ Only (fun k => k = b) w w' := by
  have H := Lib.hid h
  have HF := Lib.hid hF
  have HT := Lib.hid hT
  have HP1 := Lib.hid hp1
  have HP0 := Lib.hid hp0
  have c0 := h.cnt
  have c1 := h.pt
  have hnp := hF.pos
  have q0 : ((nd : Int) == 0) = false := by rw [beq_eq_false_iff_ne]; omega
  have q1 : ¬ (310 : Int) < (dp : Int) := by omega
  have q2 : ¬ (dp : Int) < -330 := by omega
  clear h hF hT hp1 hp0
  go_enter Tryz.func80, Tryz.ntmps80
  go_wp2_with fail
  refine wp_scope_once 0 rfl ?_
  go_wp2_with fail
  clear c0 c1 q0 q1 q2 hnp
  go_loopw [6] (fun ve wr => ∃ (e nd dp : Nat) (f : Nat → UInt8), ve = .int .i64 (e : Int) ∧ NumF f nd dp p e ∧ nd ≤ 40 + 2 * e ∧ dp ≤ 40 ∧ DcAt w wr b f (nd : Int) (dp : Int) neg false) (fun ve _ => 200 - (RowKit.intOf ve).toNat)
  case atStart => exact ⟨0, nd, dp, f, rfl, HF.out, by omega, by omega, H.out⟩
  case round =>
    obtain ⟨e, nd, dp, f, rfl, hF, hn, hdp, hD⟩ := hrel
    have HF := Lib.hid hF
    have HD := Lib.hid hD
    have he := hF.exp_lt HP1.out
    have HTr := Lib.hid (HT.out.on hD.only)
    have c1 := hD.pt
    have t1 := HTr.out.ps
    clear hF hD
    by_cases hdp0 : 0 < dp
    · have g1 : (0 : Int) < (dp : Int) := by omega
      have hk : 1 ≤ pw9 dp ∧ pw9 dp ≤ 27 ∧ 2 ^ pw9 dp ≤ 10 ^ dp := by
        rcases pw9_le dp with hh | hh
        · exact hh
        · omega
      have HS := Lib.hid (fun (wz : World) hz => shift_right b (pw9 dp) nd dp p e f neg hk.2.1 hk.1 (by omega) HF.out hk.2.2 (by omega) wz hz)
      have hpI : (pw9 dp : Int) ≤ 27 := by omega
      have hpI0 : (1 : Int) ≤ (pw9 dp : Int) := by omega
      have eI : (e : Int) < 200 := by omega
      by_cases h9 : 9 ≤ dp
      · have g2 : (9 : Int) ≤ (dp : Int) := by omega
        have e27 : pw9 dp = 27 := by
          unfold pw9
          rw [List.getD_eq_getElem?_getD, List.getElem?_eq_none (by simp; omega)]
          rfl
        rw [e27] at HS
        clear hk hpI hpI0 e27
        go_wp2_with fail
        go_quiet (fail)
        go_wp2_with fail
        refine (HS.out _ (HD.out.drewN nq).here).mono ?_
        rintro e1 w2 ⟨rfl, f', nd', dp', h1, h2, h3, h4⟩
        have HR := Lib.hid (show NumF f' nd' dp' p (e + 27) ∧ nd' ≤ 40 + 2 * (e + 27) ∧ dp' ≤ 40 ∧ DcAt w w2 b f' (nd' : Int) (dp' : Int) neg false from ⟨h2, by omega, Nat.le_trans (HF.out.dp_le h2 (by omega)) hdp, h4.from_ (HD.out.drewN nq).only⟩)
        clear h1 h2 h3 h4
        go_wp2_with fail
        go_roundw
        case rel => exact ⟨e + 27, nd', dp', f', by go_num, HR.out.1, HR.out.2.1, HR.out.2.2.1, HR.out.2.2.2⟩
        case measure => simp [RowKit.intOf]; omega
      · have g2 : ¬ (9 : Int) ≤ (dp : Int) := by omega
        have g3 : (dp : Int) < 9 := by omega
        have t2 := HTr.out.pw dp (by omega)
        obtain ⟨k, hkk⟩ : ∃ k, pw9 dp = k := ⟨_, rfl⟩
        rw [hkk] at HS t2 hk hpI hpI0
        clear hkk
        have hk1 := hk.1
        clear hk
        go_wp2_with fail
        go_quiet (fail)
        go_wp2_with fail
        go_quiet (fail)
        go_wp2_with fail
        refine (HS.out _ (HD.out.drewN _).here).mono ?_
        rintro e1 w2 ⟨rfl, f', nd', dp', h1, h2, h3, h4⟩
        have HR := Lib.hid (show NumF f' nd' dp' p (e + k) ∧ nd' ≤ 40 + 2 * (e + k) ∧ dp' ≤ 40 ∧ DcAt w w2 b f' (nd' : Int) (dp' : Int) neg false from ⟨h2, by omega, Nat.le_trans (HF.out.dp_le h2 (by omega)) hdp, h4.from_ (HD.out.drewN _).only⟩)
        clear h1 h2 h3 h4
        go_wp2_with fail
        go_roundw
        case rel => exact ⟨e + k, nd', dp', f', by go_num, HR.out.1, HR.out.2.1, HR.out.2.2.1, HR.out.2.2.2⟩
        case measure => simp [RowKit.intOf]; omega
    · obtain rfl : dp = 0 := by omega
      have g1 : ¬ ((0 : Nat) : Int) > 0 := by decide
      clear g1
      go_wp2_with fail
      clear c1 t1
      go_loopw [6] (fun ve wx => ∃ (e nd : Nat) (f : Nat → UInt8), ve = .int .i64 (e : Int) ∧ NumF f nd 0 p e ∧ nd + e ≤ 440 ∧ DcAt w wx b f (nd : Int) 0 neg false) (fun ve _ => (RowKit.intOf ve).toNat)
      case atStart => exact ⟨e, nd, f, rfl, HF.out, by omega, HD.out⟩
      case round =>
        obtain ⟨e, nd, f, rfl, hF, hne, hD⟩ := hrel
        have HF := Lib.hid hF
        have HD := Lib.hid hD
        have HTr := Lib.hid (HT.out.on hD.only)
        have c1 := hD.pt
        have c2 := hD.dig 0 (by omega)
        have t1 := HTr.out.ps
        have t2 := HTr.out.pw 0 (by omega)
        have he0 : 1 ≤ e := by
          have h1 := hF.below
          rcases Nat.eq_zero_or_pos e with e0 | e0
          · subst e0
            have := HP0.out
            omega
          · exact e0
        have heI : (e : Int) < 441 := by omega
        clear hF hD
        obtain ⟨c, hc⟩ : ∃ c, (f 0).toNat = c := ⟨_, rfl⟩
        rw [hc] at c2
        have HC := Lib.hid hc
        clear hc
        by_cases h5 : c < 53
        · have g5 : (c : Int) < 53 := by omega
          have HS := Lib.hid (fun (wz : World) (hw : Only (fun k => k = b) w wz) (hz : DcAt wz wz b f (nd : Int) ((0 : Nat) : Int) neg false) => shift_left b 1 nd 0 p e 1 L f neg [53] T1 (by omega) (by omega) HF.out he0 (by omega) wz HT.out.ne.2.1 HT.out.ne.2.2.2.1 (HT.out.on hw).c1 hz)
          rw [Nat.add_zero, show pw9 0 = 1 from rfl, Int.natCast_one] at t2
          simp only [Int.natCast_one, Int.natCast_zero] at HS
          have HL := Lib.hid (HF.out.low (by rw [HC.out]; exact h5))
          go_wp2_with fail
          go_quiet (fail)
          go_wp2_with fail
          go_quiet (fail)
          go_wp2_with fail
          refine (HS.out _ (HD.out.drewN _).only (HD.out.drewN _).here).mono ?_
          rintro e1 w2 ⟨rfl, f', nd', dp', h1, h2, h3, h4⟩
          obtain rfl : dp' = 0 := h2.zero he0 HL.out
          have HR := Lib.hid (show NumF f' nd' 0 p (e - 1) ∧ nd' + (e - 1) ≤ 440 ∧ DcAt w w2 b f' (nd' : Int) 0 neg false from ⟨h2, by omega, h4.from_ (HD.out.drewN _).only⟩)
          clear h1 h2 h3 h4
          have e9 : (e : Int) - 1 = ((e - 1 : Nat) : Int) := by omega
          go_wp2_with fail
          go_roundw
          case rel => exact ⟨e - 1, nd', f', rfl, HR.out.1, HR.out.2.1, HR.out.2.2⟩
          case measure => simp [RowKit.intOf]; omega
        · have g5 : ¬ (c : Int) < 53 := by omega
          have HL := Lib.hid (HF.out.high (by rw [HC.out]; omega))
          have HB := Lib.hid (HF.out.below)
          have i0 := HTr.out.i0
          have i1 := HTr.out.i1
          have i2 := HTr.out.i2
          have he54 : 54 ≤ e := by
            have h1 := HB.out
            have h2 := HP0.out
            rw [Nat.pow_zero, Nat.mul_one] at h1
            exact (Nat.pow_lt_pow_iff_right (a := 2) (by decide)).1 (Nat.lt_of_le_of_lt h2 h1)
          have he132 := HF.out.exp_lt HP1.out
          have g6 : ¬ (e : Int) - 1 < -1022 := by omega
          clear t1 t2 HTr
          have HS := Lib.hid (fun (wz : World) (hw : Only (fun k => k = b) w wz) (hz : DcAt wz wz b f (nd : Int) ((0 : Nat) : Int) neg false) => shift_left b 53 nd 0 p e 16 L f neg five53 T53 (by omega) (by omega) HF.out (by omega) (by omega) wz HT.out.ne.2.1 HT.out.ne.2.2.2.1 (HT.out.on hw).c53 hz)
          simp only [Int.natCast_zero] at HS
          rw [show ((53 : Nat) : Int) = 53 from rfl] at HS
          go_wp2_with fail
          go_quiet (fail)
          go_wp2_with fail
          refine (HS.out _ (HD.out.drewN _).only (HD.out.drewN _).here).mono ?_
          rintro e1 w2 ⟨rfl, f', nd', dp', h1, h2, h3, h4⟩
          have hD2 := h4.from_ (HD.out.drewN _).only
          obtain rfl : dp' = 16 := h2.sixteen he54 HL.out HB.out
          have HTw := Lib.hid (HT.out.on hD2.only)
          obtain ⟨wn0, wn1⟩ := window he54 HL.out HB.out
          have hbd := nev_bounds p (e - 1) wn0 wn1 (by omega)
          have hrg := rung_big p (e - 1) wn0 wn1 (by omega)
          have hrd := h2.rndF_nev h3
          rw [show e - 1 - 52 = e - 53 by omega] at hbd hrg
          have HRI := Lib.hid (fun (wz : World) hz => rounded_any b nd' 16 f' neg (by omega) h2.pos (by omega) (by omega) h2.dig wz hz)
          rw [hrd] at HRI
          have HD2 := Lib.hid hD2
          have i0 := HTw.out.i0
          have i1 := HTw.out.i1
          have i2 := HTw.out.i2
          clear h1 h2 h3 h4 hD2 hrd wn0 wn1
          obtain ⟨m, hm⟩ : ∃ m, nev p (e - 53) = m := ⟨_, rfl⟩
          rw [hm] at hbd hrg HRI
          have HM := Lib.hid hm
          have HBD := Lib.hid hbd
          have HRG := Lib.hid hrg
          clear hm hbd hrg
          go_wp2_with fail
          refine (HRI.out _ HD2.out.here).mono ?_
          rintro e2 w3 ⟨rfl, kk, rfl⟩
          by_cases hm53 : m = 9007199254740992
          · subst hm53
            have b2 : bits .and .u64 4503599627370496 4503599627370496 = 4503599627370496 := by decide
            go_wp2_with fail
            go_quiet (fail)
            go_wp2_with fail
            go_step3
            refine ⟨rfl, ?_⟩
            have hJ : OutJ b p neg w (e : Int) 4503599627370496 (e + 1023) (w2.drewN (kk + nq)) := ⟨by omega, by omega, by omega, by omega, rung_high HRG.out he54 he132, (HD2.out.drewN (kk + nq)).only, (HD2.out.drewN (kk + nq)).sgn, i0, i1, i2⟩
            have sg := hJ.sgn
            have j0 := hJ.i0
            have j1 := hJ.i1
            have j2 := hJ.i2
            have HJ := Lib.hid hJ
            clear hJ c1 c2 h5 g5 g6 i0 i1 i2
            generalize w2.drewN (kk + nq) = w4 at *
            have HB1 := Lib.hid (fb_bits 4503599627370496 (e + 1023) (e : Int) HJ.out.exp HJ.out.lt HJ.out.lo HJ.out.hi)
            rw [← HJ.out.rung] at HB1
            rw [show ((4503599627370496 : Nat) : Int) = 4503599627370496 from rfl] at HB1
            have HB2 := Lib.hid (or_sign (rung p) (by rw [HJ.out.rung]; have := HJ.out.lt; have := HJ.out.hi; omega))
            cases neg
            · go_wp2_with fail
              go_quiet (fail)
              go_wp2_with fail
              rw [HB1.out]
              simp only [Exit.jump]
              exact bodyPost_ret (v := .tuple #[.int .u64 (rung p : Int), .bool false]) (by simp [results, Tryz.results80, go_sem]; try rfl) rfl ⟨by simp, HJ.out.only.drewN nq⟩
            · go_wp2_with fail
              go_quiet (fail)
              go_wp2_with fail
              go_quiet (fail)
              go_wp2_with fail
              rw [HB1.out, HB2.out]
              simp only [Exit.jump]
              exact bodyPost_ret (v := .tuple #[.int .u64 ((9223372036854775808 + rung p : Nat) : Int), .bool false]) (by simp [results, Tryz.results80, go_sem]; try rfl) rfl ⟨by simp, by first | exact HJ.out.only.drewN _ | exact (HJ.out.only.drewN _).drewN _⟩
          · have b1 : ((m : Int) == 9007199254740992) = false := by rw [beq_eq_false_iff_ne]; omega
            have hm1 : 4503599627370496 ≤ m ∧ m < 9007199254740992 := by have := HBD.out; omega
            have b2 := pk_bit 0 m (Or.inl rfl) hm1.1 hm1.2
            rw [Nat.zero_add] at b2
            clear hm53
            go_wp2_with fail
            go_step3
            refine ⟨rfl, ?_⟩
            have hJ : OutJ b p neg w ((e : Int) - 1) m (e + 1022) (w2.drewN kk) := ⟨by omega, by omega, hm1.1, hm1.2, rung_low HRG.out he54 he132 hm1.1 hm1.2, (HD2.out.drewN kk).only, (HD2.out.drewN kk).sgn, i0, i1, i2⟩
            have sg := hJ.sgn
            have j0 := hJ.i0
            have j1 := hJ.i1
            have j2 := hJ.i2
            have HJ := Lib.hid hJ
            clear hJ b1 b2 hm1 c1 c2 h5 g5 g6 i0 i1 i2
            generalize w2.drewN kk = w4 at *
            have HB1 := Lib.hid (fb_bits m (e + 1022) ((e : Int) - 1) HJ.out.exp HJ.out.lt HJ.out.lo HJ.out.hi)
            rw [← HJ.out.rung] at HB1
            have HB2 := Lib.hid (or_sign (rung p) (by rw [HJ.out.rung]; have := HJ.out.lt; have := HJ.out.hi; omega))
            cases neg
            · go_wp2_with fail
              go_quiet (fail)
              go_wp2_with fail
              rw [HB1.out]
              simp only [Exit.jump]
              exact bodyPost_ret (v := .tuple #[.int .u64 (rung p : Int), .bool false]) (by simp [results, Tryz.results80, go_sem]; try rfl) rfl ⟨by simp, HJ.out.only.drewN nq⟩
            · go_wp2_with fail
              go_quiet (fail)
              go_wp2_with fail
              go_quiet (fail)
              go_wp2_with fail
              rw [HB1.out, HB2.out]
              simp only [Exit.jump]
              exact bodyPost_ret (v := .tuple #[.int .u64 ((9223372036854775808 + rung p : Nat) : Int), .bool false]) (by simp [results, Tryz.results80, go_sem]; try rfl) rfl ⟨by simp, by first | exact HJ.out.only.drewN _ | exact (HJ.out.only.drewN _).drewN _⟩
end Go.Proofs.YtdbbmknjldapbaaGreatDoor
