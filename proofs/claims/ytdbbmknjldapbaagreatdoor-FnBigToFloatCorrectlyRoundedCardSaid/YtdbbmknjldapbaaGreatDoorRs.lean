/-
  The library's decimal divided by a power of two (internal/strconv.rightShift), walked.
-/
import Derived.Test.YtdbbmknjldapbaaGreatDoorDo
import Derived.Laws.BitsAllLaws
namespace Go.Proofs.YtdbbmknjldapbaaGreatDoor
set_option linter.unusedVariables false
set_option linter.unusedSimpArgs false
open Go.RowKit Go.Lib

/-- The digits f, nd of them, the point behind the dp-th, stand for p / 2^e. -/
structure NumF (f : Nat → UInt8) (nd dp p e : Nat) : Prop where
  pos : 0 < nd
  dig : ∀ i, i < nd → 48 ≤ (f i).toNat ∧ (f i).toNat ≤ 57
  head : (f 0).toNat ≠ 48
  val : valD (pre f nd) * 2 ^ e * 10 ^ dp = p * 10 ^ nd
theorem NumF.digs {f : Nat → UInt8} {nd dp p e : Nat} (h : NumF f nd dp p e) : Digs (pre f nd) := fun b hb => by
  obtain ⟨i, hi, rfl⟩ := List.mem_iff_getElem.1 hb
  rw [pre_get]
  exact h.dig i (by rw [pre_length] at hi; exact hi)
theorem NumF.ge {f : Nat → UInt8} {nd dp p e : Nat} (h : NumF f nd dp p e) (r : Nat) : 10 ^ r ≤ VV (pre f nd) (r + 1) :=
  VV_ge _ h.digs (by rw [pre_length]; exact h.pos) (by rw [pre_get]; exact h.head) r
theorem VVf_in (f : Nat → UInt8) (nd r : Nat) (h : r < nd) : VV (pre f nd) (r + 1) = VV (pre f nd) r * 10 + ((f r).toNat - 48) := by
  rw [VV_in _ r (by rw [pre_length]; exact h), pre_get]
theorem VVf_out (f : Nat → UInt8) (nd r : Nat) (h : nd ≤ r) : VV (pre f nd) (r + 1) = VV (pre f nd) r * 10 := VV_out _ r (by rw [pre_length]; exact h)
theorem u64_mask (n K k : Nat) (hK : K = 2 ^ k) (hn : n < 18446744073709551616) (hk : K ≤ 18446744073709551616) : bits .and .u64 (n : Int) ((K : Int) - 1) = ((n % K : Nat) : Int) := by
  have hp := Nat.two_pow_pos k
  have h := u64_and_nat n (K - 1) hn (by omega)
  subst hK
  rw [Nat.and_two_pow_sub_one_eq_mod] at h
  rw [show ((2 ^ k : Nat) : Int) - 1 = ((2 ^ k - 1 : Nat) : Int) by omega]
  exact h
theorem digit_of (q : Nat) (h : q ≤ 9) : ∃ c : UInt8, c.toNat = q + 48 := ⟨UInt8.ofNat (q + 48), by rw [UInt8.toNat_ofNat']; omega⟩
/-- What stands while digits are put down: w of them in g, behind the first R read. -/
structure Put (f : Nat → UInt8) (nd K R : Nat) (g : Nat → UInt8) (w n : Nat) : Prop where
  val : VV (pre f nd) (w + R) = valD (pre g w) * (10 * K) + n
  lt : n < 10 * K
  dig : ∀ i, i < w → 48 ≤ (g i).toNat ∧ (g i).toNat ≤ 57
  first : (w = 0 → K ≤ n) ∧ (0 < w → (g 0).toNat ≠ 48)
  rest : ∀ i, w + R ≤ i → i < nd → g i = f i
theorem Put.start {f : Nat → UInt8} {nd K R n : Nat} (h : VV (pre f nd) R = n) (h0 : K ≤ n) (h1 : n < 10 * K) : Put f nd K R f 0 n :=
  ⟨by rw [Nat.zero_add, h]; simp [pre, valD], h1, fun i hi => absurd hi (by omega), ⟨fun _ => h0, fun h => absurd h (by omega)⟩, fun i _ _ => rfl⟩
theorem Put.step {f : Nat → UInt8} {nd k K R : Nat} {g : Nat → UInt8} {w n : Nat} (h : Put f nd K R g w n) (hR : 1 ≤ R) (hK : K = 2 ^ k) (c : UInt8) (hc : c.toNat = n / K + 48) (x : Nat) (hx : x ≤ 9) (hv : VV (pre f nd) (w + R + 1) = VV (pre f nd) (w + R) * 10 + x) :
    Put f nd K R (fun i => if i = w then c else g i) (w + 1) (n % K * 10 + x) := by
  have hKp : 0 < K := by rw [hK]; exact Nat.two_pow_pos k
  have hq1 : K ≤ n → 1 ≤ n / K := fun h => (Nat.le_div_iff_mul_le hKp).2 (by omega)
  have hpre : pre (fun i => if i = w then c else g i) (w + 1) = pre g w ++ [c] := by
    rw [pre_succ, if_pos rfl, pre_congr _ g w (fun i hi => if_neg (by omega))]
  refine ⟨?_, ?_, fun i hi => ?_, ⟨fun h => absurd h (by omega), fun _ => ?_⟩, fun i h1 h2 => ?_⟩
  · rw [hpre, valD_append, valD_one, List.length_singleton, Nat.pow_one, hc, Nat.add_sub_cancel, show w + 1 + R = w + R + 1 by omega, hv]
    have hv0 := h.val
    subst hK
    exact rs_step _ _ _ _ _ hv0
  · have := Nat.mod_lt n hKp
    omega
  · have h9 : n / K ≤ 9 := by
      have := (Nat.div_lt_iff_lt_mul hKp).2 h.lt
      omega
    by_cases e : i = w
    · rw [if_pos e, hc]
      generalize n / K = q at *
      omega
    · rw [if_neg e]
      exact h.dig i (by omega)
  · by_cases e : 0 = w
    · rw [if_pos e, hc]
      have := hq1 (h.first.1 e.symm)
      generalize n / K = q at *
      omega
    · rw [if_neg e]
      exact h.first.2 (by omega)
  · rw [if_neg (by omega)]
    exact h.rest i (by omega) h2
theorem NumF.shifted {f g : Nat → UInt8} {nd dp p e k K R w m dp' : Nat} (h : NumF f nd dp p e) (hK : K = 2 ^ k) (hP : Put f nd K R g w 0) (hr : nd ≤ w + R) (hw : 0 < w) (hd : dp' + R = dp + 1) (hm : 0 < m) (hmw : m ≤ w) (hz : ∀ i, m ≤ i → i < w → (g i).toNat = 48) :
    NumF g m dp' p (e + k) := by
  refine ⟨hm, fun i hi => hP.dig i (by omega), hP.first.2 hw, ?_⟩
  have h1 := rs_val (pre f nd) (pre g w) dp dp' p e k (w + R) R (by rw [pre_length]; exact h.val) (by rw [pre_length]; exact hr) (by rw [hP.val, hK, Nat.add_zero]) (by rw [pre_length]) hd
  rw [trim_pre g w m hmw hz] at h1
  have h2 := trim_val _ _ _ _ _ h1
  rw [pre_length] at h2
  exact h2
theorem below_step {g : Nat → Nat} {r K : Nat} (h : ∀ j, j < r → g j < K) (h1 : g r < K) : ∀ j, j < r + 1 → g j < K := fun j hj => by
  rcases Nat.lt_or_ge j r with e | e
  · exact h j e
  · obtain rfl : j = r := by omega
    exact h1
theorem NumF.reach {f : Nat → UInt8} {nd dp p e K r : Nat} (h : NumF f nd dp p e) (hK : K ≤ 10 ^ dp) (hj : ∀ j, j < r → VV (pre f nd) j < K) : r ≤ dp + 1 := by
  refine Decidable.byContradiction fun hgt => ?_
  have h1 := hj (dp + 1) (by omega)
  have h2 := h.ge dp
  omega
set_option maxRecDepth 100000 in
set_option maxHeartbeats 6400000 in
theorem right_any (b k nd dp p e : Nat) (f : Nat → UInt8) (neg : Bool) (hk : k ≤ 27) (hk0 : 1 ≤ k) (hn : nd + k + 1 ≤ 800) (hF : NumF f nd dp p e) (hkd : 2 ^ k ≤ 10 ^ dp) (hdp : dp ≤ 1000) (w : World) (h : DcAt w w b f (nd : Int) (dp : Int) neg false) :
    Calls Tryz.prog 128 #[.pointer (some ⟨b, 0, none⟩), .int .u64 (k : Int)] w fun r w' => r = .returned (.tuple #[]) ∧ ∃ (f' : Nat → UInt8) (nd' dp' : Nat), nd' ≤ nd + k + 1 ∧ NumF f' nd' dp' p (e + k) ∧ (f' (nd' - 1)).toNat ≠ 48 ∧ DcAt w w' b f' (nd' : Int) (dp' : Int) neg false := by
  have H := Lib.hid h
  have HF := Lib.hid hF
  obtain ⟨K, hKe⟩ : ∃ K : Nat, K = 2 ^ k := ⟨_, rfl⟩
  have hK : (2 : Int) ^ k = (K : Int) := by rw [hKe]; push_cast; rfl
  have hK0 : 2 ≤ K := by rw [hKe]; exact Nat.le_trans (by decide) (Nat.pow_le_pow_right (by decide) hk0)
  have hK1 : K ≤ 134217728 := by rw [hKe]; exact Nat.pow_le_pow_right (by decide) hk
  have HD1 := Lib.hid (show K ≤ 10 ^ dp by rw [hKe]; exact hkd)
  have HK := Lib.hid hKe
  clear h hF hkd hKe
  have kI : (K : Int) ≤ 134217728 := by omega
  have kI0 : (2 : Int) ≤ (K : Int) := by omega
  have nI : (nd : Int) < 800 := by omega
  go_enter Tryz.func128, Tryz.ntmps128
  go_wp2_with fail
  go_loopw [4, 6] (fun vr vn wr => ∃ r : Nat, vr = .int .i64 (r : Int) ∧ vn = .int .u64 (VV (pre f nd) r : Int) ∧ r ≤ nd ∧ VV (pre f nd) r < 10 * K ∧ Hid (∀ j, j < r → VV (pre f nd) j < K) ∧ DcAt w wr b f (nd : Int) (dp : Int) neg false) (fun vr _ _ => nd + 1 - (RowKit.intOf vr).toNat)
  case atStart => exact ⟨0, rfl, by rw [VV_zero]; rfl, Nat.zero_le _, by rw [VV_zero]; omega, Lib.hid (fun j hj => absurd hj (by omega)), H.out⟩
  case round =>
    obtain ⟨r, rfl, rfl, hr, hlt, HJ, hD⟩ := hrel
    have HD := Lib.hid hD
    clear hD
    obtain ⟨n, hnv⟩ : ∃ n, VV (pre f nd) r = n := ⟨_, rfl⟩
    rw [hnv] at hlt ⊢
    have HNV := Lib.hid hnv
    clear hnv
    have c0 := HD.out.cnt
    have ln : (n : Int) < 1342177280 := by omega
    by_cases hnK : n < K
    · have q1 : ((n : Int) / (K : Int) == 0) = true := by
        rw [beq_iff_eq]
        exact Int.ediv_eq_zero_of_lt (by omega) (by omega)
      have ln2 : (n : Int) < 134217728 := by omega
      by_cases hrd : r < nd
      · have q2 : ¬ (nd : Int) ≤ (r : Int) := by omega
        have q3 : (r : Int) < 800 := by omega
        have c1 := HD.out.dig r (by omega)
        have d1 := HF.out.dig r hrd
        obtain ⟨c, hc⟩ : ∃ c, (f r).toNat = c := ⟨_, rfl⟩
        rw [hc] at c1 d1
        have HC := Lib.hid hc
        clear hc
        have q4 : (48 : Int) ≤ (c : Int) := by omega
        have q5 : (c : Int) ≤ 57 := by omega
        have q6 : (n : Int) * 10 + (c : Int) - 48 = ((n * 10 + (c - 48) : Nat) : Int) := by omega
        have HQ := Lib.hid q6
        clear q6
        go_wp2_with fail
        go_roundw
        case rel => exact ⟨r + 1, by go_num, by rw [VVf_in f nd r hrd, HNV.out, HC.out]; exact congrArg (Value.int .u64) HQ.out, by omega, by rw [VVf_in f nd r hrd, HNV.out, HC.out]; omega, Lib.hid (below_step HJ.out (by rw [HNV.out]; exact hnK)), HD.out⟩
        case measure => simp [RowKit.intOf]; omega
      · obtain rfl : r = nd := by omega
        have q2 : ((n : Int) == 0) = false := by
          have := HF.out.ge (r - 1)
          rw [show r - 1 + 1 = r by have := HF.out.pos; omega, HNV.out] at this
          have h10 := Nat.pow_pos (n := r - 1) (show 0 < 10 by decide)
          rw [beq_eq_false_iff_ne]
          omega
        have q3 : ¬ ((r : Nat) : Int) < (r : Int) := by omega
        rw [← HNV.out] at q1 q2 hlt hnK ln ln2 ⊢
        clear ln ln2
        go_wp2_with fail
        clear q1 q2 q3 c0
        go_loopw [4, 6] (fun vr vn wx => ∃ s : Nat, vr = .int .i64 (s : Int) ∧ vn = .int .u64 (VV (pre f r) s : Int) ∧ r ≤ s ∧ VV (pre f r) s < 10 * K ∧ Hid (∀ j, j < s → VV (pre f r) j < K) ∧ wr = wx) (fun vr _ _ => dp + 2 - (RowKit.intOf vr).toNat)
        case atStart => exact ⟨r, rfl, rfl, Nat.le_refl _, hlt, HJ, rfl⟩
        case round =>
          obtain ⟨s, rfl, rfl, hrs, hlt, HJ, rfl⟩ := hrel
          obtain ⟨n2, hnv2⟩ : ∃ n2, VV (pre f r) s = n2 := ⟨_, rfl⟩
          rw [hnv2] at hlt ⊢
          have HNV := Lib.hid hnv2
          clear hnv2
          have ln : (n2 : Int) < 1342177280 := by omega
          have hsd : s ≤ dp + 1 := HF.out.reach HD1.out HJ.out
          by_cases hnK : n2 < K
          · have q1 : ((n2 : Int) / (K : Int) == 0) = true := by
              rw [beq_iff_eq]
              exact Int.ediv_eq_zero_of_lt (by omega) (by omega)
            have w1 : IntKind.u64.wrap ((n2 : Int) * 10) = (n2 : Int) * 10 := by rw [IntKind.wrap_u64]; omega
            have sI : (s : Int) < 1003 := by omega
            clear ln
            go_wp2_with fail
            go_roundw
            case rel => exact ⟨s + 1, by go_num, by rw [VVf_out f r s hrs, HNV.out]; go_num, by omega, by rw [VVf_out f r s hrs, HNV.out]; omega, Lib.hid (below_step HJ.out (by rw [HNV.out]; exact hnK)), trivial⟩
            case measure => simp [RowKit.intOf]; omega
          · have q1 : ((n2 : Int) / (K : Int) == 0) = false := by
              rw [beq_eq_false_iff_ne]
              rw [← Int.natCast_ediv]
              have := (Nat.le_div_iff_mul_le (show 0 < K by omega)).2 (show 1 * K ≤ n2 by omega)
              generalize n2 / K = q at *
              omega
            have hR1 : 1 ≤ s := by
              rcases Nat.eq_zero_or_pos s with e0 | e0
              · have z := HNV.out
                rw [e0, VV_zero] at z
                omega
              · exact e0
            have hRd : s ≤ dp + 1 := HF.out.reach HD1.out HJ.out
            have cp := HD.out.pt
            have fp := HD.out.free 801
            have d1 : (dp : Int) < 1001 := by omega
            have d2 : (s : Int) < 1003 := by omega
            have d3 : (1 : Int) ≤ (s : Int) := by omega
            have hDp := HD.out.setPt ((dp : Int) - ((s : Int) - 1))
            obtain ⟨dp', hdp'⟩ : ∃ dp' : Nat, dp' + s = dp + 1 := ⟨dp + 1 - s, by omega⟩
            rw [show (dp : Int) - ((s : Int) - 1) = (dp' : Int) by omega] at hDp
            have hpe : (dp : Int) - ((s : Int) - 1) = (dp' : Int) := by omega
            have HDp := Lib.hid hDp
            have HPut := Lib.hid (Put.start HNV.out (Nat.not_lt.1 hnK) hlt)
            have HRd := Lib.hid hRd
            clear hDp hlt hnK hRd
            go_wp2_with fail
            clear q1 cp fp ln
            try clear c0
            generalize wr.setCell ⟨b, 801, none⟩ (.int .i64 (dp' : Int)) = wp at *
            go_loopw [4, 5, 6] (fun vr vw vn wx => ∃ (x n : Nat) (g : Nat → UInt8), vr = .int .i64 ((x + s : Nat) : Int) ∧ vw = .int .i64 (x : Int) ∧ vn = .int .u64 (n : Int) ∧ (x = 0 ∨ x + s ≤ r) ∧ Put f r K s g x n ∧ DcAt w wx b g (r : Int) (dp' : Int) neg false) (fun vr _ _ _ => r + 1 + s - (RowKit.intOf vr).toNat)
            case atStart => exact ⟨0, n2, f, by simp, rfl, rfl, Or.inl rfl, HPut.out, HDp.out⟩
            case round =>
              obtain ⟨x, n, g, rfl, rfl, rfl, hx, hP, hD⟩ := hrel
              have HP := Lib.hid hP
              have HD2 := Lib.hid hD
              clear hP hD
              have c0 := HD2.out.cnt
              have hnl := HP.out.lt
              have ln : (n : Int) < 1342177280 := by omega
              have hq : (n : Int) / (K : Int) = ((n / K : Nat) : Int) := (Int.natCast_ediv n K).symm
              have hqm : n % K < K := Nat.mod_lt n (by omega)
              have hq9 : n / K ≤ 9 := by
                have := (Nat.div_lt_iff_lt_mul (show 0 < K by omega)).2 hnl
                generalize n / K = q at *
                omega
              have hmask := u64_mask n K k HK.out (by omega) (by omega)
              obtain ⟨c', hc'⟩ := digit_of _ hq9
              obtain ⟨q, hqe⟩ : ∃ q, n / K = q := ⟨_, rfl⟩
              obtain ⟨m, hme⟩ : ∃ m, n % K = m := ⟨_, rfl⟩
              rw [hqe] at hq hc' hq9
              rw [hme] at hmask hqm
              have HQE := Lib.hid hqe
              have HME := Lib.hid hme
              clear hqe hme
              by_cases hxr : x + s < r
              · exact absurd hxr (by omega)
              · have q2 : ¬ (x : Int) + (s : Int) < (r : Int) := by omega
                clear hmask hq hq9 hqm hc' HQE HME
                go_wp2_with fail
                clear c0 ln hnl q2
                have HX0 := Lib.hid hx
                clear hx
                go_loopw [5, 6] (fun vw vn wx => ∃ (y n t : Nat) (g : Nat → UInt8), vw = .int .i64 (y : Int) ∧ vn = .int .u64 (n : Int) ∧ r ≤ y + s ∧ Put f r K s g y n ∧ 2 ^ t ∣ n ∧ t ≤ k + 1 ∧ (t = k + 1 → n = 0) ∧ y ≤ x + t ∧ DcAt w wx b g (r : Int) (dp' : Int) neg false) (fun vw _ _ => 900 - (RowKit.intOf vw).toNat)
                case atStart => exact ⟨x, n, 0, g, rfl, rfl, by omega, HP.out, ⟨n, by rw [Nat.pow_zero, Nat.one_mul]⟩, by omega, fun h => absurd h (by omega), by omega, HD2.out⟩
                case round =>
                  obtain ⟨y, n, t, g, rfl, rfl, hyr, hP, h2t, htk, htn, hyx, hD⟩ := hrel
                  have HP := Lib.hid hP
                  have HD2 := Lib.hid hD
                  have H2 := Lib.hid h2t
                  have HTN := Lib.hid htn
                  have hxn : x ≤ r := by have := HX0.out; omega
                  have hnl := HP.out.lt
                  have ln : (n : Int) < 1342177280 := by omega
                  clear hP hD h2t htn
                  by_cases hn0 : n = 0
                  · subst hn0
                    have hy0 : 0 < y := by
                      rcases Nat.eq_zero_or_pos y with e0 | e0
                      · have := HP.out.first.1 e0
                        omega
                      · exact e0
                    have HY := Lib.hid hy0
                    have c0 := HD2.out.cnt
                    have f0 := HD2.out.free 800
                    have hDz := HD2.out.setCnt (y : Int)
                    have HDz := Lib.hid hDz
                    have HT := Lib.hid (fun wz (hz : DcAt wz wz b g (y : Int) (dp' : Int) neg false) => trim_any b y g (dp' : Int) neg false (by omega) ⟨0, HY.out, HP.out.first.2 HY.out⟩ wz hz)
                    clear hDz
                    go_wp2_with fail
                    refine (HT.out _ HDz.out.here).mono ?_
                    rintro e1 w5 ⟨rfl, m', h1, h2, h3, h4, h5⟩
                    have HR := Lib.hid (show ∃ (f' : Nat → UInt8) (r' dp' : Nat), r' ≤ r + k + 1 ∧ NumF f' r' dp' p (e + k) ∧ (f' (r' - 1)).toNat ≠ 48 ∧ DcAt w w5 b f' (r' : Int) (dp' : Int) neg false from ⟨g, m', dp', by omega, HF.out.shifted HK.out HP.out hyr HY.out hdp' h1 h2 h4, h3, h5.from_ HDz.out.only⟩)
                    clear h1 h2 h3 h4 h5 c0 f0 HDz
                    go_wp2_with fail
                    go_end0
                    exact ⟨rfl, HR.out⟩
                  · have htk' : t ≤ k := by
                      rcases Nat.lt_or_ge t (k + 1) with h1 | h1
                      · omega
                      · exact absurd (HTN.out (by omega)) hn0
                    have hq : (n : Int) / (K : Int) = ((n / K : Nat) : Int) := (Int.natCast_ediv n K).symm
                    have hqm : n % K < K := Nat.mod_lt n (by omega)
                    have hq9 : n / K ≤ 9 := by
                      have := (Nat.div_lt_iff_lt_mul (show 0 < K by omega)).2 hnl
                      generalize n / K = q at *
                      omega
                    have hmask := u64_mask n K k HK.out (by omega) (by omega)
                    obtain ⟨c', hc'⟩ := digit_of _ hq9
                    have HS := Lib.hid (HP.out.step (by omega) HK.out c' hc' 0 (by omega) (by rw [VVf_out f r _ hyr]; rfl))
                    have HW := Lib.hid (rs_two n t k H2.out htk')
                    have HE := Lib.hid (fun h : t = k => rs_end n k (by have := H2.out; rwa [h] at this))
                    obtain ⟨q, hqe⟩ : ∃ q, n / K = q := ⟨_, rfl⟩
                    obtain ⟨m, hme⟩ : ∃ m, n % K = m := ⟨_, rfl⟩
                    rw [hqe] at hq hc' hq9
                    rw [hme] at hmask hqm HS
                    have hm2 : n % 2 ^ k = m := by rw [← HK.out]; exact hme
                    rw [hm2] at HW HE
                    clear hqe hme hm2
                    have q1 : (0 : Int) < (n : Int) := by omega
                    have q2 : (y : Int) < 800 := by omega
                    have c2 := HD2.out.dig y (by omega)
                    have f2 := HD2.out.free y
                    have hD4 := HD2.out.setDig y (by omega) c'
                    rw [hc', Int.natCast_add] at hD4
                    have HD4 := Lib.hid hD4
                    clear hD4 hc'
                    have q6 : (q : Int) ≤ 9 := by omega
                    have q7 : (m : Int) < 134217728 := by omega
                    have w1 : IntKind.u64.wrap ((m : Int) * 10) = (m : Int) * 10 := by rw [IntKind.wrap_u64]; omega
                    clear hn0 htk hxr ln q7 kI
                    go_wp2_with fail
                    go_roundw
                    case rel => exact ⟨y + 1, m * 10, t + 1, _, by go_num, by go_num, by omega, HS.out, HW.out, by omega, fun h => HE.out (by omega), by omega, HD4.out⟩
                    case measure => simp [RowKit.intOf]; omega
    · have q1 : ((n : Int) / (K : Int) == 0) = false := by
        rw [beq_eq_false_iff_ne]
        rw [← Int.natCast_ediv]
        have := (Nat.le_div_iff_mul_le (show 0 < K by omega)).2 (show 1 * K ≤ n by omega)
        generalize n / K = q at *
        omega
      have hR1 : 1 ≤ r := by
        rcases Nat.eq_zero_or_pos r with e0 | e0
        · have z := HNV.out
          rw [e0, VV_zero] at z
          omega
        · exact e0
      have hRd : r ≤ dp + 1 := HF.out.reach HD1.out HJ.out
      have cp := HD.out.pt
      have fp := HD.out.free 801
      have d1 : (dp : Int) < 1001 := by omega
      have d2 : (r : Int) < 1003 := by omega
      have d3 : (1 : Int) ≤ (r : Int) := by omega
      have hDp := HD.out.setPt ((dp : Int) - ((r : Int) - 1))
      obtain ⟨dp', hdp'⟩ : ∃ dp' : Nat, dp' + r = dp + 1 := ⟨dp + 1 - r, by omega⟩
      rw [show (dp : Int) - ((r : Int) - 1) = (dp' : Int) by omega] at hDp
      have hpe : (dp : Int) - ((r : Int) - 1) = (dp' : Int) := by omega
      have HDp := Lib.hid hDp
      have HPut := Lib.hid (Put.start HNV.out (Nat.not_lt.1 hnK) hlt)
      have HRd := Lib.hid hRd
      clear hDp hlt hnK hRd
      go_wp2_with fail
      clear q1 cp fp ln
      try clear c0
      generalize wr.setCell ⟨b, 801, none⟩ (.int .i64 (dp' : Int)) = wp at *
      go_loopw [4, 5, 6] (fun vr vw vn wx => ∃ (x n : Nat) (g : Nat → UInt8), vr = .int .i64 ((x + r : Nat) : Int) ∧ vw = .int .i64 (x : Int) ∧ vn = .int .u64 (n : Int) ∧ (x = 0 ∨ x + r ≤ nd) ∧ Put f nd K r g x n ∧ DcAt w wx b g (nd : Int) (dp' : Int) neg false) (fun vr _ _ _ => nd + 1 + r - (RowKit.intOf vr).toNat)
      case atStart => exact ⟨0, n, f, by simp, rfl, rfl, Or.inl rfl, HPut.out, HDp.out⟩
      case round =>
        obtain ⟨x, n, g, rfl, rfl, rfl, hx, hP, hD⟩ := hrel
        have HP := Lib.hid hP
        have HD2 := Lib.hid hD
        clear hP hD
        have c0 := HD2.out.cnt
        have hnl := HP.out.lt
        have ln : (n : Int) < 1342177280 := by omega
        have hq : (n : Int) / (K : Int) = ((n / K : Nat) : Int) := (Int.natCast_ediv n K).symm
        have hqm : n % K < K := Nat.mod_lt n (by omega)
        have hq9 : n / K ≤ 9 := by
          have := (Nat.div_lt_iff_lt_mul (show 0 < K by omega)).2 hnl
          generalize n / K = q at *
          omega
        have hmask := u64_mask n K k HK.out (by omega) (by omega)
        obtain ⟨c', hc'⟩ := digit_of _ hq9
        obtain ⟨q, hqe⟩ : ∃ q, n / K = q := ⟨_, rfl⟩
        obtain ⟨m, hme⟩ : ∃ m, n % K = m := ⟨_, rfl⟩
        rw [hqe] at hq hc' hq9
        rw [hme] at hmask hqm
        have HQE := Lib.hid hqe
        have HME := Lib.hid hme
        clear hqe hme
        by_cases hxr : x + r < nd
        · have q2 : (x : Int) + (r : Int) < (nd : Int) := by omega
          have q3 : (x : Int) + (r : Int) < 800 := by omega
          have q3' : (x : Int) < 800 := by omega
          have c1 := HD2.out.dig (x + r) (by omega)
          rw [HP.out.rest (x + r) (Nat.le_refl _) hxr] at c1
          have d1 := HF.out.dig (x + r) hxr
          obtain ⟨c, hc⟩ : ∃ c, (f (x + r)).toNat = c := ⟨_, rfl⟩
          rw [hc] at c1 d1
          have HC := Lib.hid hc
          clear hc
          have c2 := HD2.out.dig x (by omega)
          have f2 := HD2.out.free x
          have hD4 := HD2.out.setDig x (by omega) c'
          rw [hc', Int.natCast_add] at hD4
          have HD4 := Lib.hid hD4
          have HC' := Lib.hid hc'
          clear hD4 hc'
          have q4 : (48 : Int) ≤ (c : Int) := by omega
          have q5 : (c : Int) ≤ 57 := by omega
          have q6 : (q : Int) ≤ 9 := by omega
          have q7 : (m : Int) < 134217728 := by omega
          have HN := Lib.hid (show (m : Int) * 10 + (c : Int) - 48 = ((m * 10 + (c - 48) : Nat) : Int) by omega)
          have HS := Lib.hid (HP.out.step (by omega) HK.out c' (by rw [HC'.out, HQE.out]) (c - 48) (by omega) (by rw [VVf_in f nd _ hxr, HC.out]))
          go_wp2_with fail
          go_roundw
          case rel => exact ⟨x + 1, m * 10 + (c - 48), _, by go_num, by go_num, congrArg (Value.int .u64) HN.out, Or.inr (by omega), by rw [← HME.out]; exact HS.out, HD4.out⟩
          case measure => simp [RowKit.intOf]; omega
        · have q2 : ¬ (x : Int) + (r : Int) < (nd : Int) := by omega
          clear hmask hq hq9 hqm hc' HQE HME
          go_wp2_with fail
          clear c0 ln hnl q2
          have HX0 := Lib.hid hx
          clear hx
          go_loopw [5, 6] (fun vw vn wx => ∃ (y n t : Nat) (g : Nat → UInt8), vw = .int .i64 (y : Int) ∧ vn = .int .u64 (n : Int) ∧ nd ≤ y + r ∧ Put f nd K r g y n ∧ 2 ^ t ∣ n ∧ t ≤ k + 1 ∧ (t = k + 1 → n = 0) ∧ y ≤ x + t ∧ DcAt w wx b g (nd : Int) (dp' : Int) neg false) (fun vw _ _ => 900 - (RowKit.intOf vw).toNat)
          case atStart => exact ⟨x, n, 0, g, rfl, rfl, by omega, HP.out, ⟨n, by rw [Nat.pow_zero, Nat.one_mul]⟩, by omega, fun h => absurd h (by omega), by omega, HD2.out⟩
          case round =>
            obtain ⟨y, n, t, g, rfl, rfl, hyr, hP, h2t, htk, htn, hyx, hD⟩ := hrel
            have HP := Lib.hid hP
            have HD2 := Lib.hid hD
            have H2 := Lib.hid h2t
            have HTN := Lib.hid htn
            have hxn : x ≤ nd := by have := HX0.out; omega
            have hnl := HP.out.lt
            have ln : (n : Int) < 1342177280 := by omega
            clear hP hD h2t htn
            by_cases hn0 : n = 0
            · subst hn0
              have hy0 : 0 < y := by
                rcases Nat.eq_zero_or_pos y with e0 | e0
                · have := HP.out.first.1 e0
                  omega
                · exact e0
              have HY := Lib.hid hy0
              have c0 := HD2.out.cnt
              have f0 := HD2.out.free 800
              have hDz := HD2.out.setCnt (y : Int)
              have HDz := Lib.hid hDz
              have HT := Lib.hid (fun wz (hz : DcAt wz wz b g (y : Int) (dp' : Int) neg false) => trim_any b y g (dp' : Int) neg false (by omega) ⟨0, HY.out, HP.out.first.2 HY.out⟩ wz hz)
              clear hDz
              go_wp2_with fail
              refine (HT.out _ HDz.out.here).mono ?_
              rintro e1 w5 ⟨rfl, m', h1, h2, h3, h4, h5⟩
              have HR := Lib.hid (show ∃ (f' : Nat → UInt8) (nd' dp' : Nat), nd' ≤ nd + k + 1 ∧ NumF f' nd' dp' p (e + k) ∧ (f' (nd' - 1)).toNat ≠ 48 ∧ DcAt w w5 b f' (nd' : Int) (dp' : Int) neg false from ⟨g, m', dp', by omega, HF.out.shifted HK.out HP.out hyr HY.out hdp' h1 h2 h4, h3, h5.from_ HDz.out.only⟩)
              clear h1 h2 h3 h4 h5 c0 f0 HDz
              go_wp2_with fail
              go_end0
              exact ⟨rfl, HR.out⟩
            · have htk' : t ≤ k := by
                rcases Nat.lt_or_ge t (k + 1) with h1 | h1
                · omega
                · exact absurd (HTN.out (by omega)) hn0
              have hq : (n : Int) / (K : Int) = ((n / K : Nat) : Int) := (Int.natCast_ediv n K).symm
              have hqm : n % K < K := Nat.mod_lt n (by omega)
              have hq9 : n / K ≤ 9 := by
                have := (Nat.div_lt_iff_lt_mul (show 0 < K by omega)).2 hnl
                generalize n / K = q at *
                omega
              have hmask := u64_mask n K k HK.out (by omega) (by omega)
              obtain ⟨c', hc'⟩ := digit_of _ hq9
              have HS := Lib.hid (HP.out.step (by omega) HK.out c' hc' 0 (by omega) (by rw [VVf_out f nd _ hyr]; rfl))
              have HW := Lib.hid (rs_two n t k H2.out htk')
              have HE := Lib.hid (fun h : t = k => rs_end n k (by have := H2.out; rwa [h] at this))
              obtain ⟨q, hqe⟩ : ∃ q, n / K = q := ⟨_, rfl⟩
              obtain ⟨m, hme⟩ : ∃ m, n % K = m := ⟨_, rfl⟩
              rw [hqe] at hq hc' hq9
              rw [hme] at hmask hqm HS
              have hm2 : n % 2 ^ k = m := by rw [← HK.out]; exact hme
              rw [hm2] at HW HE
              clear hqe hme hm2
              have q1 : (0 : Int) < (n : Int) := by omega
              have q2 : (y : Int) < 800 := by omega
              have c2 := HD2.out.dig y (by omega)
              have f2 := HD2.out.free y
              have hD4 := HD2.out.setDig y (by omega) c'
              rw [hc', Int.natCast_add] at hD4
              have HD4 := Lib.hid hD4
              clear hD4 hc'
              have q6 : (q : Int) ≤ 9 := by omega
              have q7 : (m : Int) < 134217728 := by omega
              have w1 : IntKind.u64.wrap ((m : Int) * 10) = (m : Int) * 10 := by rw [IntKind.wrap_u64]; omega
              clear hn0 htk hxr ln q7 kI
              go_wp2_with fail
              go_roundw
              case rel => exact ⟨y + 1, m * 10, t + 1, _, by go_num, by go_num, by omega, HS.out, HW.out, by omega, fun h => HE.out (by omega), by omega, HD4.out⟩
              case measure => simp [RowKit.intOf]; omega
end Go.Proofs.YtdbbmknjldapbaaGreatDoor
