/-
  The library's decimal multiplied by a power of two (internal/strconv.leftShift), walked.
-/
import Derived.Test.YtdbbmknjldapbaaGreatDoorLs
namespace Go.Proofs.YtdbbmknjldapbaaGreatDoor
set_option linter.unusedVariables false
set_option linter.unusedSimpArgs false
open Go.RowKit Go.Lib

/-- The row of the cheat table for k. -/
structure Cheat (w : World) (L : Addr) (k dl : Nat) (S : List UInt8) (T : ByteArray) : Prop where
  tab : w.cell? ⟨16, 0, none⟩ = some (.slice (some ⟨L.block, L.off, none⟩) 61 61)
  num : w.cell? ⟨L.block, L.off + k * 2, none⟩ = some (.int .i64 (dl : Int))
  str : w.cell? ⟨L.block, L.off + k * 2 + 1, none⟩ = some (.string T)
  size : T.size = S.length
  at_ : ∀ (i : Nat) (h : i < T.size) (h2 : i < S.length), T[i] = S[i]
  digs : Digs S
  len : S.length ≤ 100
  last : ∀ h : 0 < S.length, (S[S.length - 1]'(by omega)).toNat ≠ 48
  five : valD S = 5 ^ k
  cnt : dl + S.length = k + 1
  lo : 10 ^ (k - S.length) ≤ 2 ^ k
  hi : 2 ^ k < 10 ^ dl
  pos : 1 ≤ dl
  kk : k ≤ 60
theorem prefix_is (b nd : Nat) (f : Nat → UInt8) (S : List UInt8) (hnd : nd ≤ 800) (hd : ∀ i, i < nd → 48 ≤ (f i).toNat ∧ (f i).toNat ≤ 57) (hs : Digs S) (hS : S.length ≤ 100) (hz : ∀ h : 0 < S.length, (S[S.length - 1]'(by omega)).toNat ≠ 48) (c : Nat) (w : World) (T : ByteArray) (hsz : T.size = S.length) (hat : ∀ (i : Nat) (h : i < T.size) (h2 : i < S.length), T[i] = S[i])
    (hc : ∀ i, i < nd → w.cell? ⟨b, i, none⟩ = some (.int .u8 ((f i).toNat : Int))) (r : Bool) (hr : r = true ↔ LessF (pre f nd) S) :
    Calls Tryz.prog 160 #[.slice (some ⟨b, 0, none⟩) nd c, .string T] w fun e w' => e = .returned (.bool r) ∧ ∃ k, w' = w.drewN k :=
  (prefix_any b nd f S hnd hd hs hS hz c w T hsz hat hc).mono fun e w' ⟨⟨r', he, hr'⟩, hk⟩ => ⟨by
    rw [he]
    have : r' = r := by
      cases r <;> cases r' <;> simp_all
    rw [this], hk⟩
theorem less_dec (D S : List UInt8) : ∃ r : Bool, (r = true ↔ LessF D S) := by
  by_cases h : LessF D S
  · exact ⟨true, fun _ => h, fun _ => rfl⟩
  · exact ⟨false, fun h2 => absurd h2 (by decide), fun h2 => absurd h2 h⟩
theorem cut800 (b nd : Nat) (hnd : nd ≤ 800) (wx : World) : (Instr.sliceAt 112 (.pointer (some ⟨b, 0, none⟩)) (some (.int .i64 0)) (some (.int .i64 (nd : Int))) none).run Tryz.prog wx = .ok (.slice (some ⟨b, 0, none⟩) nd 800) wx := by
  have hal : Tryz.prog.arrayLen 112 = 800 := by simp [Program.arrayLen, Tryz.underlying112]
  rw [run_sliceAt_array_lh wx 112 ⟨b, 0, none⟩ (by simp [Program.arrayLen, Program.elem, Tryz.underlying112]) .i64 .i64 0 (nd : Int) (by omega) (by omega) (by rw [hal]; omega), hal]
  go_simp
theorem Cheat.less {w : World} {L : Addr} {k dl : Nat} {S : List UInt8} {T : ByteArray} (h : Cheat w L k dl S T) {f : Nat → UInt8} {nd dp p e dd : Nat} (hF : NumF f nd dp p e) (hl : LessF (pre f nd) S) (hd : dd + 1 = dl) :
    10 ^ (nd + dd - 1) ≤ valD (pre f nd) * 2 ^ k ∧ valD (pre f nd) * 2 ^ k < 10 ^ (nd + dd) := by
  have hc := h.cnt
  have hp := hF.pos
  have h1 := valD_ge_pow (pre f nd) hF.digs (by rw [pre_length]; exact hp) (by rw [pre_get]; exact hF.head)
  rw [pre_length] at h1
  have h2 := h.lo
  rw [show k - S.length = dd by omega] at h2
  constructor
  · rw [show nd + dd - 1 = nd - 1 + dd by omega, Nat.pow_add]
    exact Nat.mul_le_mul h1 h2
  · unfold LessF at hl
    rw [pre_length, h.five] at hl
    have h3 := (Nat.mul_lt_mul_right (Nat.two_pow_pos k)).2 hl
    have h10 := Nat.pow_pos (n := S.length) (show 0 < 10 by decide)
    apply Nat.lt_of_mul_lt_mul_right (a := 10 ^ S.length)
    have e1 : 5 ^ k * 10 ^ nd * 2 ^ k = 10 ^ (nd + dd) * 10 ^ S.length := by
      rw [← Nat.pow_add, show nd + dd + S.length = k + nd by omega, Nat.pow_add, show (10 : Nat) = 5 * 2 from rfl, Nat.mul_pow 5 2 k]
      simp only [Nat.mul_assoc, Nat.mul_comm, Nat.mul_left_comm]
    rw [e1] at h3
    refine Nat.lt_of_le_of_lt (Nat.le_of_eq ?_) h3
    simp only [Nat.mul_assoc, Nat.mul_comm, Nat.mul_left_comm]
theorem Cheat.notless {w : World} {L : Addr} {k dl : Nat} {S : List UInt8} {T : ByteArray} (h : Cheat w L k dl S T) {f : Nat → UInt8} {nd dp p e : Nat} (hF : NumF f nd dp p e) (hl : ¬ LessF (pre f nd) S) :
    10 ^ (nd + dl - 1) ≤ valD (pre f nd) * 2 ^ k ∧ valD (pre f nd) * 2 ^ k < 10 ^ (nd + dl) := by
  have hc := h.cnt
  have hp := hF.pos
  have hp1 := h.pos
  constructor
  · unfold LessF at hl
    rw [pre_length, h.five, Nat.not_lt] at hl
    have h3 := Nat.mul_le_mul_right (2 ^ k) hl
    have h10 := Nat.pow_pos (n := S.length) (show 0 < 10 by decide)
    refine Nat.le_of_mul_le_mul_right (?_ : 10 ^ (nd + dl - 1) * 10 ^ S.length ≤ valD (pre f nd) * 2 ^ k * 10 ^ S.length) h10
    have e1 : 5 ^ k * 10 ^ nd * 2 ^ k = 10 ^ (nd + dl - 1) * 10 ^ S.length := by
      rw [← Nat.pow_add, show nd + dl - 1 + S.length = k + nd by omega, Nat.pow_add, show (10 : Nat) = 5 * 2 from rfl, Nat.mul_pow 5 2 k]
      simp only [Nat.mul_assoc, Nat.mul_comm, Nat.mul_left_comm]
    rw [e1] at h3
    refine Nat.le_trans h3 (Nat.le_of_eq ?_)
    simp only [Nat.mul_assoc, Nat.mul_comm, Nat.mul_left_comm]
  · have h1 := valD_lt_pow (pre f nd) hF.digs
    rw [pre_length] at h1
    rw [Nat.pow_add]
    exact Nat.mul_lt_mul'' h1 h.hi
theorem NumF.grown {f g : Nat → UInt8} {nd dp p e k dd m : Nat} (h : NumF f nd dp p e) (hk : k ≤ e) (hV : valD (pre f nd) * 2 ^ k = valD (pre g (nd + dd))) (hd : ∀ i, i < nd + dd → 48 ≤ (g i).toNat ∧ (g i).toNat ≤ 57) (h0 : (g 0).toNat ≠ 48) (hm : 0 < m) (hmw : m ≤ nd + dd) (hz : ∀ i, m ≤ i → i < nd + dd → (g i).toNat = 48) :
    NumF g m (dp + dd) p (e - k) := by
  refine ⟨hm, fun i hi => hd i (by omega), h0, ?_⟩
  have h1 := ls_val (pre f nd) (pre g (nd + dd)) dp p e k dd (by rw [pre_length]; exact h.val) hk hV.symm (by rw [pre_length, pre_length])
  rw [trim_pre g (nd + dd) m hmw hz] at h1
  have h2 := trim_val _ _ _ _ _ h1
  rw [pre_length] at h2
  exact h2
set_option maxRecDepth 100000 in
set_option maxHeartbeats 6400000 in
theorem left_any (b k nd dp p e dl : Nat) (L : Addr) (f : Nat → UInt8) (neg : Bool) (S : List UInt8) (T : ByteArray) (hn : nd + dl ≤ 799) (hF : NumF f nd dp p e) (hke : k ≤ e) (hdp : dp ≤ 1000) (w : World) (hb : L.block ≠ b) (hg : 16 ≠ b) (hC : Cheat w L k dl S T) (h : DcAt w w b f (nd : Int) (dp : Int) neg false) :
    Calls Tryz.prog 127 #[.pointer (some ⟨b, 0, none⟩), .int .u64 (k : Int)] w fun r w' => r = .returned (.tuple #[]) ∧ ∃ (f' : Nat → UInt8) (nd' dp' : Nat), nd' ≤ nd + dl ∧ NumF f' nd' dp' p (e - k) ∧ (f' (nd' - 1)).toNat ≠ 48 ∧ DcAt w w' b f' (nd' : Int) (dp' : Int) neg false := by
  have H := Lib.hid h
  have HF := Lib.hid hF
  have HC := Lib.hid hC
  have t1 := hC.tab
  have t2 := hC.num
  have t3 := hC.str
  have kI : (k : Int) < 61 := by have := hC.kk; omega
  have c0 := h.cnt
  have hsl := cut800 b nd (by omega)
  obtain ⟨r, hr⟩ := less_dec (pre f nd) S
  have HP := Lib.hid (fun wx hx => prefix_is b nd f S (by omega) (hF.dig) hC.digs hC.len hC.last 800 wx T hC.size hC.at_ hx r hr)
  have HR := Lib.hid hr
  have HCL := Lib.hid (fun i (hi : i < nd) => H.out.dig i (by omega))
  clear hr
  clear h hF hC
  go_enter Tryz.func127, Tryz.ntmps127
  go_wp2_with fail
  go_quiet ((go_at_call 160; exact Calls.quiet_of (HP.out _ HCL.out)))
  -- TAIL
  cases r
  · have HV := Lib.hid (HC.out.notless HF.out (fun hh => absurd (HR.out.2 hh) (by decide)))
    obtain ⟨dd, hdd⟩ : ∃ dd, dl = dd := ⟨_, rfl⟩
    subst hdd
    have hle : dl ≤ dl := Nat.le_refl _
    have h2 := H.out.drewN nq
    have H2 := Lib.hid h2
    have c0 := h2.cnt
    have hpos := HF.out.pos
    have nI : (nd : Int) < 800 := by omega
    have dI : (dl : Int) < 800 := by omega
    clear t1 t2 t3 hsl h2 H
    have hnI : (0 : Int) ≤ (nd : Int) := by omega
    go_wp2_with fail
    have hKp : 0 < 2 ^ k := Nat.two_pow_pos k
    obtain ⟨K, hKe⟩ : ∃ K : Nat, K = 2 ^ k := ⟨_, rfl⟩
    have hK : (2 : Int) ^ k = (K : Int) := by rw [hKe]; push_cast; rfl
    have hK1 : K ≤ 1152921504606846976 := by rw [hKe]; exact Nat.pow_le_pow_right (by decide) (show k ≤ 60 from HC.out.kk)
    rw [← hKe] at HV hKp
    have HK := Lib.hid hKe
    have HK1 := Lib.hid hK1
    have HKp := Lib.hid hKp
    clear hKe hK1 hKp c0
    go_loopw [5, 6, 7] (fun vr vw vn wr => ∃ (j n : Nat) (g : Nat → UInt8), vr = .int .i64 ((j : Int) - 1) ∧ vw = .int .i64 ((j + dl : Nat) : Int) ∧ vn = .int .u64 (n : Int) ∧ Mul f nd K dl g j n ∧ DcAt w wr b g (nd : Int) (dp : Int) neg false) (fun vr _ _ _ => (RowKit.intOf vr + 1).toNat)
    case atStart => exact ⟨nd, 0, f, rfl, by simp, rfl, Mul.start f nd K dl HKp.out, H2.out⟩
    case round =>
      obtain ⟨j, n, g, rfl, rfl, rfl, hM, hD⟩ := hrel
      have HM := Lib.hid hM
      have HD := Lib.hid hD
      have hjn := hM.le
      clear hM hD
      by_cases hj : 0 < j
      · obtain ⟨i, rfl⟩ : ∃ i, j = i + 1 := ⟨j - 1, by omega⟩
        have d1 := HF.out.dig i (by omega)
        have c1 := HD.out.dig i (by omega)
        rw [HM.out.rest i (by omega)] at c1
        have hnl := HM.out.lt
        obtain ⟨c, hc⟩ : ∃ c, (f i).toNat = c := ⟨_, rfl⟩
        rw [hc] at c1 d1
        have HCc := Lib.hid hc
        clear hc
        obtain ⟨X, hX⟩ : ∃ X, (c - 48) * K = X := ⟨_, rfl⟩
        have hX9 : X ≤ 9 * K := by rw [← hX]; exact Nat.mul_le_mul_right _ (by omega)
        have hk1 := HK1.out
        have e1 : IntKind.u64.wrap (((c : Int) - 48) * (K : Int)) = (X : Int) := by
          rw [show (c : Int) - 48 = ((c - 48 : Nat) : Int) by omega, ← Int.natCast_mul, hX, IntKind.wrap_u64]
          omega
        obtain ⟨N, hN⟩ : ∃ N, n + X = N := ⟨_, rfl⟩
        have e2 : IntKind.u64.wrap ((n : Int) + (X : Int)) = (N : Int) := by rw [IntKind.wrap_u64]; omega
        obtain ⟨Q, hQ⟩ : ∃ Q, N / 10 = Q := ⟨_, rfl⟩
        obtain ⟨M, hMm⟩ : ∃ M, N % 10 = M := ⟨_, rfl⟩
        have e3 : (N : Int) / 10 = (Q : Int) := by omega
        have e3' : IntKind.u64.wrap (Q : Int) = (Q : Int) := by rw [IntKind.wrap_u64]; omega
        have e4 : IntKind.u64.wrap (10 * (Q : Int)) = 10 * (Q : Int) := by rw [IntKind.wrap_u64]; omega
        have e5 : IntKind.u64.wrap ((N : Int) - 10 * (Q : Int)) = (M : Int) := by rw [IntKind.wrap_u64]; omega
        have e6 : IntKind.u64.wrap ((M : Int) + 48) = (M : Int) + 48 := by rw [IntKind.wrap_u64]; omega
        have e7 : ((M : Int) + 48) % 256 = (M : Int) + 48 := by omega
        obtain ⟨c', hc'⟩ := digit_of M (by omega)
        have HS := Lib.hid (HM.out.step (by rw [HCc.out]; exact d1) c' (by rw [hc', HCc.out, hX, hN, hMm]))
        rw [HCc.out, hX, hN, hQ] at HS
        have hm9 : (M : Int) ≤ 9 := by omega
        clear hX hN hQ hMm hX9 hk1 hnl
        have q4 : (48 : Int) ≤ (c : Int) := by omega
        have q5 : (c : Int) ≤ 57 := by omega
        have q6 : (i : Int) < 800 := by omega
        have q7 : (i : Int) + (dl : Int) < 800 := by omega
        have c2 := HD.out.dig (i + dl) (by omega)
        have f2 := HD.out.free (i + dl)
        have hD4 := HD.out.setDig (i + dl) (by omega) c'
        rw [hc', Int.natCast_add] at hD4
        have HD4 := Lib.hid hD4
        clear hD4 hc'
        go_wp2_with fail
        go_roundw
        case rel => exact ⟨i, Q, _, by go_num, congrArg (Value.int .i64) (by omega), rfl, HS.out, HD4.out⟩
        case measure => simp [RowKit.intOf]; try omega
      · obtain rfl : j = 0 := by omega
        have HCR := Lib.hid HM.out.car
        have HLK := Lib.hid HM.out.lt
        clear hjn
        go_wp2_with fail
        clear hj
        go_loopw [6, 7] (fun vw vn wx => ∃ (a m : Nat) (g' : Nat → UInt8), vw = .int .i64 (a : Int) ∧ vn = .int .u64 (m : Int) ∧ Car (valD (pre f nd) * K) (nd + dl) g' a m ∧ m < K ∧ DcAt w wx b g' (nd : Int) (dp : Int) neg false) (fun _ vn _ => (RowKit.intOf vn).toNat)
        case atStart => exact ⟨dl, n, g, by simp, rfl, HCR.out, HLK.out, HD.out⟩
        case round =>
          obtain ⟨a, m, g', rfl, rfl, hR, hmK, hD2⟩ := hrel
          have HR2 := Lib.hid hR
          have HD2 := Lib.hid hD2
          have hal := hR.le
          clear hR hD2
          by_cases hm0 : m = 0
          · subst hm0
            obtain ⟨ha0, hv0, hg0⟩ := HR2.out.done (by omega) HV.out.1
            subst ha0
            have c0 := HD2.out.cnt
            have f0 := HD2.out.free 800
            have c1 := HD2.out.pt
            have f1 := HD2.out.free 801
            have hA := HD2.out.setCnt ((nd : Int) + (dl : Int))
            have fA := hA.free 801
            have cA := hA.pt
            have hB := hA.setPt ((dp : Int) + (dl : Int))
            have HB := Lib.hid hB
            have q1 : (nd : Int) + (dl : Int) < 800 := by omega
            have q2 : (dp : Int) < 1001 := by omega
            have HG := Lib.hid hg0
            have HV0 := Lib.hid hv0
            have HT := Lib.hid (fun wz (hz : DcAt wz wz b g' ((nd + dl : Nat) : Int) (((dp : Int) + (dl : Int))) neg false) => trim_any b (nd + dl) g' ((dp : Int) + (dl : Int)) neg false (by omega) ⟨0, by omega, hg0⟩ wz hz)
            rw [Int.natCast_add] at HT
            clear hA hB hg0 hv0 hmK
            go_wp2_with fail
    
            refine (HT.out _ HB.out.here).mono ?_
            rintro e1 w5 ⟨rfl, m', h1, h2, h3, h4, h5⟩
            have HRS := Lib.hid (show ∃ (f' : Nat → UInt8) (nd' dp' : Nat), nd' ≤ nd + dl ∧ NumF f' nd' dp' p (e - k) ∧ (f' (nd' - 1)).toNat ≠ 48 ∧ DcAt w w5 b f' (nd' : Int) (dp' : Int) neg false from ⟨g', m', dp + dl, by omega, HF.out.grown hke (by rw [← HK.out]; exact HV0.out) (fun i hi => HR2.out.dig i (by omega) hi) HG.out h1 h2 h4, h3, by rw [Int.natCast_add]; exact h5.from_ HB.out.only⟩)
            clear h1 h2 h3 h4 h5 c0 c1 f0 f1 cA fA HB
            go_wp2_with fail
            go_end0
            exact ⟨rfl, HRS.out⟩
          · have ha0 := HR2.out.room HV.out.2 (by omega)
            obtain ⟨i, rfl⟩ : ∃ i, a = i + 1 := ⟨a - 1, by omega⟩
            have hk1 := HK1.out
            obtain ⟨Q, hQ⟩ : ∃ Q, m / 10 = Q := ⟨_, rfl⟩
            obtain ⟨M, hMm⟩ : ∃ M, m % 10 = M := ⟨_, rfl⟩
            have e3 : (m : Int) / 10 = (Q : Int) := by omega
            have e3' : IntKind.u64.wrap (Q : Int) = (Q : Int) := by rw [IntKind.wrap_u64]; omega
            have e4 : IntKind.u64.wrap (10 * (Q : Int)) = 10 * (Q : Int) := by rw [IntKind.wrap_u64]; omega
            have e5 : IntKind.u64.wrap ((m : Int) - 10 * (Q : Int)) = (M : Int) := by rw [IntKind.wrap_u64]; omega
            have e6 : IntKind.u64.wrap ((M : Int) + 48) = (M : Int) + 48 := by rw [IntKind.wrap_u64]; omega
            have e7 : ((M : Int) + 48) % 256 = (M : Int) + 48 := by omega
            obtain ⟨c', hc'⟩ := digit_of M (by omega)
            have HS := Lib.hid (HR2.out.step c' (by rw [hc', hMm]))
            rw [hQ] at HS
            have hm9 : (M : Int) ≤ 9 := by omega
            have HQK := Lib.hid (show Q < K ∧ Q < m by omega)
            clear hQ hMm hk1 hmK
            have q0 : (0 : Int) < (m : Int) := by omega
            have q6 : (i : Int) < 800 := by omega
            have c2 := HD2.out.dig i (by omega)
            have f2 := HD2.out.free i
            have hD4 := HD2.out.setDig i (by omega) c'
            rw [hc', Int.natCast_add] at hD4
            have HD4 := Lib.hid hD4
            clear hD4 hc' hm0
            go_wp2_with fail
            go_roundw
            case rel => exact ⟨i, Q, _, by go_num, rfl, HS.out, HQK.out.1, HD4.out⟩
            case measure => have := HQK.out.2; simp [RowKit.intOf]; omega
  · have HV := Lib.hid (HC.out.less HF.out (HR.out.1 rfl) (show dl - 1 + 1 = dl by have := HC.out.pos; omega))
    obtain ⟨dd, hdd⟩ : ∃ dd, dl - 1 = dd := ⟨_, rfl⟩
    rw [hdd] at HV
    have hddI : (dl : Int) - 1 = (dd : Int) := by have := HC.out.pos; omega
    have hle : dd ≤ dl := by omega
    have h2 := H.out.drewN nq
    have H2 := Lib.hid h2
    have c0 := h2.cnt
    have hpos := HF.out.pos
    have nI : (nd : Int) < 800 := by omega
    have dI : (dd : Int) < 800 := by omega
    clear t1 t2 t3 hsl h2 H
    have hnI : (0 : Int) ≤ (nd : Int) := by omega
    go_wp2_with fail
    have hKp : 0 < 2 ^ k := Nat.two_pow_pos k
    obtain ⟨K, hKe⟩ : ∃ K : Nat, K = 2 ^ k := ⟨_, rfl⟩
    have hK : (2 : Int) ^ k = (K : Int) := by rw [hKe]; push_cast; rfl
    have hK1 : K ≤ 1152921504606846976 := by rw [hKe]; exact Nat.pow_le_pow_right (by decide) (show k ≤ 60 from HC.out.kk)
    rw [← hKe] at HV hKp
    have HK := Lib.hid hKe
    have HK1 := Lib.hid hK1
    have HKp := Lib.hid hKp
    clear hKe hK1 hKp c0
    go_loopw [5, 6, 7] (fun vr vw vn wr => ∃ (j n : Nat) (g : Nat → UInt8), vr = .int .i64 ((j : Int) - 1) ∧ vw = .int .i64 ((j + dd : Nat) : Int) ∧ vn = .int .u64 (n : Int) ∧ Mul f nd K dd g j n ∧ DcAt w wr b g (nd : Int) (dp : Int) neg false) (fun vr _ _ _ => (RowKit.intOf vr + 1).toNat)
    case atStart => exact ⟨nd, 0, f, rfl, by simp, rfl, Mul.start f nd K dd HKp.out, H2.out⟩
    case round =>
      obtain ⟨j, n, g, rfl, rfl, rfl, hM, hD⟩ := hrel
      have HM := Lib.hid hM
      have HD := Lib.hid hD
      have hjn := hM.le
      clear hM hD
      by_cases hj : 0 < j
      · obtain ⟨i, rfl⟩ : ∃ i, j = i + 1 := ⟨j - 1, by omega⟩
        have d1 := HF.out.dig i (by omega)
        have c1 := HD.out.dig i (by omega)
        rw [HM.out.rest i (by omega)] at c1
        have hnl := HM.out.lt
        obtain ⟨c, hc⟩ : ∃ c, (f i).toNat = c := ⟨_, rfl⟩
        rw [hc] at c1 d1
        have HCc := Lib.hid hc
        clear hc
        obtain ⟨X, hX⟩ : ∃ X, (c - 48) * K = X := ⟨_, rfl⟩
        have hX9 : X ≤ 9 * K := by rw [← hX]; exact Nat.mul_le_mul_right _ (by omega)
        have hk1 := HK1.out
        have e1 : IntKind.u64.wrap (((c : Int) - 48) * (K : Int)) = (X : Int) := by
          rw [show (c : Int) - 48 = ((c - 48 : Nat) : Int) by omega, ← Int.natCast_mul, hX, IntKind.wrap_u64]
          omega
        obtain ⟨N, hN⟩ : ∃ N, n + X = N := ⟨_, rfl⟩
        have e2 : IntKind.u64.wrap ((n : Int) + (X : Int)) = (N : Int) := by rw [IntKind.wrap_u64]; omega
        obtain ⟨Q, hQ⟩ : ∃ Q, N / 10 = Q := ⟨_, rfl⟩
        obtain ⟨M, hMm⟩ : ∃ M, N % 10 = M := ⟨_, rfl⟩
        have e3 : (N : Int) / 10 = (Q : Int) := by omega
        have e3' : IntKind.u64.wrap (Q : Int) = (Q : Int) := by rw [IntKind.wrap_u64]; omega
        have e4 : IntKind.u64.wrap (10 * (Q : Int)) = 10 * (Q : Int) := by rw [IntKind.wrap_u64]; omega
        have e5 : IntKind.u64.wrap ((N : Int) - 10 * (Q : Int)) = (M : Int) := by rw [IntKind.wrap_u64]; omega
        have e6 : IntKind.u64.wrap ((M : Int) + 48) = (M : Int) + 48 := by rw [IntKind.wrap_u64]; omega
        have e7 : ((M : Int) + 48) % 256 = (M : Int) + 48 := by omega
        obtain ⟨c', hc'⟩ := digit_of M (by omega)
        have HS := Lib.hid (HM.out.step (by rw [HCc.out]; exact d1) c' (by rw [hc', HCc.out, hX, hN, hMm]))
        rw [HCc.out, hX, hN, hQ] at HS
        have hm9 : (M : Int) ≤ 9 := by omega
        clear hX hN hQ hMm hX9 hk1 hnl
        have q4 : (48 : Int) ≤ (c : Int) := by omega
        have q5 : (c : Int) ≤ 57 := by omega
        have q6 : (i : Int) < 800 := by omega
        have q7 : (i : Int) + (dd : Int) < 800 := by omega
        have c2 := HD.out.dig (i + dd) (by omega)
        have f2 := HD.out.free (i + dd)
        have hD4 := HD.out.setDig (i + dd) (by omega) c'
        rw [hc', Int.natCast_add] at hD4
        have HD4 := Lib.hid hD4
        clear hD4 hc'
        go_wp2_with fail
        go_roundw
        case rel => exact ⟨i, Q, _, by go_num, congrArg (Value.int .i64) (by omega), rfl, HS.out, HD4.out⟩
        case measure => simp [RowKit.intOf]; try omega
      · obtain rfl : j = 0 := by omega
        have HCR := Lib.hid HM.out.car
        have HLK := Lib.hid HM.out.lt
        clear hjn
        go_wp2_with fail
        clear hj
        go_loopw [6, 7] (fun vw vn wx => ∃ (a m : Nat) (g' : Nat → UInt8), vw = .int .i64 (a : Int) ∧ vn = .int .u64 (m : Int) ∧ Car (valD (pre f nd) * K) (nd + dd) g' a m ∧ m < K ∧ DcAt w wx b g' (nd : Int) (dp : Int) neg false) (fun _ vn _ => (RowKit.intOf vn).toNat)
        case atStart => exact ⟨dd, n, g, by simp, rfl, HCR.out, HLK.out, HD.out⟩
        case round =>
          obtain ⟨a, m, g', rfl, rfl, hR, hmK, hD2⟩ := hrel
          have HR2 := Lib.hid hR
          have HD2 := Lib.hid hD2
          have hal := hR.le
          clear hR hD2
          by_cases hm0 : m = 0
          · subst hm0
            obtain ⟨ha0, hv0, hg0⟩ := HR2.out.done (by omega) HV.out.1
            subst ha0
            have c0 := HD2.out.cnt
            have f0 := HD2.out.free 800
            have c1 := HD2.out.pt
            have f1 := HD2.out.free 801
            have hA := HD2.out.setCnt ((nd : Int) + (dd : Int))
            have fA := hA.free 801
            have cA := hA.pt
            have hB := hA.setPt ((dp : Int) + (dd : Int))
            have HB := Lib.hid hB
            have q1 : (nd : Int) + (dd : Int) < 800 := by omega
            have q2 : (dp : Int) < 1001 := by omega
            have HG := Lib.hid hg0
            have HV0 := Lib.hid hv0
            have HT := Lib.hid (fun wz (hz : DcAt wz wz b g' ((nd + dd : Nat) : Int) (((dp : Int) + (dd : Int))) neg false) => trim_any b (nd + dd) g' ((dp : Int) + (dd : Int)) neg false (by omega) ⟨0, by omega, hg0⟩ wz hz)
            rw [Int.natCast_add] at HT
            clear hA hB hg0 hv0 hmK
            go_wp2_with fail
    
            refine (HT.out _ HB.out.here).mono ?_
            rintro e1 w5 ⟨rfl, m', h1, h2, h3, h4, h5⟩
            have HRS := Lib.hid (show ∃ (f' : Nat → UInt8) (nd' dp' : Nat), nd' ≤ nd + dl ∧ NumF f' nd' dp' p (e - k) ∧ (f' (nd' - 1)).toNat ≠ 48 ∧ DcAt w w5 b f' (nd' : Int) (dp' : Int) neg false from ⟨g', m', dp + dd, by omega, HF.out.grown hke (by rw [← HK.out]; exact HV0.out) (fun i hi => HR2.out.dig i (by omega) hi) HG.out h1 h2 h4, h3, by rw [Int.natCast_add]; exact h5.from_ HB.out.only⟩)
            clear h1 h2 h3 h4 h5 c0 c1 f0 f1 cA fA HB
            go_wp2_with fail
            go_end0
            exact ⟨rfl, HRS.out⟩
          · have ha0 := HR2.out.room HV.out.2 (by omega)
            obtain ⟨i, rfl⟩ : ∃ i, a = i + 1 := ⟨a - 1, by omega⟩
            have hk1 := HK1.out
            obtain ⟨Q, hQ⟩ : ∃ Q, m / 10 = Q := ⟨_, rfl⟩
            obtain ⟨M, hMm⟩ : ∃ M, m % 10 = M := ⟨_, rfl⟩
            have e3 : (m : Int) / 10 = (Q : Int) := by omega
            have e3' : IntKind.u64.wrap (Q : Int) = (Q : Int) := by rw [IntKind.wrap_u64]; omega
            have e4 : IntKind.u64.wrap (10 * (Q : Int)) = 10 * (Q : Int) := by rw [IntKind.wrap_u64]; omega
            have e5 : IntKind.u64.wrap ((m : Int) - 10 * (Q : Int)) = (M : Int) := by rw [IntKind.wrap_u64]; omega
            have e6 : IntKind.u64.wrap ((M : Int) + 48) = (M : Int) + 48 := by rw [IntKind.wrap_u64]; omega
            have e7 : ((M : Int) + 48) % 256 = (M : Int) + 48 := by omega
            obtain ⟨c', hc'⟩ := digit_of M (by omega)
            have HS := Lib.hid (HR2.out.step c' (by rw [hc', hMm]))
            rw [hQ] at HS
            have hm9 : (M : Int) ≤ 9 := by omega
            have HQK := Lib.hid (show Q < K ∧ Q < m by omega)
            clear hQ hMm hk1 hmK
            have q0 : (0 : Int) < (m : Int) := by omega
            have q6 : (i : Int) < 800 := by omega
            have c2 := HD2.out.dig i (by omega)
            have f2 := HD2.out.free i
            have hD4 := HD2.out.setDig i (by omega) c'
            rw [hc', Int.natCast_add] at hD4
            have HD4 := Lib.hid hD4
            clear hD4 hc' hm0
            go_wp2_with fail
            go_roundw
            case rel => exact ⟨i, Q, _, by go_num, rfl, HS.out, HQK.out.1, HD4.out⟩
            case measure => have := HQK.out.2; simp [RowKit.intOf]; omega
end Go.Proofs.YtdbbmknjldapbaaGreatDoor
