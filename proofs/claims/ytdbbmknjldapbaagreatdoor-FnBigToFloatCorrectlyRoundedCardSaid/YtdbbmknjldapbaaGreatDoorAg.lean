/-
  Two floats that the order calls equal are one word. No program in this text.
-/
import Derived.Test.YtdbbmknjldapbaaGreatDoorUo
import Derived.Test.YtdbbmknjldapbaaGreatDoorTq
namespace Go.Proofs.YtdbbmknjldapbaaGreatDoor
set_option linter.unusedVariables false
set_option linter.unusedSimpArgs false
open Go Ieee

theorem compare_eq (a b : Int) (h : compare a b = .eq) : a = b := by
  simp only [compare, compareOfLessAndEq] at h
  by_cases h1 : a < b
  · rw [if_pos h1] at h; cases h
  · rw [if_neg h1] at h
    by_cases h2 : a = b
    · exact h2
    · rw [if_neg h2] at h; cases h
theorem signed_inj (s : Bool) (m n i j : Nat) (h : signed s m i = signed s n j) : m * 2 ^ i = n * 2 ^ j := by
  unfold signed at h
  rw [Nat.shiftLeft_eq, Nat.shiftLeft_eq] at h
  generalize m * 2 ^ i = A at *
  generalize n * 2 ^ j = B at *
  cases s
  · rw [if_neg (by decide), if_neg (by decide)] at h; omega
  · rw [if_pos rfl, if_pos rfl] at h; omega
theorem mags_inj (m n k l : Nat) (h : m * 2 ^ (((-1074 + (k : Int)) - min (-1074 + (k : Int)) (-1074 + (l : Int))).toNat) = n * 2 ^ (((-1074 + (l : Int)) - min (-1074 + (k : Int)) (-1074 + (l : Int))).toNat))
    (m0 : 4503599627370496 ≤ m) (m1 : m < 9007199254740992) (n0 : 4503599627370496 ≤ n) (n1 : n < 9007199254740992) : m = n ∧ k = l := by
  rcases Nat.lt_trichotomy k l with hk | hk | hk
  · rw [show ((-1074 + (k : Int)) - min (-1074 + (k : Int)) (-1074 + (l : Int))).toNat = 0 by omega, show ((-1074 + (l : Int)) - min (-1074 + (k : Int)) (-1074 + (l : Int))).toNat = l - k by omega, Nat.pow_zero, Nat.mul_one] at h
    have := Nat.mul_le_mul_left n (show 2 ^ 1 ≤ 2 ^ (l - k) from Nat.pow_le_pow_right (by decide) (by omega))
    omega
  · subst hk
    rw [show ((-1074 + (k : Int)) - min (-1074 + (k : Int)) (-1074 + (k : Int))).toNat = 0 by omega, Nat.pow_zero, Nat.mul_one, Nat.mul_one] at h
    exact ⟨h, rfl⟩
  · rw [show ((-1074 + (l : Int)) - min (-1074 + (k : Int)) (-1074 + (l : Int))).toNat = 0 by omega, show ((-1074 + (k : Int)) - min (-1074 + (k : Int)) (-1074 + (l : Int))).toNat = k - l by omega, Nat.pow_zero, Nat.mul_one] at h
    have := Nat.mul_le_mul_left m (show 2 ^ 1 ≤ 2 ^ (k - l) from Nat.pow_le_pow_right (by decide) (by omega))
    omega
theorem order_inj (s : Bool) (r q : Nat) (h1 : 4503599627370496 ≤ r) (h2 : r < 9218868437227405312) (g1 : 4503599627370496 ≤ q) (g2 : q < 9218868437227405312) (h : double.order (double.word s r) (double.word s q) = some .eq) : r = q := by
  change (double.read _).order (double.read _) = _ at h
  rw [read_word s r h1 h2, read_word s q g1 g2] at h
  have h3 := signed_inj _ _ _ _ _ (compare_eq _ _ (Option.some.inj h))
  have h4 := mags_inj _ _ _ _ h3 (by omega) (by omega) (by omega) (by omega)
  omega
/-- .. of a rung with a sign's bit. -/
theorem rung_same (sg a b : Nat) (hs : sg = 0 ∨ sg = 9223372036854775808) (a1 : 4503599627370496 ≤ rung a) (a2 : rung a < 9218868437227405312) (b1 : 4503599627370496 ≤ rung b) (b2 : rung b < 9218868437227405312)
    (h : (FloatKind.f64.format.order (sg + rung a) (sg + rung b) == some Ordering.eq) = true) : sg + rung a = sg + rung b := by
  have h' : double.order (sg + rung a) (sg + rung b) = some .eq := by
    have h0 := eq_of_beq h
    exact h0
  have e : ∀ r : Nat, sg + r = double.word (decide (sg = 9223372036854775808)) r := fun r => by
    unfold Format.word
    rcases hs with hs | hs
    · subst hs
      rw [decide_eq_false (by decide), if_neg (by decide)]
      omega
    · subst hs
      rw [decide_eq_true rfl, if_pos rfl, dbl_sign]
  rw [e, e] at h'
  rw [order_inj _ _ _ a1 a2 b1 b2 h']
theorem rung_big_within (u : Nat) (h1 : 4503599627370496 ≤ u) (h2 : u < 2 ^ 200) : 4503599627370496 ≤ rung u ∧ rung u < 9218868437227405312 := by
  obtain ⟨a, b⟩ := log2_lt u (by omega)
  have hl : u.log2 < 200 := (Nat.log2_lt (by omega)).2 h2
  have hg : 52 ≤ u.log2 := (Nat.le_log2 (by omega)).2 h1
  rw [rung_big u u.log2 a b hg]
  obtain ⟨c, d⟩ := nev_bounds u u.log2 a b hg
  omega
end Go.Proofs.YtdbbmknjldapbaaGreatDoor
/-
  atof64 over a whole number of 19 to 39 digits, walked.
-/
namespace Go.Proofs.YtdbbmknjldapbaaGreatDoor
set_option linter.unusedVariables false
set_option linter.unusedSimpArgs false
open Go.RowKit Go.Lib Go.Sort

/-- A new decimal's cells. -/
def decTail : List Value := [.int .i64 0, .int .i64 0, .bool false, .bool false]
def decZ : List Value := List.replicate 800 (Value.int .u8 0) ++ decTail
theorem zeros_dec : Tryz.zeroCells114 = decZ.toArray := by kernel_rfl
theorem decZ_dig (i : Nat) (hi : i < 800) : decZ[i]? = some (Value.int .u8 0) := by
  unfold decZ
  rw [List.getElem?_append_left (by rw [List.length_replicate]; exact hi), List.getElem?_replicate, if_pos hi]
theorem decZ_tail (i : Nat) : decZ[800 + i]? = decTail[i]? := by
  unfold decZ
  rw [List.getElem?_append_right (by rw [List.length_replicate]; omega), List.length_replicate, Nat.add_sub_cancel_left]
/-- A new decimal. -/
theorem dec_new (w : World) : DcAt (w.alloc (.cells Tryz.zeroCells114 114)) (w.alloc (.cells Tryz.zeroCells114 114)) w.heap.size (fun _ => 0) 0 0 false false := by
  refine ⟨Only.refl _ _, decZ, ?_, by unfold decZ; rw [List.length_append, List.length_replicate]; rfl, fun i hi => decZ_dig i hi, decZ_tail 0, decZ_tail 1, decZ_tail 2, decZ_tail 3⟩
  rw [zeros_dec]
  show (w.heap.push _)[w.heap.size]? = _
  rw [Array.getElem?_push, if_pos rfl]
theorem only_below {b B : Nat} {w w' : World} (h : Only (fun k => k = b) w w') (hB : B ≤ b) (hs : B ≤ w.heap.size) : Below B w w' :=
  h.below hs (fun k hk => by omega)
set_option maxRecDepth 100000 in
set_option maxHeartbeats 1600000 in
theorem atof_all_pos (s : ByteArray) (d p : Nat) (n : Int) {P L : Addr} {T1 T53 : ByteArray}
    (HS0 : ∀ w, Calls Tryz.prog 72 #[.string s] w fun e w' => e = .returned (.tuple #[.float .f64 0, .int .i64 0, .bool false]) ∧ Below w.heap.size w w')
    (HR0 : ∀ w, Calls Tryz.prog 73 #[.string s] w fun e w' => e = .returned (.tuple #[.int .u64 (d : Int), .int .i64 (p : Int), .bool false, .bool false, .bool false, .int .i64 n, .bool true]) ∧ Below w.heap.size w w')
    (hd0 : 1000000000000000000 ≤ d) (hd1 : d < 10000000000000000000) (hp : p ≤ 20) (w : World) (hT : TabQ P L T1 T53 w) :
    Calls Tryz.prog 60 #[.string s] w fun e w' => e = .returned (.tuple #[.float .f64 (0 + rung (d * 10 ^ p)), .int .i64 n, .nilIface]) ∧ Below w.heap.size w w' := by
  have HS := Lib.hid HS0
  have HR := Lib.hid HR0
  have HT := Lib.hid hT
  have HX := Lib.hid (exact_off d p (by omega) (by omega) false)
  have HE := Lib.hid (fun (w' : World) (h : TabQ P L T1 T53 w') => pf_pow d p 0 (by decide) (by omega) (by omega) hp w' h)
  have HE1 := Lib.hid (fun (w' : World) (h : TabQ P L T1 T53 w') => pf_pow (d + 1) p 0 (by decide) (by omega) (by omega) hp w' h)
  have hz : ((d : Int) == 0) = false := by rw [beq_eq_false_iff_ne]; omega
  have q1 : ¬ (310 : Int) < (p : Int) := by omega
  have q2 : ¬ (p : Int) < -345 := by omega
  have q3 : IntKind.u64.wrap ((d : Int) + 1) = ((d + 1 : Nat) : Int) := by rw [IntKind.wrap_u64]; omega
  clear HS0 HR0 hT hd0 hd1 hp
  go_enter Tryz.func60, Tryz.ntmps60
  go_wp2_with fail
  refine (HS.out _).mono ?_
  rintro e w1 ⟨rfl, hb1⟩
  have HB1 := Lib.hid hb1
  have HT1 := Lib.hid (HT.out.on hb1)
  clear hb1
  go_wp2_with fail
  refine (HR.out _).mono ?_
  rintro e w2 ⟨rfl, hb2⟩
  have HB2 := Lib.hid (HB1.out.trans (below_of hb2 HB1.out.size))
  have HT2 := Lib.hid (HT1.out.on hb2)
  have hT2 := HT2.out.opt
  clear hb2
  go_wp2_with fail
  refine (two_u64_f _).mono ?_
  rintro e w3 ⟨rfl, rfl⟩
  go_wp2_with fail
  refine (HX.out _ HT2.out.i0).mono ?_
  rintro e w4 ⟨rfl, hb4⟩
  have HB4 := Lib.hid (HB2.out.trans (below_of hb4 HB2.out.size))
  have HT4 := Lib.hid (HT2.out.on hb4)
  clear hb4
  go_wp2_with fail
  refine (HE.out _ HT4.out).mono ?_
  rintro e w5 ⟨rfl, hb5⟩
  have HB5 := Lib.hid (HB4.out.trans (below_of hb5 HB4.out.size))
  clear hb5
  go_wp2_with fail
  exact bodyPost_ret (v := .tuple #[.float .f64 (0 + rung (d * 10 ^ p)), .int .i64 n, .nilIface]) (by simp [results, Tryz.results60, go_sem]; try rfl) rfl ⟨rfl, HB5.out⟩
set_option maxRecDepth 100000 in
set_option maxHeartbeats 1600000 in
theorem atof_cut_pos (s : ByteArray) (d p x : Nat) (n : Int) {P L : Addr} {T1 T53 : ByteArray}
    (HS0 : ∀ w, Calls Tryz.prog 72 #[.string s] w fun e w' => e = .returned (.tuple #[.float .f64 0, .int .i64 0, .bool false]) ∧ Below w.heap.size w w')
    (HR0 : ∀ w, Calls Tryz.prog 73 #[.string s] w fun e w' => e = .returned (.tuple #[.int .u64 (d : Int), .int .i64 (p : Int), .bool false, .bool true, .bool false, .int .i64 n, .bool true]) ∧ Below w.heap.size w w')
    (hd0 : 1000000000000000000 ≤ d) (hd1 : d < 10000000000000000000) (hp : p ≤ 20) (hn : n = (s.size : Int)) (hx0 : d * 10 ^ p ≤ x) (hx1 : x ≤ (d + 1) * 10 ^ p) (hx2 : x < 2 ^ 128)
    (HD0 : ∀ (b : Nat) (w : World), DcAt w w b (fun _ => 0) 0 0 false false → Calls Tryz.prog 79 #[.pointer (some ⟨b, 0, none⟩), .string s] w fun e w' => e = .returned (.bool true) ∧ ∃ (f : Nat → UInt8) (l : Nat), l ≤ 39 ∧ NumF f l l x 0 ∧ DcAt w w' b f (l : Int) (l : Int) false false) (w : World) (hT : TabQ P L T1 T53 w) :
    Calls Tryz.prog 60 #[.string s] w fun e w' => e = .returned (.tuple #[.float .f64 (0 + rung x), .int .i64 n, .nilIface]) ∧ Below w.heap.size w w' := by
  have HS := Lib.hid HS0
  have HR := Lib.hid HR0
  have HT := Lib.hid hT
  have HX := Lib.hid (exact_off d p (by omega) (by omega) false)
  have HE := Lib.hid (fun (w' : World) (h : TabQ P L T1 T53 w') => pf_pow d p 0 (by decide) (by omega) (by omega) hp w' h)
  have HE1 := Lib.hid (fun (w' : World) (h : TabQ P L T1 T53 w') => pf_pow (d + 1) p 0 (by decide) (by omega) (by omega) hp w' h)
  have hz : ((d : Int) == 0) = false := by rw [beq_eq_false_iff_ne]; omega
  subst hn
  have HD := Lib.hid HD0
  have hB0 : 4503599627370496 ≤ d * 10 ^ p := Nat.le_trans (by omega : 4503599627370496 ≤ d * 1) (Nat.mul_le_mul_left _ (Nat.pow_pos (by decide)))
  have hB1 : (d + 1) * 10 ^ p < 2 ^ 200 := Nat.lt_of_le_of_lt (Nat.mul_le_mul (show d + 1 ≤ 10000000000000000000 by omega) (Nat.pow_le_pow_right (by decide) hp)) (by decide)
  have HX2 := Lib.hid hx2
  have HX0 := Lib.hid (show 2 ^ 53 ≤ x from Nat.le_trans (Nat.le_trans (show 2 ^ 53 ≤ 1000000000000000000 * 1 by decide) (Nat.mul_le_mul hd0 (Nat.pow_pos (by decide)))) hx0)
  have HSame : Hid ((FloatKind.f64.format.order (0 + rung (d * 10 ^ p)) (0 + rung ((d + 1) * 10 ^ p)) == some Ordering.eq) = true → 0 + rung (d * 10 ^ p) = 0 + rung x) := Lib.hid (fun h => by
    obtain ⟨a1, a2⟩ := rung_big_within (d * 10 ^ p) hB0 (by omega)
    obtain ⟨b1, b2⟩ := rung_big_within ((d + 1) * 10 ^ p) (by omega) hB1
    have h3 := rung_same 0 _ _ (by decide) a1 a2 b1 b2 h
    have h4 := rung_mono (d * 10 ^ p) x hB0 hx0
    have h5 := rung_mono x ((d + 1) * 10 ^ p) (by omega) hx1
    omega)
  clear hB0 hB1
  have q1 : ¬ (310 : Int) < (p : Int) := by omega
  have q2 : ¬ (p : Int) < -345 := by omega
  have q3 : IntKind.u64.wrap ((d : Int) + 1) = ((d + 1 : Nat) : Int) := by rw [IntKind.wrap_u64]; omega
  clear HS0 HR0 hT hd0 hd1 hp hx0 hx1 hx2 HD0
  go_enter Tryz.func60, Tryz.ntmps60
  go_wp2_with fail
  refine (HS.out _).mono ?_
  rintro e w1 ⟨rfl, hb1⟩
  have HB1 := Lib.hid hb1
  have HT1 := Lib.hid (HT.out.on hb1)
  clear hb1
  go_wp2_with fail
  refine (HR.out _).mono ?_
  rintro e w2 ⟨rfl, hb2⟩
  have HB2 := Lib.hid (HB1.out.trans (below_of hb2 HB1.out.size))
  have HT2 := Lib.hid (HT1.out.on hb2)
  have hT2 := HT2.out.opt
  clear hb2
  go_wp2_with fail
  refine (two_u64_f _).mono ?_
  rintro e w3 ⟨rfl, rfl⟩
  go_wp2_with fail
  refine (HE.out _ HT2.out).mono ?_
  rintro e w4 ⟨rfl, hb4⟩
  have HB4 := Lib.hid (HB2.out.trans (below_of hb4 HB2.out.size))
  have HT4 := Lib.hid (HT2.out.on hb4)
  clear hb4
  obtain ⟨F, hF⟩ : ∃ F, 0 + rung (d * 10 ^ p) = F := ⟨_, rfl⟩
  rw [hF]
  have HF := Lib.hid hF
  clear hF
  go_wp2_with fail
  refine (HE1.out _ HT4.out).mono ?_
  rintro e w5 ⟨rfl, hb5⟩
  have HB5 := Lib.hid (HB4.out.trans (below_of hb5 HB4.out.size))
  have HT5 := Lib.hid (HT4.out.on hb5)
  clear hb5
  obtain ⟨F1, hF1⟩ : ∃ F1, 0 + rung ((d + 1) * 10 ^ p) = F1 := ⟨_, rfl⟩
  rw [hF1]
  have HF1 := Lib.hid hF1
  clear hF1
  go_wp2_with fail
  · exact bodyPost_ret (v := .tuple #[.float .f64 F, .int .i64 (s.size : Int), .nilIface]) (by simp [results, Tryz.results60, go_sem]; try rfl) rfl ⟨by rw [← HSame.out (by rw [HF.out, HF1.out]; assumption), HF.out], HB5.out⟩
  · refine (HD.out _ _ (dec_new w5)).mono ?_
    rintro e w6 ⟨rfl, f, l, hl, hN, hDc⟩
    have hb6 : Below w5.heap.size w5 w6 := Below.trans (by go_grown) (only_below hDc.only (Nat.le_refl _) (by simp))
    have HN := Lib.hid hN
    have HDc := Lib.hid hDc
    have HB6 := Lib.hid hb6
    have HL := Lib.hid hl
    generalize hw5 : w5.heap.size = b5 at *
    clear hb6 hDc hN hl
    go_wp2_with fail
    refine (float_bits b5 P L l l x T1 T53 f false (by have := HL.out; omega) (by have := HL.out; omega) HN.out HX2.out HX0.out w6 (HT5.out.dec (by rw [hw5]; exact HB6.out) b5 (by omega)) HDc.out.here).mono ?_
    rintro e w7 ⟨rfl, h7⟩
    have HB7 := Lib.hid (Below.trans HB6.out (only_below h7 (Nat.le_refl _) (by have := HDc.out.lt; omega)))
    clear h7
    have HFB := Lib.hid (fun w => frombits_run (0 + rung x) w)
    rw [if_neg (by decide)]
    obtain ⟨R, hR⟩ : ∃ R, 0 + rung x = R := ⟨_, rfl⟩
    rw [hR] at HFB ⊢
    have HR' := Lib.hid hR
    clear hR
    go_wp2_with fail
    rw [HFB.out, Oper.upon_value]
    go_wp2_with fail
    exact bodyPost_ret (v := .tuple #[.float .f64 R, .int .i64 (s.size : Int), .nilIface]) (by simp [results, Tryz.results60, go_sem]; try rfl) rfl ⟨by rw [HR'.out], by rw [← hw5] at HB7; exact HB5.out.trans (below_of HB7.out HB5.out.size)⟩
set_option maxRecDepth 100000 in
set_option maxHeartbeats 1600000 in
theorem atof_all_neg (s : ByteArray) (d p : Nat) (n : Int) {P L : Addr} {T1 T53 : ByteArray}
    (HS0 : ∀ w, Calls Tryz.prog 72 #[.string s] w fun e w' => e = .returned (.tuple #[.float .f64 0, .int .i64 0, .bool false]) ∧ Below w.heap.size w w')
    (HR0 : ∀ w, Calls Tryz.prog 73 #[.string s] w fun e w' => e = .returned (.tuple #[.int .u64 (d : Int), .int .i64 (p : Int), .bool true, .bool false, .bool false, .int .i64 n, .bool true]) ∧ Below w.heap.size w w')
    (hd0 : 1000000000000000000 ≤ d) (hd1 : d < 10000000000000000000) (hp : p ≤ 20) (w : World) (hT : TabQ P L T1 T53 w) :
    Calls Tryz.prog 60 #[.string s] w fun e w' => e = .returned (.tuple #[.float .f64 (9223372036854775808 + rung (d * 10 ^ p)), .int .i64 n, .nilIface]) ∧ Below w.heap.size w w' := by
  have HS := Lib.hid HS0
  have HR := Lib.hid HR0
  have HT := Lib.hid hT
  have HX := Lib.hid (exact_off d p (by omega) (by omega) true)
  have HE := Lib.hid (fun (w' : World) (h : TabQ P L T1 T53 w') => pf_pow d p 9223372036854775808 (by decide) (by omega) (by omega) hp w' h)
  have HE1 := Lib.hid (fun (w' : World) (h : TabQ P L T1 T53 w') => pf_pow (d + 1) p 9223372036854775808 (by decide) (by omega) (by omega) hp w' h)
  have hz : ((d : Int) == 0) = false := by rw [beq_eq_false_iff_ne]; omega
  have q1 : ¬ (310 : Int) < (p : Int) := by omega
  have q2 : ¬ (p : Int) < -345 := by omega
  have q3 : IntKind.u64.wrap ((d : Int) + 1) = ((d + 1 : Nat) : Int) := by rw [IntKind.wrap_u64]; omega
  clear HS0 HR0 hT hd0 hd1 hp
  go_enter Tryz.func60, Tryz.ntmps60
  go_wp2_with fail
  refine (HS.out _).mono ?_
  rintro e w1 ⟨rfl, hb1⟩
  have HB1 := Lib.hid hb1
  have HT1 := Lib.hid (HT.out.on hb1)
  clear hb1
  go_wp2_with fail
  refine (HR.out _).mono ?_
  rintro e w2 ⟨rfl, hb2⟩
  have HB2 := Lib.hid (HB1.out.trans (below_of hb2 HB1.out.size))
  have HT2 := Lib.hid (HT1.out.on hb2)
  have hT2 := HT2.out.opt
  clear hb2
  go_wp2_with fail
  refine (two_u64_t _).mono ?_
  rintro e w3 ⟨rfl, rfl⟩
  go_wp2_with fail
  refine (HX.out _ HT2.out.i0).mono ?_
  rintro e w4 ⟨rfl, hb4⟩
  have HB4 := Lib.hid (HB2.out.trans (below_of hb4 HB2.out.size))
  have HT4 := Lib.hid (HT2.out.on hb4)
  clear hb4
  go_wp2_with fail
  refine (HE.out _ HT4.out).mono ?_
  rintro e w5 ⟨rfl, hb5⟩
  have HB5 := Lib.hid (HB4.out.trans (below_of hb5 HB4.out.size))
  clear hb5
  go_wp2_with fail
  exact bodyPost_ret (v := .tuple #[.float .f64 (9223372036854775808 + rung (d * 10 ^ p)), .int .i64 n, .nilIface]) (by simp [results, Tryz.results60, go_sem]; try rfl) rfl ⟨rfl, HB5.out⟩
set_option maxRecDepth 100000 in
set_option maxHeartbeats 1600000 in
theorem atof_cut_neg (s : ByteArray) (d p x : Nat) (n : Int) {P L : Addr} {T1 T53 : ByteArray}
    (HS0 : ∀ w, Calls Tryz.prog 72 #[.string s] w fun e w' => e = .returned (.tuple #[.float .f64 0, .int .i64 0, .bool false]) ∧ Below w.heap.size w w')
    (HR0 : ∀ w, Calls Tryz.prog 73 #[.string s] w fun e w' => e = .returned (.tuple #[.int .u64 (d : Int), .int .i64 (p : Int), .bool true, .bool true, .bool false, .int .i64 n, .bool true]) ∧ Below w.heap.size w w')
    (hd0 : 1000000000000000000 ≤ d) (hd1 : d < 10000000000000000000) (hp : p ≤ 20) (hn : n = (s.size : Int)) (hx0 : d * 10 ^ p ≤ x) (hx1 : x ≤ (d + 1) * 10 ^ p) (hx2 : x < 2 ^ 128)
    (HD0 : ∀ (b : Nat) (w : World), DcAt w w b (fun _ => 0) 0 0 false false → Calls Tryz.prog 79 #[.pointer (some ⟨b, 0, none⟩), .string s] w fun e w' => e = .returned (.bool true) ∧ ∃ (f : Nat → UInt8) (l : Nat), l ≤ 39 ∧ NumF f l l x 0 ∧ DcAt w w' b f (l : Int) (l : Int) true false) (w : World) (hT : TabQ P L T1 T53 w) :
    Calls Tryz.prog 60 #[.string s] w fun e w' => e = .returned (.tuple #[.float .f64 (9223372036854775808 + rung x), .int .i64 n, .nilIface]) ∧ Below w.heap.size w w' := by
  have HS := Lib.hid HS0
  have HR := Lib.hid HR0
  have HT := Lib.hid hT
  have HX := Lib.hid (exact_off d p (by omega) (by omega) true)
  have HE := Lib.hid (fun (w' : World) (h : TabQ P L T1 T53 w') => pf_pow d p 9223372036854775808 (by decide) (by omega) (by omega) hp w' h)
  have HE1 := Lib.hid (fun (w' : World) (h : TabQ P L T1 T53 w') => pf_pow (d + 1) p 9223372036854775808 (by decide) (by omega) (by omega) hp w' h)
  have hz : ((d : Int) == 0) = false := by rw [beq_eq_false_iff_ne]; omega
  subst hn
  have HD := Lib.hid HD0
  have hB0 : 4503599627370496 ≤ d * 10 ^ p := Nat.le_trans (by omega : 4503599627370496 ≤ d * 1) (Nat.mul_le_mul_left _ (Nat.pow_pos (by decide)))
  have hB1 : (d + 1) * 10 ^ p < 2 ^ 200 := Nat.lt_of_le_of_lt (Nat.mul_le_mul (show d + 1 ≤ 10000000000000000000 by omega) (Nat.pow_le_pow_right (by decide) hp)) (by decide)
  have HX2 := Lib.hid hx2
  have HX0 := Lib.hid (show 2 ^ 53 ≤ x from Nat.le_trans (Nat.le_trans (show 2 ^ 53 ≤ 1000000000000000000 * 1 by decide) (Nat.mul_le_mul hd0 (Nat.pow_pos (by decide)))) hx0)
  have HSame : Hid ((FloatKind.f64.format.order (9223372036854775808 + rung (d * 10 ^ p)) (9223372036854775808 + rung ((d + 1) * 10 ^ p)) == some Ordering.eq) = true → 9223372036854775808 + rung (d * 10 ^ p) = 9223372036854775808 + rung x) := Lib.hid (fun h => by
    obtain ⟨a1, a2⟩ := rung_big_within (d * 10 ^ p) hB0 (by omega)
    obtain ⟨b1, b2⟩ := rung_big_within ((d + 1) * 10 ^ p) (by omega) hB1
    have h3 := rung_same 9223372036854775808 _ _ (by decide) a1 a2 b1 b2 h
    have h4 := rung_mono (d * 10 ^ p) x hB0 hx0
    have h5 := rung_mono x ((d + 1) * 10 ^ p) (by omega) hx1
    omega)
  clear hB0 hB1
  have q1 : ¬ (310 : Int) < (p : Int) := by omega
  have q2 : ¬ (p : Int) < -345 := by omega
  have q3 : IntKind.u64.wrap ((d : Int) + 1) = ((d + 1 : Nat) : Int) := by rw [IntKind.wrap_u64]; omega
  clear HS0 HR0 hT hd0 hd1 hp hx0 hx1 hx2 HD0
  go_enter Tryz.func60, Tryz.ntmps60
  go_wp2_with fail
  refine (HS.out _).mono ?_
  rintro e w1 ⟨rfl, hb1⟩
  have HB1 := Lib.hid hb1
  have HT1 := Lib.hid (HT.out.on hb1)
  clear hb1
  go_wp2_with fail
  refine (HR.out _).mono ?_
  rintro e w2 ⟨rfl, hb2⟩
  have HB2 := Lib.hid (HB1.out.trans (below_of hb2 HB1.out.size))
  have HT2 := Lib.hid (HT1.out.on hb2)
  have hT2 := HT2.out.opt
  clear hb2
  go_wp2_with fail
  refine (two_u64_t _).mono ?_
  rintro e w3 ⟨rfl, rfl⟩
  go_wp2_with fail
  refine (HE.out _ HT2.out).mono ?_
  rintro e w4 ⟨rfl, hb4⟩
  have HB4 := Lib.hid (HB2.out.trans (below_of hb4 HB2.out.size))
  have HT4 := Lib.hid (HT2.out.on hb4)
  clear hb4
  obtain ⟨F, hF⟩ : ∃ F, 9223372036854775808 + rung (d * 10 ^ p) = F := ⟨_, rfl⟩
  rw [hF]
  have HF := Lib.hid hF
  clear hF
  go_wp2_with fail
  refine (HE1.out _ HT4.out).mono ?_
  rintro e w5 ⟨rfl, hb5⟩
  have HB5 := Lib.hid (HB4.out.trans (below_of hb5 HB4.out.size))
  have HT5 := Lib.hid (HT4.out.on hb5)
  clear hb5
  obtain ⟨F1, hF1⟩ : ∃ F1, 9223372036854775808 + rung ((d + 1) * 10 ^ p) = F1 := ⟨_, rfl⟩
  rw [hF1]
  have HF1 := Lib.hid hF1
  clear hF1
  go_wp2_with fail
  · exact bodyPost_ret (v := .tuple #[.float .f64 F, .int .i64 (s.size : Int), .nilIface]) (by simp [results, Tryz.results60, go_sem]; try rfl) rfl ⟨by rw [← HSame.out (by rw [HF.out, HF1.out]; assumption), HF.out], HB5.out⟩
  · refine (HD.out _ _ (dec_new w5)).mono ?_
    rintro e w6 ⟨rfl, f, l, hl, hN, hDc⟩
    have hb6 : Below w5.heap.size w5 w6 := Below.trans (by go_grown) (only_below hDc.only (Nat.le_refl _) (by simp))
    have HN := Lib.hid hN
    have HDc := Lib.hid hDc
    have HB6 := Lib.hid hb6
    have HL := Lib.hid hl
    generalize hw5 : w5.heap.size = b5 at *
    clear hb6 hDc hN hl
    go_wp2_with fail
    refine (float_bits b5 P L l l x T1 T53 f true (by have := HL.out; omega) (by have := HL.out; omega) HN.out HX2.out HX0.out w6 (HT5.out.dec (by rw [hw5]; exact HB6.out) b5 (by omega)) HDc.out.here).mono ?_
    rintro e w7 ⟨rfl, h7⟩
    have HB7 := Lib.hid (Below.trans HB6.out (only_below h7 (Nat.le_refl _) (by have := HDc.out.lt; omega)))
    clear h7
    have HFB := Lib.hid (fun w => frombits_run (9223372036854775808 + rung x) w)
    rw [if_pos rfl]
    obtain ⟨R, hR⟩ : ∃ R, 9223372036854775808 + rung x = R := ⟨_, rfl⟩
    rw [hR] at HFB ⊢
    have HR' := Lib.hid hR
    clear hR
    go_wp2_with fail
    rw [HFB.out, Oper.upon_value]
    go_wp2_with fail
    exact bodyPost_ret (v := .tuple #[.float .f64 R, .int .i64 (s.size : Int), .nilIface]) (by simp [results, Tryz.results60, go_sem]; try rfl) rfl ⟨by rw [HR'.out], by rw [← hw5] at HB7; exact HB5.out.trans (below_of HB7.out HB5.out.size)⟩
end Go.Proofs.YtdbbmknjldapbaaGreatDoor
