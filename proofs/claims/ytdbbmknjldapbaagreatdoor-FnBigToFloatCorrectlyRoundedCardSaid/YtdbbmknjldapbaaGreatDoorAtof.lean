/-
  The library's reading of a whole number's text as a float (internal/strconv.atof64), walked.
-/
import Derived.Test.YtdbbmknjldapbaaGreatDoorSpec
import Derived.Test.YtdbbmknjldapbaaGreatDoorNegF
import Derived.Test.YtdbbmknjldapbaaGreatDoorUx
namespace Go.Proofs.YtdbbmknjldapbaaGreatDoor
set_option linter.unusedVariables false
set_option linter.unusedSimpArgs false
open Go.RowKit Go.Lib Go.Sort

/-- What the walk reads of the library's variables. -/
structure TabF (w : World) : Prop where
  opt : w.cell? ⟨4, 0, none⟩ = some (.bool true)
  man : w.cell? ⟨5, 0, none⟩ = some (.int .u64 52)
  pow : w.cell? ⟨14, (0 + 348) * 2, none⟩ = some (.int .u64 9223372036854775808)
  low : w.cell? ⟨14, (0 + 348) * 2 + 1, none⟩ = some (.int .u64 0)
theorem cell_on {w w' : World} {b o : Nat} {v : Value} (h : Below w.heap.size w w') (hc : w.cell? ⟨b, o, none⟩ = some v) : w'.cell? ⟨b, o, none⟩ = some v := by
  have e := h.block b (lt_of_cell' hc)
  unfold World.cell? at hc ⊢
  simp only [e]
  exact hc
theorem TabF.on {w w' : World} (h : TabF w) (hb : Below w.heap.size w w') : TabF w' :=
  ⟨cell_on hb h.opt, cell_on hb h.man, cell_on hb h.pow, cell_on hb h.low⟩
set_option maxRecDepth 100000 in
theorem exact_pos (d : Nat) (hd : d < 4503599627370496) (w : World) (hT : TabF w) :
    Calls Tryz.prog 83 #[.int .u64 (d : Int), .int .i64 0, .bool false] w fun e w' => e = .returned (.tuple #[.float .f64 (floatOfInt .f64 (d : Int)), .bool true]) ∧ Below w.heap.size w w' := by
  have t1 := hT.man
  have h1 : (d : Int) / 4503599627370496 = 0 := by omega
  generalize hf : floatOfInt .f64 (d : Int) = f
  go_enter Tryz.func83, Tryz.ntmps83
  go_wp2
  go_ret2
  exact ⟨rfl, Below.refl _ _⟩
set_option maxRecDepth 100000 in
theorem exact_neg (d : Nat) (h0 : 0 < d) (hd : d < 4503599627370496) (w : World) (hT : TabF w) :
    Calls Tryz.prog 83 #[.int .u64 (d : Int), .int .i64 0, .bool true] w fun e w' => e = .returned (.tuple #[.float .f64 (floatOfInt .f64 (-(d : Int))), .bool true]) ∧ Below w.heap.size w w' := by
  have t1 := hT.man
  have h1 : (d : Int) / 4503599627370496 = 0 := by omega
  have hn := neg_nearest d h0
  generalize floatOfInt .f64 (-(d : Int)) = f' at *
  generalize hf : floatOfInt .f64 (d : Int) = f at *
  have hu : ∀ w : World, (Op.unary .neg (.float .f64 f)).run Tryz.prog w = .ok (.float .f64 f') w := fun w => by rw [← hn]; rfl
  go_enter Tryz.func83, Tryz.ntmps83
  go_wp2
  go_ret2
  exact ⟨rfl, Below.refl _ _⟩
set_option maxRecDepth 100000 in
theorem exact_no (d : Nat) (hd : 4503599627370496 ≤ d) (hd2 : d < 18446744073709551616) (neg : Bool) (w : World) (hT : TabF w) :
    Calls Tryz.prog 83 #[.int .u64 (d : Int), .int .i64 0, .bool neg] w fun e w' => e = .returned (.tuple #[.float .f64 0, .bool false]) ∧ Below w.heap.size w w' := by
  have t1 := hT.man
  have h1 : ((d : Int) / 4503599627370496 != 0) = true := by rw [bne_iff_ne]; omega
  go_enter Tryz.func83, Tryz.ntmps83
  go_wp2
  go_ret2
  exact ⟨rfl, Below.refl _ _⟩
theorem two_u64_t (w : World) : Calls Tryz.prog 81 #[.bool true] w fun e w' => e = .returned (.int .u64 1) ∧ w' = w := two_u64 true w
theorem two_u64_f (w : World) : Calls Tryz.prog 81 #[.bool false] w fun e w' => e = .returned (.int .u64 0) ∧ w' = w := two_u64 false w
set_option maxRecDepth 100000 in
set_option maxHeartbeats 1600000 in
/-- atof64 at zero. -/
theorem atof_zero (s : ByteArray) (n : Int) (HS0 : ∀ w, Calls Tryz.prog 72 #[.string s] w fun e w' => e = .returned (.tuple #[.float .f64 0, .int .i64 0, .bool false]) ∧ Below w.heap.size w w')
    (HR0 : ∀ w, Calls Tryz.prog 73 #[.string s] w fun e w' => e = .returned (.tuple #[.int .u64 0, .int .i64 0, .bool false, .bool false, .bool false, .int .i64 n, .bool true]) ∧ Below w.heap.size w w')
    (w : World) (hT : TabF w) :
    Calls Tryz.prog 60 #[.string s] w fun e w' => e = .returned (.tuple #[.float .f64 0, .int .i64 n, .nilIface]) ∧ Below w.heap.size w w' := by
  have HS := Lib.hid HS0
  have HR := Lib.hid HR0
  have HT := Lib.hid hT
  clear HS0 HR0 hT
  go_enter Tryz.func60, Tryz.ntmps60
  go_wp2_with fail
  refine (HS.out _).mono ?_
  rintro e w1 ⟨rfl, hb1⟩
  have HB1 := Lib.hid hb1
  have HT1 := Lib.hid (HT.out.on hb1)
  clear hb1
  go_wp2_with fail
  refine (HR.out _).mono ?_
  rintro e w2 ⟨rfl, hb2⟩
  have HB2 := Lib.hid (HB1.out.trans (below_of hb2 HB1.out.size))
  have HT2 := Lib.hid (HT1.out.on hb2)
  have hT2 := HT2.out.opt
  clear hb2
  have hz : bits .or .u64 0 0 = 0 := by decide
  have HF := Lib.hid (fun w => frombits_run 0 w)
  go_wp2_with fail
  refine (two_u64_f _).mono ?_
  rintro e w3 ⟨rfl, rfl⟩
  go_wp2_with fail
  rw [show (0 : Int) = ((0 : Nat) : Int) from rfl, HF.out, Oper.upon_value]
  go_wp2_with fail
  exact bodyPost_ret (v := .tuple #[.float .f64 0, .int .i64 n, .nilIface]) (by simp [results, Tryz.results60, go_sem]; try rfl) rfl ⟨rfl, HB2.out⟩
set_option maxRecDepth 100000 in
set_option maxHeartbeats 1600000 in
/-- atof64 where the number is exact. -/
theorem atof_exact_pos (s : ByteArray) (n : Int) (HS0 : ∀ w, Calls Tryz.prog 72 #[.string s] w fun e w' => e = .returned (.tuple #[.float .f64 0, .int .i64 0, .bool false]) ∧ Below w.heap.size w w') (d F : Nat) (hd : 0 < d) (hd2 : d < 18446744073709551616)
    (HR0 : ∀ w, Calls Tryz.prog 73 #[.string s] w fun e w' => e = .returned (.tuple #[.int .u64 (d : Int), .int .i64 0, .bool false, .bool false, .bool false, .int .i64 n, .bool true]) ∧ Below w.heap.size w w')
    (HE0 : ∀ w, TabF w → Calls Tryz.prog 83 #[.int .u64 (d : Int), .int .i64 0, .bool false] w fun e w' => e = .returned (.tuple #[.float .f64 F, .bool true]) ∧ Below w.heap.size w w')
    (w : World) (hT : TabF w) :
    Calls Tryz.prog 60 #[.string s] w fun e w' => e = .returned (.tuple #[.float .f64 F, .int .i64 n, .nilIface]) ∧ Below w.heap.size w w' := by
  have HE := Lib.hid HE0
  clear HE0
  have HS := Lib.hid HS0
  have HR := Lib.hid HR0
  have HT := Lib.hid hT
  clear HS0 HR0 hT
  go_enter Tryz.func60, Tryz.ntmps60
  go_wp2_with fail
  refine (HS.out _).mono ?_
  rintro e w1 ⟨rfl, hb1⟩
  have HB1 := Lib.hid hb1
  have HT1 := Lib.hid (HT.out.on hb1)
  clear hb1
  go_wp2_with fail
  refine (HR.out _).mono ?_
  rintro e w2 ⟨rfl, hb2⟩
  have HB2 := Lib.hid (HB1.out.trans (below_of hb2 HB1.out.size))
  have HT2 := Lib.hid (HT1.out.on hb2)
  have hT2 := HT2.out.opt
  clear hb2
  have hz : ((d : Int) == 0) = false := by rw [beq_eq_false_iff_ne]; omega
  go_wp2_with fail
  refine (two_u64_f _).mono ?_
  rintro e w3 ⟨rfl, rfl⟩
  go_wp2_with fail
  refine (HE.out _ HT2.out).mono ?_
  rintro e w4 ⟨rfl, hb4⟩
  have HB4 := Lib.hid (HB2.out.trans (below_of hb4 HB2.out.size))
  clear hb4
  go_wp2_with fail
  exact bodyPost_ret (v := .tuple #[.float .f64 F, .int .i64 n, .nilIface]) (by simp [results, Tryz.results60, go_sem]; try rfl) rfl ⟨rfl, HB4.out⟩
set_option maxRecDepth 100000 in
set_option maxHeartbeats 1600000 in
/-- atof64 where the number is scaled. -/
theorem atof_fast_pos (s : ByteArray) (n : Int) (HS0 : ∀ w, Calls Tryz.prog 72 #[.string s] w fun e w' => e = .returned (.tuple #[.float .f64 0, .int .i64 0, .bool false]) ∧ Below w.heap.size w w') (d F : Nat) (hd : 4503599627370496 ≤ d) (hd2 : d < 18446744073709551616)
    (HR0 : ∀ w, Calls Tryz.prog 73 #[.string s] w fun e w' => e = .returned (.tuple #[.int .u64 (d : Int), .int .i64 0, .bool false, .bool false, .bool false, .int .i64 n, .bool true]) ∧ Below w.heap.size w w')
    (HE0 : ∀ w, TabF w → Calls Tryz.prog 84 #[.int .u64 (d : Int), .int .i64 0, .int .u64 0] w fun e w' => e = .returned (.tuple #[.float .f64 F, .nilIface]) ∧ Below w.heap.size w w')
    (w : World) (hT : TabF w) :
    Calls Tryz.prog 60 #[.string s] w fun e w' => e = .returned (.tuple #[.float .f64 F, .int .i64 n, .nilIface]) ∧ Below w.heap.size w w' := by
  have HE := Lib.hid HE0
  have HX := Lib.hid (exact_no d hd hd2 false)
  clear HE0
  have HS := Lib.hid HS0
  have HR := Lib.hid HR0
  have HT := Lib.hid hT
  clear HS0 HR0 hT
  go_enter Tryz.func60, Tryz.ntmps60
  go_wp2_with fail
  refine (HS.out _).mono ?_
  rintro e w1 ⟨rfl, hb1⟩
  have HB1 := Lib.hid hb1
  have HT1 := Lib.hid (HT.out.on hb1)
  clear hb1
  go_wp2_with fail
  refine (HR.out _).mono ?_
  rintro e w2 ⟨rfl, hb2⟩
  have HB2 := Lib.hid (HB1.out.trans (below_of hb2 HB1.out.size))
  have HT2 := Lib.hid (HT1.out.on hb2)
  have hT2 := HT2.out.opt
  clear hb2
  have hz : ((d : Int) == 0) = false := by rw [beq_eq_false_iff_ne]; omega
  go_wp2_with fail
  refine (two_u64_f _).mono ?_
  rintro e w3 ⟨rfl, rfl⟩
  go_wp2_with fail
  refine (HX.out _ HT2.out).mono ?_
  rintro e w4 ⟨rfl, hb4⟩
  have HB4 := Lib.hid (HB2.out.trans (below_of hb4 HB2.out.size))
  have HT4 := Lib.hid (HT2.out.on hb4)
  clear hb4
  go_wp2_with fail
  refine (HE.out _ HT4.out).mono ?_
  rintro e w5 ⟨rfl, hb5⟩
  have HB5 := Lib.hid (HB4.out.trans (below_of hb5 HB4.out.size))
  clear hb5
  go_wp2_with fail
  exact bodyPost_ret (v := .tuple #[.float .f64 F, .int .i64 n, .nilIface]) (by simp [results, Tryz.results60, go_sem]; try rfl) rfl ⟨rfl, HB5.out⟩
set_option maxRecDepth 100000 in
set_option maxHeartbeats 1600000 in
/-- atof64 where the number is exact. -/
theorem atof_exact_neg (s : ByteArray) (n : Int) (HS0 : ∀ w, Calls Tryz.prog 72 #[.string s] w fun e w' => e = .returned (.tuple #[.float .f64 0, .int .i64 0, .bool false]) ∧ Below w.heap.size w w') (d F : Nat) (hd : 0 < d) (hd2 : d < 18446744073709551616)
    (HR0 : ∀ w, Calls Tryz.prog 73 #[.string s] w fun e w' => e = .returned (.tuple #[.int .u64 (d : Int), .int .i64 0, .bool true, .bool false, .bool false, .int .i64 n, .bool true]) ∧ Below w.heap.size w w')
    (HE0 : ∀ w, TabF w → Calls Tryz.prog 83 #[.int .u64 (d : Int), .int .i64 0, .bool true] w fun e w' => e = .returned (.tuple #[.float .f64 F, .bool true]) ∧ Below w.heap.size w w')
    (w : World) (hT : TabF w) :
    Calls Tryz.prog 60 #[.string s] w fun e w' => e = .returned (.tuple #[.float .f64 F, .int .i64 n, .nilIface]) ∧ Below w.heap.size w w' := by
  have HE := Lib.hid HE0
  clear HE0
  have HS := Lib.hid HS0
  have HR := Lib.hid HR0
  have HT := Lib.hid hT
  clear HS0 HR0 hT
  go_enter Tryz.func60, Tryz.ntmps60
  go_wp2_with fail
  refine (HS.out _).mono ?_
  rintro e w1 ⟨rfl, hb1⟩
  have HB1 := Lib.hid hb1
  have HT1 := Lib.hid (HT.out.on hb1)
  clear hb1
  go_wp2_with fail
  refine (HR.out _).mono ?_
  rintro e w2 ⟨rfl, hb2⟩
  have HB2 := Lib.hid (HB1.out.trans (below_of hb2 HB1.out.size))
  have HT2 := Lib.hid (HT1.out.on hb2)
  have hT2 := HT2.out.opt
  clear hb2
  have hz : ((d : Int) == 0) = false := by rw [beq_eq_false_iff_ne]; omega
  go_wp2_with fail
  refine (two_u64_t _).mono ?_
  rintro e w3 ⟨rfl, rfl⟩
  go_wp2_with fail
  refine (HE.out _ HT2.out).mono ?_
  rintro e w4 ⟨rfl, hb4⟩
  have HB4 := Lib.hid (HB2.out.trans (below_of hb4 HB2.out.size))
  clear hb4
  go_wp2_with fail
  exact bodyPost_ret (v := .tuple #[.float .f64 F, .int .i64 n, .nilIface]) (by simp [results, Tryz.results60, go_sem]; try rfl) rfl ⟨rfl, HB4.out⟩
set_option maxRecDepth 100000 in
set_option maxHeartbeats 1600000 in
/-- atof64 where the number is scaled. -/
theorem atof_fast_neg (s : ByteArray) (n : Int) (HS0 : ∀ w, Calls Tryz.prog 72 #[.string s] w fun e w' => e = .returned (.tuple #[.float .f64 0, .int .i64 0, .bool false]) ∧ Below w.heap.size w w') (d F : Nat) (hd : 4503599627370496 ≤ d) (hd2 : d < 18446744073709551616)
    (HR0 : ∀ w, Calls Tryz.prog 73 #[.string s] w fun e w' => e = .returned (.tuple #[.int .u64 (d : Int), .int .i64 0, .bool true, .bool false, .bool false, .int .i64 n, .bool true]) ∧ Below w.heap.size w w')
    (HE0 : ∀ w, TabF w → Calls Tryz.prog 84 #[.int .u64 (d : Int), .int .i64 0, .int .u64 9223372036854775808] w fun e w' => e = .returned (.tuple #[.float .f64 F, .nilIface]) ∧ Below w.heap.size w w')
    (w : World) (hT : TabF w) :
    Calls Tryz.prog 60 #[.string s] w fun e w' => e = .returned (.tuple #[.float .f64 F, .int .i64 n, .nilIface]) ∧ Below w.heap.size w w' := by
  have HE := Lib.hid HE0
  have HX := Lib.hid (exact_no d hd hd2 true)
  clear HE0
  have HS := Lib.hid HS0
  have HR := Lib.hid HR0
  have HT := Lib.hid hT
  clear HS0 HR0 hT
  go_enter Tryz.func60, Tryz.ntmps60
  go_wp2_with fail
  refine (HS.out _).mono ?_
  rintro e w1 ⟨rfl, hb1⟩
  have HB1 := Lib.hid hb1
  have HT1 := Lib.hid (HT.out.on hb1)
  clear hb1
  go_wp2_with fail
  refine (HR.out _).mono ?_
  rintro e w2 ⟨rfl, hb2⟩
  have HB2 := Lib.hid (HB1.out.trans (below_of hb2 HB1.out.size))
  have HT2 := Lib.hid (HT1.out.on hb2)
  have hT2 := HT2.out.opt
  clear hb2
  have hz : ((d : Int) == 0) = false := by rw [beq_eq_false_iff_ne]; omega
  go_wp2_with fail
  refine (two_u64_t _).mono ?_
  rintro e w3 ⟨rfl, rfl⟩
  go_wp2_with fail
  refine (HX.out _ HT2.out).mono ?_
  rintro e w4 ⟨rfl, hb4⟩
  have HB4 := Lib.hid (HB2.out.trans (below_of hb4 HB2.out.size))
  have HT4 := Lib.hid (HT2.out.on hb4)
  clear hb4
  go_wp2_with fail
  refine (HE.out _ HT4.out).mono ?_
  rintro e w5 ⟨rfl, hb5⟩
  have HB5 := Lib.hid (HB4.out.trans (below_of hb5 HB4.out.size))
  clear hb5
  go_wp2_with fail
  exact bodyPost_ret (v := .tuple #[.float .f64 F, .int .i64 n, .nilIface]) (by simp [results, Tryz.results60, go_sem]; try rfl) rfl ⟨rfl, HB5.out⟩
end Go.Proofs.YtdbbmknjldapbaaGreatDoor
