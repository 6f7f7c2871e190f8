/-
  The comparison that three laws of package n001_101 share, walked.
-/
import Derived.Test.YtconaigmmhdlmaaGreatFmtPrevStr
import Derived.Test.YtconaigmmhdlmaaGreatFmtPrevAscii101
import Derived.Test.YtconaigmmhdlmaaGreatFmtPlain101
import Derived.Test.YtconaigmmhdlmaaGreatFmtItoa101
namespace Go.Proofs.YtconaigmmhdlmaaGreatFmt
set_option linter.unusedVariables false
set_option linter.unusedSimpArgs false
open Go.RowKit Go.Lib Go.Sort

set_option maxRecDepth 100000 in
theorem boolText101 (b : Bool) (w : World) : Calls Tryz.prog 43 #[.bool b] w (Says w (boolText b)) := by
  cases b
  · go_enter Tryz.func43, Tryz.ntmps43
    go_wp2
    go_ret
    exact ⟨rfl, by go_grown⟩
  · go_enter Tryz.func43, Tryz.ntmps43
    go_wp2
    go_ret
    exact ⟨rfl, by go_grown⟩
theorem boolText_le (b : Bool) : (boolText b).length ≤ 5 := by cases b <;> decide
theorem prevAscii_le (l : List UInt8) : (prevAscii l).length ≤ 30 := by
  unfold prevAscii
  split
  · assumption
  · rw [List.length_append, List.length_take]; simp only [dots, List.length_cons, List.length_nil]; omega
theorem tepStr_ascii (s : ByteArray) (h : s.data.toList.all printB = true) : tepStr s = sString ++ ([32, 40] ++ (prevAscii s.data.toList ++ [41])) := by
  unfold tepStr
  rw [preview_printable _ (fun b hb => by
    have := List.all_eq_true.1 h b hb
    unfold printB at this
    simp at this
    exact this)]

set_option maxRecDepth 100000 in
set_option maxHeartbeats 3200000 in
theorem check_exact (pre : List UInt8) (hpre : pre.length ≤ 100) (b : Bool) (n : Int) (h0 : -9223372036854775808 ≤ n) (h1 : n ≤ 9223372036854775807) (s : ByteArray) (hs : s.size ≤ 2097152) (w : World) (hT : Tabs w) :
    Calls Tryz.prog 12 #[.string ⟨pre.toArray⟩, .string ⟨(pre ++ [110, 117, 108, 108]).toArray⟩, .string ⟨(pre ++ tepBool b).toArray⟩, .string ⟨(pre ++ tepInt n).toArray⟩, .string ⟨(pre ++ tepStr s).toArray⟩, .bool b, .int .i64 n, .string s] w
      fun e w' => e = .returned (.bool true) ∧ Below w.heap.size w w' := by
  have yb := boolText_le b
  have yn := itoa_length_le n h0 h1
  have ya := prevAscii_le s.data.toList
  have zN2 : ¬ 9223372036854775807 < pre.length + 4 := by omega
  have zB2 : ¬ 9223372036854775807 < pre.length + 9 := by omega
  have zB3 : ¬ 9223372036854775807 < pre.length + 9 + (boolText b).length := by omega
  have zB4 : ¬ 9223372036854775807 < pre.length + 9 + (boolText b).length + 1 := by omega
  have zI2 : ¬ 9223372036854775807 < pre.length + 8 := by omega
  have zI3 : ¬ 9223372036854775807 < pre.length + 8 + (itoa n).length := by omega
  have zI4 : ¬ 9223372036854775807 < pre.length + 8 + (itoa n).length + 1 := by omega
  have zS2 : ¬ 9223372036854775807 < pre.length + 8 := by omega
  have zS3 : ¬ 9223372036854775807 < pre.length + 8 + (prevAscii s.data.toList).length := by omega
  have zS4 : ¬ 9223372036854775807 < pre.length + 8 + (prevAscii s.data.toList).length + 1 := by omega
  have hEN' : (pre ++ [110, 117, 108, 108] == ((⟨pre.toArray⟩ : ByteArray) ++ ⟨#[110, 117, 108, 108]⟩).toList) = true := eq_text (by simp [tepBool, tepInt, sBoolean, sNumber])
  have hEN : (pre ++ [110, 117, 108, 108] != ((⟨pre.toArray⟩ : ByteArray) ++ ⟨#[110, 117, 108, 108]⟩).toList) = false := by rw [bne, eq_text (by simp [tepBool, tepInt, sBoolean, sNumber])]; rfl
  have hEB' : (pre ++ tepBool b == ((⟨pre.toArray⟩ : ByteArray) ++ ⟨#[98, 111, 111, 108, 101, 97, 110, 32, 40]⟩ ++ ⟨(boolText b).toArray⟩ ++ ⟨#[41]⟩).toList) = true := eq_text (by simp [tepBool, tepInt, sBoolean, sNumber])
  have hEB : (pre ++ tepBool b != ((⟨pre.toArray⟩ : ByteArray) ++ ⟨#[98, 111, 111, 108, 101, 97, 110, 32, 40]⟩ ++ ⟨(boolText b).toArray⟩ ++ ⟨#[41]⟩).toList) = false := by rw [bne, eq_text (by simp [tepBool, tepInt, sBoolean, sNumber])]; rfl
  have hEI' : (pre ++ tepInt n == ((⟨pre.toArray⟩ : ByteArray) ++ ⟨#[110, 117, 109, 98, 101, 114, 32, 40]⟩ ++ ⟨(itoa n).toArray⟩ ++ ⟨#[41]⟩).toList) = true := eq_text (by simp [tepBool, tepInt, sBoolean, sNumber])
  have hEI : (pre ++ tepInt n != ((⟨pre.toArray⟩ : ByteArray) ++ ⟨#[110, 117, 109, 98, 101, 114, 32, 40]⟩ ++ ⟨(itoa n).toArray⟩ ++ ⟨#[41]⟩).toList) = false := by rw [bne, eq_text (by simp [tepBool, tepInt, sBoolean, sNumber])]; rfl
  have HB := Lib.hid (says_from (fun w _ => boolText101 b w) hT)
  have HI := Lib.hid (says_from (fun w _ => itoa101_any n h0 h1 w) hT)
  have HA := Lib.hid (fun w => plain101_any s hs w)
  have HP := Lib.hid (says_from (fun w _ => prevAscii101_any s hs w) hT)
  clear hT
  cases hall : s.data.toList.all printB
  · go_enter Tryz.func12, Tryz.ntmps12
    go_wp2_with fail
    refine (HB.out _ (Below.refl _ _)).mono ?_
    rintro e w1 ⟨rfl, hb1⟩
    go_wp2_with fail
    refine (HI.out _ hb1).mono ?_
    rintro e w2 ⟨rfl, hb2⟩
    go_wp2_with fail
    refine (HA.out _).mono ?_
    rintro e w3 ⟨rfl, hb3'⟩
    have hb3 := hb2.trans (below_of hb3' hb2.size)
    clear hb3'
    go_wp2_with fail
    go_ret
    exact ⟨rfl, hb3⟩
  · have hsafe := tepStr_ascii s hall
    have hES' : (pre ++ tepStr s == ((⟨pre.toArray⟩ : ByteArray) ++ ⟨#[115, 116, 114, 105, 110, 103, 32, 40]⟩ ++ ⟨(prevAscii s.data.toList).toArray⟩ ++ ⟨#[41]⟩).toList) = true := eq_text (by rw [hsafe]; simp [sString])
    have hES : (pre ++ tepStr s != ((⟨pre.toArray⟩ : ByteArray) ++ ⟨#[115, 116, 114, 105, 110, 103, 32, 40]⟩ ++ ⟨(prevAscii s.data.toList).toArray⟩ ++ ⟨#[41]⟩).toList) = false := by rw [bne, eq_text (by rw [hsafe]; simp [sString])]; rfl
    clear hsafe
    go_enter Tryz.func12, Tryz.ntmps12
    go_wp2_with fail
    refine (HB.out _ (Below.refl _ _)).mono ?_
    rintro e w1 ⟨rfl, hb1⟩
    go_wp2_with fail
    refine (HI.out _ hb1).mono ?_
    rintro e w2 ⟨rfl, hb2⟩
    go_wp2_with fail
    refine (HA.out _).mono ?_
    rintro e w3 ⟨rfl, hb3'⟩
    have hb3 := hb2.trans (below_of hb3' hb2.size)
    clear hb3'
    go_wp2_with fail
    refine (HP.out _ hb3).mono ?_
    rintro e w4 ⟨rfl, hb4⟩
    go_wp2_with fail
    go_ret
    exact ⟨rfl, hb4⟩
end Go.Proofs.YtconaigmmhdlmaaGreatFmt
