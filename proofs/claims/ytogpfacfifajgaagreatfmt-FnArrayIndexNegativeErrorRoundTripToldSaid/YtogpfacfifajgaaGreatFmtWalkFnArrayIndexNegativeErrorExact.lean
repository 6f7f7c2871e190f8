/-
  arrayIndexNegativeError's text; the walk of the law FnArrayIndexNegativeErrorExact.
-/
import Derived.Test.YtogpfacfifajgaaGreatFmtPreview
import Derived.Test.YtogpfacfifajgaaGreatFmtTep
import Derived.Test.YtogpfacfifajgaaGreatFmtItoa101
import Derived.Deep.RegionWith
namespace Go.Proofs.YtogpfacfifajgaaGreatFmt
set_option linter.unusedVariables false
set_option linter.unusedSimpArgs false
open Go.RowKit Go.Lib Go.Sort

def negPre : List UInt8 := [97, 114, 114, 97, 121, 32, 105, 110, 100, 101, 120, 32, 115, 104, 111, 117, 108, 100, 32, 110, 111, 116, 32, 98, 101, 32, 110, 101, 103, 97, 116, 105, 118, 101, 58, 32]
def negPreB : ByteArray := ⟨#[97, 114, 114, 97, 121, 32, 105, 110, 100, 101, 120, 32, 115, 104, 111, 117, 108, 100, 32, 110, 111, 116, 32, 98, 101, 32, 110, 101, 103, 97, 116, 105, 118, 101, 58, 32]⟩

set_option maxRecDepth 100000 in
set_option maxHeartbeats 1600000 in
theorem neg_error (n : Int) (h0 : -9223372036854775808 ≤ n) (h1 : n ≤ 9223372036854775807) (w : World) (hT : Tabs w) (p : Addr) (hc : w.cell? p = some (.int .i64 n)) :
    Calls Tryz.prog 33 #[.pointer (some p)] w (Says w (negPre ++ itoa n)) := by
  have HP := Lib.hid (says_from (preview_int n h0 h1) hT)
  have hlen := itoa_length_le n h0 h1
  have z1 : ¬ 9223372036854775807 < 36 + (itoa n).length := by omega
  clear hT
  go_enter Tryz.func33, Tryz.ntmps33
  go_wp2_with (go_at_call 29; refine (HP.out _ ?_).mono ?_; go_grown; rintro e w1 ⟨rfl, hb1⟩)
  go_ret
  exact ⟨(says_str (by simp [negPre]) : Ending.returned (.string ((⟨#[97, 114, 114, 97, 121, 32, 105, 110, 100, 101, 120, 32, 115, 104, 111, 117, 108, 100, 32, 110, 111, 116, 32, 98, 101, 32, 110, 101, 103, 97, 116, 105, 118, 101, 58, 32]⟩ : ByteArray) ++ ⟨(itoa n).toArray⟩)) = _), hb1⟩

set_option maxRecDepth 100000 in
set_option maxHeartbeats 1600000 in
theorem zzneg (n : Int) (h0 : -9223372036854775808 ≤ n) (h1 : n ≤ 9223372036854775807) (w : World) (hT : Tabs w) :
    Calls Tryz.prog 21 #[.int .i64 n] w (Says w (negPre ++ itoa n)) := by
  have HP := Lib.hid (fun w1 (hb : Below w.heap.size w w1) p hc => neg_error n h0 h1 w1 (hT.on hb) p hc)
  clear hT
  go_enter Tryz.func21, Tryz.ntmps21
  go_wp2_with fail
  have hb : Below w.heap.size w (w.alloc (.cells #[.int .i64 n] 53)) := by go_grown
  refine (HP.out _ hb ⟨w.heap.size, 0, none⟩ (by go_simp)).mono ?_
  rintro e w1 ⟨rfl, hb1⟩
  have hb2 := hb.trans (below_of hb1 hb.size)
  go_wp2_with fail
  go_ret
  exact ⟨rfl, hb2⟩

set_option maxRecDepth 100000 in
set_option maxHeartbeats 1600000 in
theorem walk_FnArrayIndexNegativeErrorExact (n : Int) (W : World) (wn : (Lit.int .i64 n).wf = true) (hD : Tabs W) :
    Calls Tryz.prog 7 #[.int .i64 n] W fun e w' => e = .returned (.bool true) ∧ Below W.heap.size W w' := by
  have b := bounds_int wn
  have HP := Lib.hid (says_from (zzneg n b.1 b.2) hD)
  have HI := Lib.hid (says_from (fun w _ => itoa101_any n b.1 b.2 w) hD)
  have hlen := itoa_length_le n b.1 b.2
  have z1 : ¬ 9223372036854775807 < 36 + (itoa n).length := by omega
  have hE : (negPre ++ itoa n == ((⟨#[97, 114, 114, 97, 121, 32, 105, 110, 100, 101, 120, 32, 115, 104, 111, 117, 108, 100, 32, 110, 111, 116, 32, 98, 101, 32, 110, 101, 103, 97, 116, 105, 118, 101, 58, 32]⟩ : ByteArray) ++ ⟨(itoa n).toArray⟩).toList) = true := eq_text (by simp [negPre])
  clear hD
  go_enter Tryz.func7, Tryz.ntmps7
  go_wp2_with (first
    | (go_at_call 21; refine (HP.out _ ?_).mono ?_; go_grown; rintro e w1 ⟨rfl, hb1⟩)
    | (go_at_call 22; refine (HI.out _ ?_).mono ?_; go_grown; rintro e w2 ⟨rfl, hb2⟩))
  go_ret
  exact ⟨rfl, hb2⟩
end Go.Proofs.YtogpfacfifajgaaGreatFmt
