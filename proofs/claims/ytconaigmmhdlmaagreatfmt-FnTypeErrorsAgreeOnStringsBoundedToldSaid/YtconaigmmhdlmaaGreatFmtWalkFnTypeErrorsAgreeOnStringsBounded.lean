/-
  The walk of the law FnTypeErrorsAgreeOnStringsBounded.
-/
import Derived.Test.YtconaigmmhdlmaaGreatFmtErrExpObj
import Derived.Test.YtconaigmmhdlmaaGreatFmtErrExpArr
import Derived.Test.YtconaigmmhdlmaaGreatFmtErrIter
import Derived.Test.YtconaigmmhdlmaaGreatFmtPrevStr
import Derived.Test.YtconaigmmhdlmaaGreatFmtShape
namespace Go.Proofs.YtconaigmmhdlmaaGreatFmt
set_option linter.unusedVariables false
set_option linter.unusedSimpArgs false
open Go.RowKit Go.Lib Go.Sort

set_option maxRecDepth 100000 in
set_option maxHeartbeats 1600000 in
theorem zza_ExpObj (s : ByteArray) (hs : s.size ≤ 2097152) (w : World) (hT : Tabs w) :
    Calls Tryz.prog 16 #[.string s] w (Says w (txtExpObj (tepStr s))) := by
  have hb : Below w.heap.size w (w.alloc (.cells #[.iface 9 (.string s)] 42)) := by go_grown
  have hl : w.heap.size < (w.alloc (.cells #[.iface 9 (.string s)] 42)).heap.size := by show w.heap.size < (w.heap.push _).size; simp
  have HP := Lib.hid (errExpObj (.iface 9 (.string s)) (tepStr s)  (Nat.le_trans (tepStr_le s) (by omega))
    (tep_str s hs)
    (w.alloc (.cells #[.iface 9 (.string s)] 42)) (hT.on hb) w.heap.size hl (by go_simp))
  have HB := Lib.hid hb
  clear hb hl hT
  go_enter Tryz.func16, Tryz.ntmps16
  go_wp2_with fail
  refine HP.out.mono ?_
  rintro e w1 ⟨rfl, hb1⟩
  have hb2 := HB.out.trans (below_of hb1 HB.out.size)
  go_wp2_with fail
  go_ret
  exact ⟨rfl, hb2⟩

set_option maxRecDepth 100000 in
set_option maxHeartbeats 1600000 in
theorem zza_ExpArr (s : ByteArray) (hs : s.size ≤ 2097152) (w : World) (hT : Tabs w) :
    Calls Tryz.prog 21 #[.string s] w (Says w (txtExpArr (tepStr s))) := by
  have hb : Below w.heap.size w (w.alloc (.cells #[.iface 9 (.string s)] 44)) := by go_grown
  have hl : w.heap.size < (w.alloc (.cells #[.iface 9 (.string s)] 44)).heap.size := by show w.heap.size < (w.heap.push _).size; simp
  have HP := Lib.hid (errExpArr (.iface 9 (.string s)) (tepStr s)  (Nat.le_trans (tepStr_le s) (by omega))
    (tep_str s hs)
    (w.alloc (.cells #[.iface 9 (.string s)] 44)) (hT.on hb) w.heap.size hl (by go_simp))
  have HB := Lib.hid hb
  clear hb hl hT
  go_enter Tryz.func21, Tryz.ntmps21
  go_wp2_with fail
  refine HP.out.mono ?_
  rintro e w1 ⟨rfl, hb1⟩
  have hb2 := HB.out.trans (below_of hb1 HB.out.size)
  go_wp2_with fail
  go_ret
  exact ⟨rfl, hb2⟩

set_option maxRecDepth 100000 in
set_option maxHeartbeats 1600000 in
theorem zza_Iter (s : ByteArray) (hs : s.size ≤ 2097152) (w : World) (hT : Tabs w) :
    Calls Tryz.prog 26 #[.string s] w (Says w (txtIter (tepStr s))) := by
  have hb : Below w.heap.size w (w.alloc (.cells #[.iface 9 (.string s)] 46)) := by go_grown
  have hl : w.heap.size < (w.alloc (.cells #[.iface 9 (.string s)] 46)).heap.size := by show w.heap.size < (w.heap.push _).size; simp
  have HP := Lib.hid (errIter (.iface 9 (.string s)) (tepStr s)  (Nat.le_trans (tepStr_le s) (by omega))
    (tep_str s hs)
    (w.alloc (.cells #[.iface 9 (.string s)] 46)) (hT.on hb) w.heap.size hl (by go_simp))
  have HB := Lib.hid hb
  clear hb hl hT
  go_enter Tryz.func26, Tryz.ntmps26
  go_wp2_with fail
  refine HP.out.mono ?_
  rintro e w1 ⟨rfl, hb1⟩
  have hb2 := HB.out.trans (below_of hb1 HB.out.size)
  go_wp2_with fail
  go_ret
  exact ⟨rfl, hb2⟩

set_option maxHeartbeats 800000 in
theorem bytes_FnTypeErrorsAgreeOnStringsBounded (s : ByteArray) (hs : s.size ≤ 140737488351232) (w : World) :
    Calls Tryz.prog 27 #[.string s] w fun e w' => (∃ b, e = .returned (.bool b)) ∧ Below w.heap.size w w' := by
  go_enter Tryz.func27, Tryz.ntmps27
  go_wp2
  repeat (any_goals go_region; any_goals go_wp2)
  all_goals (go_ret; exact ⟨⟨_, rfl⟩, by go_grown⟩)

theorem hasPrefix101 (s p : ByteArray) (t : List UInt8) (h : s.data.toList = p.data.toList ++ t) (hp2 : p.size ≤ 1000) (w : World) :
    Calls Tryz.prog 28 #[.string s, .string p] w fun e w' => e = .returned (.bool true) ∧ Below w.heap.size w w' := by
  have hs : s.data.toList.length = s.size := by rw [Array.length_toList]; rfl
  have hp : p.data.toList.length = p.size := by rw [Array.length_toList]; rfl
  have hle : p.size ≤ s.size := by rw [← hs, ← hp, h, List.length_append]; omega
  have hat : ∀ (k : Nat) (h1 : k < p.size) (h2 : k < s.size), s[k] = p[k] := by
    intro k h1 h2
    have e1 : s.data.toList[k]? = some s[k] := by rw [Array.getElem?_toList, Array.getElem?_eq_getElem h2]; rfl
    have e2 : p.data.toList[k]? = some p[k] := by rw [Array.getElem?_toList, Array.getElem?_eq_getElem h1]; rfl
    rw [h, List.getElem?_append_left (by omega), e2] at e1
    exact (Option.some.inj e1).symm
  have hz : ¬ (s.size : Int) < (p.size : Int) := by omega
  clear hs hp h
  go_enter Tryz.func28, Tryz.ntmps28
  go_wp2_with fail
  go_loopw [5] (fun vi wr => ∃ k : Nat, vi = .int .i64 (k : Int) ∧ k ≤ p.size ∧ Below w.heap.size w wr) (fun vi _ => p.size - (RowKit.intOf vi).toNat)
  case atStart => exact ⟨0, rfl, by omega, Below.refl _ _⟩
  case round =>
    obtain ⟨k, rfl, hk, hb⟩ := hrel
    by_cases hkp : k < p.size
    · have e := hat k hkp (by omega)
      have q1 : (k : Int) < (s.size : Int) := by omega
      have q2 : (k : Int) < (p.size : Int) := by omega
      have HA := Lib.hid hat
      clear hat
      go_wp2_with fail
      go_region
      go_wp2_with fail
      go_roundw
      case rel => exact ⟨k + 1, by go_num, by omega, hb.drew⟩
      case measure => simp [RowKit.intOf]; omega
    · obtain rfl : k = p.size := by omega
      go_wp2_with fail
      go_ret
      exact ⟨rfl, hb⟩
theorem from101 {f : FuncId} {args : Array Value} {v : Value} {W : World} (h : ∀ w, Calls Tryz.prog f args w fun e w' => e = .returned v ∧ Below w.heap.size w w') :
    ∀ w, Below W.heap.size W w → Calls Tryz.prog f args w fun e w' => e = .returned v ∧ Below W.heap.size W w' := fun w hb =>
  (h w).mono fun e w' ⟨he, hb'⟩ => ⟨he, hb.trans (below_of hb' hb.size)⟩
theorem cut101 (s t : ByteArray) (pre : List UInt8) (h : s.data.toList = pre ++ t.data.toList) (n : Int) (hn : n = (pre.length : Int)) (wx : World) : (Instr.slice 9 (.string s) (some (.int .i64 n)) none none).run Tryz.prog wx = .ok (.string t) wx := by
  have hs : s.data.toList.length = s.size := by rw [Array.length_toList]; rfl
  have hle : pre.length ≤ s.size := by rw [← hs, h, List.length_append]; omega
  subst hn
  rw [run_slice_string_l (P := Tryz.prog) wx 9 s Tryz.underlying9 .i64 (pre.length : Int) (by omega) (by omega), Int.toNat_natCast]
  congr 2
  apply ByteArray.ext
  apply Array.toList_inj.1
  rw [Lib.extract_data, ← hs, List.take_of_length_le (by rw [List.length_drop]; omega), h, List.drop_left]
def strOpen : List UInt8 := [115, 116, 114, 105, 110, 103, 32, 40, 34]
/-- The tail: opened, some text of at most 28 bytes, a quote and a bracket. -/
theorem tail_shape (s : ByteArray) : ∃ mid, tepStr s = strOpen ++ (mid ++ [34, 41]) ∧ mid.length ≤ 28 := by
  obtain ⟨mid, hm⟩ := preview_shape s.data.toList
  have hl := previewOf_le (quoted s.data.toList)
  refine ⟨mid, ?_, ?_⟩
  · unfold tepStr
    rw [hm]
    simp [sString, strOpen]
  · rw [hm] at hl
    simp at hl
    omega
theorem byte_at (t : ByteArray) (L : List UInt8) (h : t.data.toList = L) (k : Nat) (x : UInt8) (hx : L[k]? = some x) : ∃ hk : k < t.size, t[k] = x := by
  have hk : k < t.size := by
    have h1 := (List.getElem?_eq_some_iff.1 hx).1
    rw [← h, Array.length_toList] at h1
    exact h1
  refine ⟨hk, ?_⟩
  have e1 : t.data.toList[k]? = some t[k] := by rw [Array.getElem?_toList, Array.getElem?_eq_getElem hk]; rfl
  rw [h, hx] at e1
  exact (Option.some.inj e1).symm
/-- Reading a text at a place that is given as an int. -/
theorem index_at (t : ByteArray) (k : Nat) (i : Int) (hi : i = (k : Int)) (x : UInt8) (hx : ∃ hk : k < t.size, t[k] = x) (wx : World) : (Instr.index 9 (.string t) (.int .i64 i)).run Tryz.prog wx = .ok (.int .u8 (x.toNat : Int)) wx := by
  obtain ⟨hk, hx⟩ := hx
  subst hi
  rw [run_index_string wx 9 t .i64 (k : Int) Tryz.underlying9, dif_pos ⟨by omega, by omega⟩]
  simp only [Int.toNat_natCast, hx]

set_option maxRecDepth 100000 in
set_option maxHeartbeats 3200000 in
theorem walk_FnTypeErrorsAgreeOnStringsBounded (s : ByteArray) (W : World) (ws : s.size ≤ 140737488351232) (hD : Tabs W) :
    Calls Tryz.prog 6 #[.string s] W fun e w' => e = .returned (.bool true) ∧ Below W.heap.size W w' := by
  have HZ := Lib.hid (bytes_FnTypeErrorsAgreeOnStringsBounded s ws W)
  have HD := Lib.hid hD
  clear hD
  by_cases gs : 1048576 < s.size
  · have qs : (1048576 : Int) < (s.size : Int) := by omega
    go_enter Tryz.func6, Tryz.ntmps6
    go_wp2_with fail
    refine HZ.out.mono ?_
    rintro e w0 ⟨⟨bb, rfl⟩, hb0⟩
    cases bb
    · go_wp2_with fail
      go_ret
      exact ⟨rfl, hb0⟩
    go_wp2_with fail
    go_ret
    exact ⟨rfl, hb0⟩
  have qs : (s.size : Int) ≤ 1048576 := by omega
  obtain ⟨t, ht⟩ : ∃ t : ByteArray, t.data.toList = tepStr s := ⟨⟨(tepStr s).toArray⟩, rfl⟩
  obtain ⟨mid, hm, hml⟩ := tail_shape s
  have htl : t.data.toList.length = t.size := by rw [Array.length_toList]; rfl
  have hlen : t.size = 11 + mid.length := by rw [← htl, ht, hm]; simp [strOpen]; omega
  obtain ⟨O, eO, FO⟩ : ∃ O : ByteArray, O.data.toList = [101, 120, 112, 101, 99, 116, 101, 100, 32, 97, 110, 32, 111, 98, 106, 101, 99, 116, 32, 98, 117, 116, 32, 103, 111, 116, 58, 32] ++ t.data.toList ∧ ∀ w, Below W.heap.size W w → Calls Tryz.prog 16 #[.string s] w fun e w' => e = .returned (.string O) ∧ Below W.heap.size W w' :=
    ⟨⟨(txtExpObj (tepStr s)).toArray⟩, by rw [ht]; rfl, says_from (zza_ExpObj s (by omega)) HD.out⟩
  obtain ⟨A, eA, FA⟩ : ∃ A : ByteArray, A.data.toList = [101, 120, 112, 101, 99, 116, 101, 100, 32, 97, 110, 32, 97, 114, 114, 97, 121, 32, 98, 117, 116, 32, 103, 111, 116, 58, 32] ++ t.data.toList ∧ ∀ w, Below W.heap.size W w → Calls Tryz.prog 21 #[.string s] w fun e w' => e = .returned (.string A) ∧ Below W.heap.size W w' :=
    ⟨⟨(txtExpArr (tepStr s)).toArray⟩, by rw [ht]; rfl, says_from (zza_ExpArr s (by omega)) HD.out⟩
  obtain ⟨I, eI, FI⟩ : ∃ I : ByteArray, I.data.toList = [99, 97, 110, 110, 111, 116, 32, 105, 116, 101, 114, 97, 116, 101, 32, 111, 118, 101, 114, 58, 32] ++ t.data.toList ∧ ∀ w, Below W.heap.size W w → Calls Tryz.prog 26 #[.string s] w fun e w' => e = .returned (.string I) ∧ Below W.heap.size W w' :=
    ⟨⟨(txtIter (tepStr s)).toArray⟩, by rw [ht]; rfl, says_from (zza_Iter s (by omega)) HD.out⟩
  have HO := Lib.hid FO
  have HA := Lib.hid FA
  have HI := Lib.hid FI
  have PO1 := Lib.hid (from101 (W := W) (hasPrefix101 O ⟨#[101, 120, 112, 101, 99, 116, 101, 100, 32, 97, 110, 32, 111, 98, 106, 101, 99, 116, 32, 98, 117, 116, 32, 103, 111, 116, 58, 32]⟩ t.data.toList eO (by decide)))
  have PA1 := Lib.hid (from101 (W := W) (hasPrefix101 A ⟨#[101, 120, 112, 101, 99, 116, 101, 100, 32, 97, 110, 32, 97, 114, 114, 97, 121, 32, 98, 117, 116, 32, 103, 111, 116, 58, 32]⟩ t.data.toList eA (by decide)))
  have PI1 := Lib.hid (from101 (W := W) (hasPrefix101 I ⟨#[99, 97, 110, 110, 111, 116, 32, 105, 116, 101, 114, 97, 116, 101, 32, 111, 118, 101, 114, 58, 32]⟩ t.data.toList eI (by decide)))
  have PS1 := Lib.hid (from101 (W := W) (hasPrefix101 t ⟨#[115, 116, 114, 105, 110, 103, 32, 40, 34]⟩ (mid ++ [34, 41]) (by rw [ht, hm]; rfl) (by decide)))
  have s1 := cut101 O t [101, 120, 112, 101, 99, 116, 101, 100, 32, 97, 110, 32, 111, 98, 106, 101, 99, 116, 32, 98, 117, 116, 32, 103, 111, 116, 58, 32] eO 28 rfl
  have s2 := cut101 A t [101, 120, 112, 101, 99, 116, 101, 100, 32, 97, 110, 32, 97, 114, 114, 97, 121, 32, 98, 117, 116, 32, 103, 111, 116, 58, 32] eA 27 rfl
  have s3 := cut101 I t [99, 97, 110, 110, 111, 116, 32, 105, 116, 101, 114, 97, 116, 101, 32, 111, 118, 101, 114, 58, 32] eI 21 rfl
  have hNT : (t.toList != t.toList) = false := by rw [bne, beq_self_eq_true]; rfl
  have l1 : ¬ (t.size : Int) < 11 := by omega
  have l2 : ¬ (39 : Int) < (t.size : Int) := by omega
  have x1 := index_at t (10 + mid.length) ((t.size : Int) - 1) (by omega) 41 (byte_at t _ (ht.trans hm) _ 41 (by rw [← List.append_assoc, List.getElem?_append_right (by simp [strOpen]; omega)]; simp [strOpen]; rw [show 10 + mid.length - (mid.length + 9) = 1 by omega]; rfl))
  have x2 := index_at t (9 + mid.length) ((t.size : Int) - 2) (by omega) 34 (byte_at t _ (ht.trans hm) _ 34 (by rw [← List.append_assoc, List.getElem?_append_right (by simp [strOpen]; omega)]; simp [strOpen]; rw [show 9 + mid.length - (mid.length + 1 + 1 + 1 + 1 + 1 + 1 + 1 + 1 + 1) = 0 by omega]; rfl))
  have hsz : (11 : Int) ≤ (t.size : Int) := by omega
  have hsz2 : (t.size : Int) ≤ 39 := by omega
  clear FO FA FI eO eA eI ht hm htl hlen hml
  go_enter Tryz.func6, Tryz.ntmps6
  go_wp2_with fail
  refine HZ.out.mono ?_
  rintro e w0 ⟨⟨bb, rfl⟩, hb0⟩
  cases bb
  · go_wp2_with fail
    go_ret
    exact ⟨rfl, hb0⟩
  go_wp2_with fail
  refine (HO.out _ hb0).mono ?_
  rintro e w1 ⟨rfl, hb1⟩
  go_wp2_with fail
  refine (HA.out _ hb1).mono ?_
  rintro e w2 ⟨rfl, hb2⟩
  go_wp2_with fail
  refine (HI.out _ hb2).mono ?_
  rintro e w3 ⟨rfl, hb3⟩
  go_wp2_with fail
  refine (PO1.out _ hb3).mono ?_
  rintro e w4 ⟨rfl, hb4⟩
  go_wp2_with fail
  refine (PA1.out _ hb4).mono ?_
  rintro e w5 ⟨rfl, hb5⟩
  go_wp2_with fail
  refine (PI1.out _ hb5).mono ?_
  rintro e w6 ⟨rfl, hb6⟩
  go_wp2_with fail
  refine (PS1.out _ hb6).mono ?_
  rintro e w7 ⟨rfl, hb7⟩
  go_wp2_with fail
  go_ret
  exact ⟨rfl, hb7⟩
end Go.Proofs.YtconaigmmhdlmaaGreatFmt
