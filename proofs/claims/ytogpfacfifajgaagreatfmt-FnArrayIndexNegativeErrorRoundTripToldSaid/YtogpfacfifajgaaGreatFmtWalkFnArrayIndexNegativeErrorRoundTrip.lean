/-
  The walk of the law FnArrayIndexNegativeErrorRoundTrip.
-/
import Derived.Test.YtogpfacfifajgaaGreatFmtWalkFnArrayIndexNegativeErrorExact
import Derived.Test.YtogpfacfifajgaaGreatFmtParseWalk
namespace Go.Proofs.YtogpfacfifajgaaGreatFmt
set_option linter.unusedVariables false
set_option linter.unusedSimpArgs false
open Go.RowKit Go.Lib Go.Sort

def prefB : ByteArray := ⟨#[97, 114, 114, 97, 121, 32, 105, 110, 100, 101, 120, 32, 115, 104, 111, 117, 108, 100, 32, 110, 111, 116, 32, 98, 101, 32, 110, 101, 103, 97, 116, 105, 118, 101, 58, 32]⟩

set_option maxRecDepth 100000 in
set_option maxHeartbeats 1600000 in
theorem hasPrefix_any (t : List UInt8) (w : World) :
    Calls Tryz.prog 23 #[.string ⟨(negPre ++ t).toArray⟩, .string prefB] w fun e w' => e = .returned (.bool true) ∧ Below w.heap.size w w' := by
  obtain ⟨s, hs⟩ : ∃ s : ByteArray, s = ⟨(negPre ++ t).toArray⟩ := ⟨_, rfl⟩
  obtain ⟨p, hp⟩ : ∃ p : ByteArray, p = prefB := ⟨_, rfl⟩
  rw [← hs, ← hp]
  have hle : p.size ≤ s.size := by rw [hs, hp]; show 36 ≤ _; simp [ByteArray.size, negPre]
  have hp36 : p.size = 36 := by rw [hp]; rfl
  have hat : ∀ (k : Nat) (h1 : k < p.size) (h2 : k < s.size), s[k] = p[k] := by
    subst hs hp
    intro k h1 h2
    show ((negPre ++ t).toArray)[k] = (prefB.data)[k]
    have hk : k < negPre.length := h1
    rw [List.getElem_toArray, List.getElem_append_left hk]
    rfl
  have hz : ¬ (s.size : Int) < (p.size : Int) := by omega
  clear hs hp
  go_enter Tryz.func23, Tryz.ntmps23
  go_wp2_with fail
  go_loopw [5] (fun vi wr => ∃ k : Nat, vi = .int .i64 (k : Int) ∧ k ≤ p.size ∧ Below w.heap.size w wr) (fun vi _ => p.size - (RowKit.intOf vi).toNat)
  case atStart => exact ⟨0, rfl, by omega, Below.refl _ _⟩
  case round =>
    obtain ⟨k, rfl, hk, hb⟩ := hrel
    by_cases hkp : k < p.size
    · have e := hat k hkp (by omega)
      have q1 : (k : Int) < (s.size : Int) := by omega
      have q2 : (k : Int) < (p.size : Int) := by omega
      have HA := Lib.hid hat
      clear hat
      go_wp2_with fail
      go_region
      go_wp2_with fail
      go_roundw
      case rel => exact ⟨k + 1, by go_num, by omega, hb.drew⟩
      case measure => simp [RowKit.intOf]; omega
    · obtain rfl : k = p.size := by omega
      go_wp2_with fail
      go_ret
      exact ⟨rfl, hb⟩

theorem ba_at (L : List UInt8) (k : Nat) (h : k < L.length) (h' : k < (⟨L.toArray⟩ : ByteArray).size) : (⟨L.toArray⟩ : ByteArray)[k] = L[k] := by
  show (L.toArray)[k] = L[k]
  simp
theorem dec_at (u : Nat) (k : Nat) (h : k < (decDigits u).length) : 48 ≤ (decDigits u)[k].toNat ∧ (decDigits u)[k].toNat ≤ 57 := decDigits_digit u _ (List.getElem_mem h)

theorem parse_itoa (n : Int) (h0 : -9223372036854775808 ≤ n) (h1 : n ≤ 9223372036854775807) (w : World) :
    Calls Tryz.prog 24 #[.string ⟨(itoa n).toArray⟩] w fun e w' => e = .returned (.tuple #[.int .i64 n, .bool true]) ∧ Below w.heap.size w w' := by
  by_cases hneg : n < 0
  · obtain ⟨u, rfl⟩ : ∃ u : Nat, n = -(u : Int) := ⟨n.natAbs, by omega⟩
    have hu1 : 1 ≤ u := by omega
    obtain ⟨b, t, eb, hb⟩ := dec_head u hu1
    have hN : Num ⟨(45 :: decDigits u).toArray⟩ 1 (decDigits u) := ⟨by simp [ByteArray.size], decDigits_pos u, dec_length_19 u (by omega), fun k hk hk' => by rw [ba_at _ _ (by simp; omega)]; simp, fun k hk => dec_at u k hk⟩
    have := parse_neg _ _ hN (by rw [valD_dec]; omega) ⟨fun _ => rfl, fun h => by simp only [eb, List.getElem_cons_zero]; exact hb⟩ w
    rw [valD_dec] at this
    rw [itoa_neg u hu1]
    exact this
  · obtain ⟨u, rfl⟩ : ∃ u : Nat, n = u := ⟨n.toNat, by omega⟩
    have hN : Num ⟨(decDigits u).toArray⟩ 0 (decDigits u) := ⟨by simp [ByteArray.size], decDigits_pos u, dec_length_19 u (by omega), fun k hk hk' => ba_at _ _ hk _, fun k hk => dec_at u k hk⟩
    have := parse_pos _ _ hN (by rw [valD_dec]; omega) ⟨fun h => by
      have hp := decDigits_pos u
      rw [ba_at _ 0 (by omega)]
      have := (dec_at u 0 (by omega)).1
      omega, fun h1 h => by
        have hu1 : 1 ≤ u := by
          rcases Nat.eq_zero_or_pos u with e | e
          · subst e
            rw [decDigits, dif_pos (by omega)] at h1
            simp at h1
          · exact e
        obtain ⟨b, t, eb, hb⟩ := dec_head u hu1
        simp only [eb, List.getElem_cons_zero]
        exact hb⟩ w
    rw [valD_dec] at this
    rw [itoa_nonneg]
    exact this

theorem below_from {f : FuncId} {args : Array Value} {v : Value} {W : World} (h : ∀ w, Calls Tryz.prog f args w fun e w' => e = .returned v ∧ Below w.heap.size w w') :
    ∀ w, Below W.heap.size W w → Calls Tryz.prog f args w fun e w' => e = .returned v ∧ Below W.heap.size W w' := fun w hb =>
  (h w).mono fun e w' ⟨he, hb'⟩ => ⟨he, hb.trans (below_of hb' hb.size)⟩

set_option maxRecDepth 100000 in
set_option maxHeartbeats 1600000 in
theorem walk_FnArrayIndexNegativeErrorRoundTrip (n m : Int) (W : World) (wn : (Lit.int .i64 n).wf = true) (wm : (Lit.int .i64 m).wf = true) (hD : Tabs W) :
    Calls Tryz.prog 8 #[.int .i64 n, .int .i64 m] W fun e w' => e = .returned (.bool true) ∧ Below W.heap.size W w' := by
  have b := bounds_int wn
  have c := bounds_int wm
  have HP := Lib.hid (says_from (zzneg n b.1 b.2) hD)
  have HQ := Lib.hid (says_from (zzneg m c.1 c.2) hD)
  have H1 := Lib.hid (below_from (W := W) (hasPrefix_any (itoa n)))
  have H2 := Lib.hid (below_from (W := W) (hasPrefix_any (itoa m)))
  have HI := Lib.hid (below_from (W := W) (parse_itoa n b.1 b.2))
  have hsl : ∀ wx, (Instr.slice 9 (.string ⟨(negPre ++ itoa n).toArray⟩) (some (.int .i64 36)) none none).run Tryz.prog wx = .ok (.string ⟨(itoa n).toArray⟩) wx := fun wx => by
    have := run_slice_string_l (P := Tryz.prog) wx 9 ⟨(negPre ++ itoa n).toArray⟩ Tryz.underlying9 .i64 36 (by omega) (by show (36 : Int) ≤ _; simp [ByteArray.size, negPre]; omega)
    rw [this]
    congr 2
    apply ByteArray.ext
    apply Array.toList_inj.1
    rw [Lib.extract_data]
    simp [ByteArray.size, negPre]
  clear hD
  go_enter Tryz.func8, Tryz.ntmps8
  go_wp2_with fail
  refine (HP.out _ (Below.refl _ _)).mono ?_
  rintro e w1 ⟨rfl, hb1⟩
  go_wp2_with fail
  refine (HQ.out _ hb1).mono ?_
  rintro e w2 ⟨rfl, hb2⟩
  go_wp2_with fail
  refine (H1.out _ hb2).mono ?_
  rintro e w3 ⟨rfl, hb3⟩
  go_wp2_with fail
  refine (H2.out _ hb3).mono ?_
  rintro e w4 ⟨rfl, hb4⟩
  go_wp2_with fail
  refine (HI.out _ hb4).mono ?_
  rintro e w5 ⟨rfl, hb5⟩
  by_cases hnm : n = m
  · subst hnm
    go_wp2_with fail
    go_ret
    exact ⟨rfl, hb5⟩
  · have hl1 : (n == m) = false := by rw [beq_eq_false_iff_ne]; exact hnm
    have hl2 : (negPre ++ itoa n == negPre ++ itoa m) = false := by
      rw [beq_eq_false_iff_ne]
      intro e
      exact hnm (itoa_inj (List.append_cancel_left e))
    go_wp2_with fail
    go_ret
    exact ⟨rfl, hb5⟩
end Go.Proofs.YtogpfacfifajgaaGreatFmt
