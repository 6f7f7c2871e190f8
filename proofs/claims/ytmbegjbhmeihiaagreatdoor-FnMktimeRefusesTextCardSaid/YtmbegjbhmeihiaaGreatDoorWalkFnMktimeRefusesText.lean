/-
  The walk of the law FnMktimeRefusesText.
-/
import Derived.Test.YtmbegjbhmeihiaaGreatDoorRef
import Derived.Deep.DeepCutAuto
namespace Go.Proofs.YtmbegjbhmeihiaaGreatDoor
set_option linter.unusedVariables false
set_option linter.unusedSimpArgs false
open Go.RowKit Go.Lib

theorem slice_form {w : World} {v : Value} {xs : List Value} (h : SliceOf w v xs) : ∃ a c, v = .slice a xs.length c ∧ (0 < xs.length → ∃ b o, a = some ⟨b, o, none⟩ ∧ b < w.heap.size ∧ ∀ j u, xs[j]? = some u → w.cell? ⟨b, o + j, none⟩ = some u) := by
  rcases h with ⟨rfl, a, c, rfl⟩ | ⟨h1, b, o, c, rfl, h2, h3⟩
  · exact ⟨a, c, rfl, fun h => absurd h (by simp)⟩
  · exact ⟨_, c, rfl, fun _ => ⟨b, o, rfl, h2, h3⟩⟩
def isStrs (ss : List ByteArray) : List Value := ss.map Value.string
theorem isStrs_len (ss : List ByteArray) : (isStrs ss).length = ss.length := by simp [isStrs]
theorem isStrs_get (ss : List ByteArray) (k : Nat) (h : k < ss.length) : (isStrs ss)[k]? = some (.string ss[k]) := by simp [isStrs, h]
theorem isStrs_get' (ss : List ByteArray) (k : Nat) (h : k < (isStrs ss).length) : (isStrs ss)[k] = .string (ss[k]'(by simpa [isStrs] using h)) := by simp [isStrs]
def anyStrs (ss : List ByteArray) : List Value := ss.map fun s => .iface 9 (.string s)
theorem anyStrs_len (ss : List ByteArray) : (anyStrs ss).length = ss.length := by simp [anyStrs]
theorem anyStrs_get' (ss : List ByteArray) (k : Nat) (h : k < (anyStrs ss).length) : (anyStrs ss)[k] = .iface 9 (.string (ss[k]'(by simpa [anyStrs] using h))) := by simp [anyStrs]
theorem mk_any (n : Nat) (hn : n ≤ 1048576) (w : World) : (Instr.makeSlice 47 (.int .i64 (n : Int)) (.int .i64 (n : Int))).run Tryz.prog w = .ok (.slice (some ⟨w.heap.size, 0, none⟩) n n) (w.alloc (.cells (Array.replicate n .nilIface) 20)) :=
  run_mk 47 20 .nilIface 16 Tryz.underlying47 (by kernel_rfl) rfl n n (by omega) (by omega) (by omega) w
theorem mk_strs (n : Nat) (hn : n ≤ 1048576) (w : World) : (Instr.makeSlice 30 (.int .i64 (n : Int)) (.int .i64 (n : Int))).run Tryz.prog w = .ok (.slice (some ⟨w.heap.size, 0, none⟩) n n) (w.alloc (.cells (Array.replicate n (.string ByteArray.empty)) 9)) :=
  run_mk 30 9 (.string ByteArray.empty) 16 Tryz.underlying30 (by kernel_rfl) rfl n n (by omega) (by omega) (by omega) w
set_option maxRecDepth 100000 in
set_option maxHeartbeats 3200000 in
theorem zzstrings_any (v : Value) (ss : List ByteArray) (n : Nat) (hl : ss.length = n) (hn : n ≤ 1048576) (w : World) (hS : SliceOf w v (isStrs ss)) :
    Calls Tryz.prog 18 #[v] w fun e w' => (∃ r, e = .returned (.tuple #[.float .f64 r, .bool (decide (n = 0))])) ∧ Below w.heap.size w w' := by
  obtain ⟨a, c, rfl, hat⟩ := slice_form hS
  rw [isStrs_len, hl] at hat ⊢
  have HA := Lib.hid hat
  have HN := Lib.hid hl
  have mk := mk_any n hn
  have as1 := asFloatFloatR
  have as2 := asWErrFloat
  clear hat hl hS
  go_enter Tryz.func18, Tryz.ntmps18
  go_wp2_with fail
  have hF0 : Fill (w.alloc (.cells (Array.replicate n .nilIface) 20)) (w.alloc (.cells (Array.replicate n .nilIface) 20)) w.heap.size 20 (anyStrs ss) .nilIface 0 := by
    refine Fill.start ?_
    rw [anyStrs_len, HN.out]
    have := Row.alloc w 20 (List.replicate n .nilIface)
    rwa [List.toArray_replicate] at this
  have HB0 := Lib.hid (show Below w.heap.size w (w.alloc (.cells (Array.replicate n .nilIface) 20)) by go_grown)
  have HF0 := Lib.hid hF0
  clear hF0 mk
  generalize hW0 : w.alloc (.cells (Array.replicate n .nilIface) 20) = W0 at HF0 HB0 ⊢
  clear hW0
  go_loopw [14] (fun vi wr => ∃ k : Nat, vi = .int .i64 (k : Int) ∧ k ≤ n ∧ Hid (Fill W0 wr w.heap.size 20 (anyStrs ss) .nilIface k)) (fun vi _ => n - (RowKit.intOf vi).toNat)
  case atStart => exact ⟨0, rfl, Nat.zero_le _, HF0⟩
  case round =>
    obtain ⟨k, rfl, hk, HF⟩ := hrel
    by_cases hkn : k < n
    · obtain ⟨b, o, rfl, hb, hc⟩ := HA.out (by omega)
      have hkz : k < ss.length := by rw [HN.out]; exact hkn
      have c1 : wr.cell? ⟨b, o + k, none⟩ = some (.string ss[k]) := (HF.out.old (p := ⟨b, o + k, none⟩) (by have := HB0.out.size; show b < _; omega) (by show b ≠ _; omega)).trans ((HB0.out.cell (p := ⟨b, o + k, none⟩) hb).trans (hc k _ (isStrs_get ss k hkz)))
      obtain ⟨y, c2⟩ := HF.out.cell k (by rw [anyStrs_len]; exact hkz)
      have f2 := HF.out.free k
      have HS := Lib.hid (HF.out.step (by rw [anyStrs_len]; exact hkz) (.iface 9 (.string ss[k])) (anyStrs_get' ss k _))
      clear hc
      go_wp2_with fail
      go_roundw
      case rel => exact ⟨k + 1, by go_num, by omega, HS⟩
      case measure => simp [RowKit.intOf]; omega
    · obtain rfl : k = n := by omega
      have HR := Lib.hid (HF.out.done (by rw [anyStrs_len, HN.out]))
      have HBr := Lib.hid (HF.out.below (Nat.le_refl _) HB0.out)
      have hlt : w.heap.size < wr.heap.size := HR.out.lt
      clear HF
      by_cases hk0 : k = 0
      · subst hk0
        have HM := Lib.hid (mktime_none w.heap.size 0 wr)
        go_wp2_with fail
        refine HM.out.mono ?_
        rintro e w1 ⟨⟨r, rfl⟩, hb1⟩
        have HB1 := Lib.hid (HBr.out.trans (below_of hb1 HBr.out.size))
        clear hb1 HM
        go_wp2_with fail
        go_ret2
        exact ⟨⟨r, rfl⟩, HB1.out⟩
      · have h0 : 0 < ss.length := by rw [HN.out]; omega
        have hd : decide (k = 0) = false := by simpa using hk0
        have HM := Lib.hid (mktime_text w.heap.size k k ss[0] wr (by omega) hlt (by rw [HR.out.cell 0 (by rw [anyStrs_len]; exact h0), anyStrs_get']))
        have HDE := Lib.hid hd
        clear hd
        go_wp2_with fail
        refine HM.out.mono ?_
        rintro e w1 ⟨⟨p, rfl⟩, hb1⟩
        have HB1 := Lib.hid (HBr.out.trans (below_of hb1 HBr.out.size))
        clear hb1 HM
        go_wp2_with fail
        go_ret2
        exact ⟨⟨0, by rw [HDE.out]; rfl⟩, HB1.out⟩
set_option maxRecDepth 100000 in
set_option maxHeartbeats 1600000 in
theorem bytes_FnMktimeRefusesText (s : ByteArray) (v : Value) (ss : List ByteArray) (n : Nat) (hl : ss.length = n) (hs : s.size ≤ 140737488351232) (hn : n ≤ 9223372036854775807) (hb : ∀ x ∈ ss, x.size ≤ 9223372036854775807) (w : World) (hS : SliceOf w v (isStrs ss)) :
    Calls Tryz.prog 15 #[.string s, v] w fun e w' => (∃ b, e = .returned (.bool b)) ∧ Below w.heap.size w w' := by
  obtain ⟨a, c, rfl, hat⟩ := slice_form hS
  rw [isStrs_len, hl] at hat ⊢
  have HA := Lib.hid hat
  have HN := Lib.hid hl
  have HBD := Lib.hid hb
  clear hat hl hS hb
  by_cases g1 : 1048576 < s.size
  · have q1 : (1048576 : Int) < (s.size : Int) := by omega
    go_enter Tryz.func15, Tryz.ntmps15
    go_wp2_with fail
    go_ret
    exact ⟨⟨_, rfl⟩, Below.refl _ _⟩
  have q1 : (s.size : Int) ≤ 1048576 := by omega
  by_cases g2 : 1048576 < n
  · have q2 : (1048576 : Int) < (n : Int) := by omega
    go_enter Tryz.func15, Tryz.ntmps15
    go_wp2_with fail
    go_ret
    exact ⟨⟨_, rfl⟩, Below.refl _ _⟩
  have q2 : (n : Int) ≤ 1048576 := by omega
  by_cases g3 : 1048576 < s.size + n
  · have q3 : (1048576 : Int) < (s.size : Int) + (n : Int) := by omega
    go_enter Tryz.func15, Tryz.ntmps15
    go_wp2_with fail
    go_ret
    exact ⟨⟨_, rfl⟩, Below.refl _ _⟩
  have q3 : (s.size : Int) + (n : Int) ≤ 1048576 := by omega
  clear g1 g2 g3
  go_enter Tryz.func15, Tryz.ntmps15
  go_wp2_with fail
  go_loopw [5, 6] (fun vn vi wr => ∃ (k t : Nat), vi = .int .i64 (k : Int) ∧ vn = .int .i64 (t : Int) ∧ k ≤ n ∧ (t : Int) ≤ 1048576 ∧ Hid (Below w.heap.size w wr)) (fun _ vi _ => n - (RowKit.intOf vi).toNat)
  case atStart => exact ⟨0, s.size + n, rfl, by go_num, Nat.zero_le _, by omega, Lib.hid (Below.refl _ _)⟩
  case round =>
    obtain ⟨k, t, rfl, rfl, hk, ht, HBr⟩ := hrel
    by_cases hkn : k < n
    · obtain ⟨b, o, rfl, hb, hc⟩ := HA.out (by omega)
      have hkz : k < ss.length := by rw [HN.out]; exact hkn
      have c1 : wr.cell? ⟨b, o + k, none⟩ = some (.string ss[k]) := (HBr.out.cell (p := ⟨b, o + k, none⟩) hb).trans (hc k _ (isStrs_get ss k hkz))
      have hx := HBD.out ss[k] (List.getElem_mem hkz)
      generalize ss[k] = x at c1 hx
      clear hc
      by_cases g4 : 1048576 < x.size
      · have q4 : (1048576 : Int) < (x.size : Int) := by omega
        go_wp2_with fail
        try (go_region; go_wp2_with fail)
        go_ret
        exact ⟨⟨_, rfl⟩, by first | exact HBr.out | exact HBr.out.drew⟩
      have q4 : (x.size : Int) ≤ 1048576 := by omega
      by_cases g5 : 1048576 < t + x.size
      · have q5 : (1048576 : Int) < (t : Int) + (x.size : Int) := by omega
        go_wp2_with fail
        try (go_region; go_wp2_with fail)
        go_ret
        exact ⟨⟨_, rfl⟩, by first | exact HBr.out | exact HBr.out.drew⟩
      have q5 : (t : Int) + (x.size : Int) ≤ 1048576 := by omega
      clear g4 g5
      go_wp2_with fail
      try (go_region; go_wp2_with fail)
      go_roundw
      case rel => exact ⟨k + 1, t + x.size, by go_num, by go_num, by omega, by omega, by first | exact HBr | exact Lib.hid HBr.out.drew⟩
      case measure => simp [RowKit.intOf]; omega
    · go_wp2_with fail
      go_ret
      exact ⟨⟨_, rfl⟩, HBr.out⟩
theorem strs_nil (n c : Nat) (w : World) : (binOp .eql 30 (.slice none n c) (.slice none 0 0)).run Tryz.prog w = .ok (.bool true) w := by kernel_rfl
theorem strs_some (ad : Addr) (n c : Nat) (w : World) : (binOp .eql 30 (.slice (some ad) n c) (.slice none 0 0)).run Tryz.prog w = .ok (.bool false) w := by kernel_rfl
set_option maxRecDepth 100000 in
set_option maxHeartbeats 1600000 in
theorem clone_any (v : Value) (ss : List ByteArray) (n : Nat) (hl : ss.length = n) (hn : n ≤ 1048576) (w : World) (hS : SliceOf w v (isStrs ss)) :
    Calls Tryz.prog 16 #[v] w fun e w' => (∃ a c, e = .returned (.slice a n c) ∧ SliceOf w' (.slice a n c) (isStrs ss)) ∧ Below w.heap.size w w' := by
  obtain ⟨a, c, rfl, hat⟩ := slice_form hS
  rw [isStrs_len, hl] at hat hS ⊢
  rcases a with _ | ad
  · have hn0 : n = 0 := by
      rcases Nat.eq_zero_or_pos n with h | h
      · exact h
      · obtain ⟨b, o, h1, _⟩ := hat h
        cases h1
    subst hn0
    have hss : ss = [] := List.eq_nil_of_length_eq_zero hl
    subst hss
    go_enter Tryz.func16, Tryz.ntmps16
    have he := strs_nil 0 c
    go_wp2_with fail
    go_ret
    exact ⟨⟨none, 0, rfl, Or.inl ⟨rfl, _, _, rfl⟩⟩, Below.refl _ _⟩
  · have mk := mk_strs n hn
    have HA := Lib.hid hat
    have HN := Lib.hid hl
    have he := strs_some ad n c
    clear hat hl hS
    go_enter Tryz.func16, Tryz.ntmps16
    go_wp2_with fail
    have hF0 : Fill (w.alloc (.cells (Array.replicate n (.string ByteArray.empty)) 9)) (w.alloc (.cells (Array.replicate n (.string ByteArray.empty)) 9)) w.heap.size 9 (isStrs ss) (.string ByteArray.empty) 0 := by
      refine Fill.start ?_
      rw [isStrs_len, HN.out]
      have := Row.alloc w 9 (List.replicate n (.string ByteArray.empty))
      rwa [List.toArray_replicate] at this
    have HB0 := Lib.hid (show Below w.heap.size w (w.alloc (.cells (Array.replicate n (.string ByteArray.empty)) 9)) by go_grown)
    have HF0 := Lib.hid hF0
    clear hF0 mk
    generalize hW0 : w.alloc (.cells (Array.replicate n (.string ByteArray.empty)) 9) = W0 at HF0 HB0 ⊢
    clear hW0
    go_loopw [4] (fun vi wr => ∃ k : Nat, vi = .int .i64 (k : Int) ∧ k ≤ n ∧ Hid (Fill W0 wr w.heap.size 9 (isStrs ss) (.string ByteArray.empty) k)) (fun vi _ => n - (RowKit.intOf vi).toNat)
    case atStart => exact ⟨0, rfl, Nat.zero_le _, HF0⟩
    case round =>
      obtain ⟨k, rfl, hk, HF⟩ := hrel
      by_cases hkn : k < n
      · obtain ⟨b, o, hbe, hb, hc⟩ := HA.out (by omega)
        injection hbe with hbe
        subst hbe
        have hkz : k < ss.length := by rw [HN.out]; exact hkn
        have c1 : wr.cell? ⟨b, o + k, none⟩ = some (.string ss[k]) := (HF.out.old (p := ⟨b, o + k, none⟩) (by have := HB0.out.size; show b < _; omega) (by show b ≠ _; omega)).trans ((HB0.out.cell (p := ⟨b, o + k, none⟩) hb).trans (hc k _ (isStrs_get ss k hkz)))
        obtain ⟨y, c2⟩ := HF.out.cell k (by rw [isStrs_len]; exact hkz)
        have f2 := HF.out.free k
        have HS := Lib.hid (HF.out.step (by rw [isStrs_len]; exact hkz) (.string ss[k]) (isStrs_get' ss k _))
        clear hc
        go_wp2_with fail
        go_roundw
        case rel => exact ⟨k + 1, by go_num, by omega, HS⟩
        case measure => simp [RowKit.intOf]; omega
      · obtain rfl : k = n := by omega
        have HR := Lib.hid (HF.out.done (by rw [isStrs_len, HN.out]))
        have HBr := Lib.hid (HF.out.below (Nat.le_refl _) HB0.out)
        clear HF
        go_wp2_with fail
        go_ret
        have h1 := HR.out.slice k
        rw [isStrs_len, HN.out] at h1
        exact ⟨⟨_, _, rfl, h1⟩, HBr.out⟩
set_option maxRecDepth 100000 in
set_option maxHeartbeats 3200000 in
theorem walk_FnMktimeRefusesText (s : ByteArray) (v : Value) (ss : List ByteArray) (W : World) (ws : s.size ≤ 140737488351232) (hS : SliceOf W v (ss.map Value.string)) (hb : ∀ x ∈ ss, x.size ≤ maxLen) (hm : ss.length ≤ maxLen) (hD : Tabs W) :
    Calls Tryz.prog 5 #[.string s, v] W fun e w' => e = .returned (.bool true) ∧ Below W.heap.size W w' := by
  have hS' : SliceOf W v (isStrs ss) := hS
  clear hD hS
  unfold maxLen at hb hm
  obtain ⟨a, c, rfl, hat⟩ := slice_form hS'
  rw [isStrs_len] at hat hS' ⊢
  obtain ⟨n, hl⟩ : ∃ n, ss.length = n := ⟨_, rfl⟩
  rw [hl] at hat hm hS' ⊢
  have HZ := Lib.hid (bytes_FnMktimeRefusesText s _ ss n hl ws hm hb W hS')
  have HA := Lib.hid hat
  have HN := Lib.hid hl
  have HBD := Lib.hid hb
  have HS := Lib.hid hS'
  clear hat hl hb hS'
  by_cases g1 : 1048576 < s.size
  · have q1 : (1048576 : Int) < (s.size : Int) := by omega
    go_enter Tryz.func5, Tryz.ntmps5
    go_wp2_with fail
    refine HZ.out.mono ?_
    rintro e w0 ⟨⟨bb, rfl⟩, hb0⟩
    cases bb
    all_goals (go_wp2_with fail; go_ret; exact ⟨rfl, hb0⟩)
  have q1 : (s.size : Int) ≤ 1048576 := by omega
  by_cases g2 : 4096 < n
  · have q2 : (4096 : Int) < (n : Int) := by omega
    go_enter Tryz.func5, Tryz.ntmps5
    go_wp2_with fail
    refine HZ.out.mono ?_
    rintro e w0 ⟨⟨bb, rfl⟩, hb0⟩
    cases bb
    all_goals (go_wp2_with fail; go_ret; exact ⟨rfl, hb0⟩)
  have q2 : (n : Int) ≤ 4096 := by omega
  clear g1 g2
  go_enter Tryz.func5, Tryz.ntmps5
  go_wp2_with fail
  refine HZ.out.mono ?_
  rintro e w0 ⟨⟨bb, rfl⟩, hb0⟩
  cases bb
  · go_wp2_with fail
    go_ret
    exact ⟨rfl, hb0⟩
  have HB0 := Lib.hid hb0
  clear hb0 HZ
  go_wp2_with fail
  go_loopw [5, 6] (fun vn vi wr => ∃ (k : Nat) (t : Int), vi = .int .i64 (k : Int) ∧ vn = .int .i64 t ∧ k ≤ n ∧ Hid (Below W.heap.size W wr)) (fun _ vi _ => n - (RowKit.intOf vi).toNat)
  case atStart => exact ⟨0, (s.size : Int) + 16 * (n : Int), rfl, rfl, Nat.zero_le _, HB0⟩
  case round =>
    obtain ⟨k, t, rfl, rfl, hk, HBr⟩ := hrel
    by_cases hkn : k < n
    · obtain ⟨b, o, rfl, hb, hc⟩ := HA.out (by omega)
      have hkz : k < ss.length := by rw [HN.out]; exact hkn
      have c1 : wr.cell? ⟨b, o + k, none⟩ = some (.string ss[k]) := (HBr.out.cell (p := ⟨b, o + k, none⟩) hb).trans (hc k _ (isStrs_get ss k hkz))
      generalize ss[k] = x at c1
      clear hc
      go_wp2_with fail
      try (go_region; go_wp2_with fail)
      go_roundw
      case rel => exact ⟨k + 1, _, by go_num, rfl, by omega, by first | exact HBr | exact Lib.hid HBr.out.drew⟩
      case measure => simp [RowKit.intOf]; omega
    · obtain rfl : k = n := by omega
      have HCL := Lib.hid (clone_any _ ss k HN.out (by omega) wr (HS.out.on HBr.out))
      have HSTR := Lib.hid (fun w => zzstring_any s w)
      have HTWO := Lib.hid (fun (a' : Option Addr) (c' : Nat) (w1 : World) (h : SliceOf w1 (.slice a' k c') (isStrs ss)) => zzstrings_any _ ss k HN.out (by omega) w1 h)
      go_wp2_with fail
      · go_ret
        exact ⟨rfl, HBr.out⟩
      · refine HCL.out.mono ?_
        rintro e w1 ⟨⟨a1, c1, rfl, hs1⟩, hb1⟩
        have HS1 := Lib.hid hs1
        have HB1 := Lib.hid (HBr.out.trans (below_of hb1 HBr.out.size))
        clear hs1 hb1 HCL
        go_wp2_with fail
        refine (HSTR.out _).mono ?_
        rintro e w2 ⟨rfl, hb2⟩
        have HB2 := Lib.hid (HB1.out.trans (below_of hb2 HB1.out.size))
        have HS2 := Lib.hid (HS1.out.on hb2)
        clear hb2
        go_wp2_with fail
        refine (HTWO.out _ _ _ HS2.out).mono ?_
        rintro e w3 ⟨⟨r, rfl⟩, hb3⟩
        have HB3 := Lib.hid (HB2.out.trans (below_of hb3 HB2.out.size))
        clear hb3
        have hdd : ((k : Int) == 0) = decide (k = 0) := by
          by_cases h : k = 0
          · subst h; rfl
          · rw [beq_eq_false_iff_ne.2 (by omega : (k : Int) ≠ 0)]
            simp [h]
        generalize decide (k = 0) = bb at hdd
        cases bb
        all_goals go_wp2_with fail
        all_goals (try (go_region; go_wp2_with fail))
        all_goals (go_ret; exact ⟨rfl, by first | exact HB3.out | exact HB3.out.drew⟩)
end Go.Proofs.YtmbegjbhmeihiaaGreatDoor
