/-
  The walk of the law FnToStringIntArrayIsCompactJSON.
-/
import Derived.Test.YtmbegjbhmeihiaaGreatFmtToStr
import Derived.Test.YtmbegjbhmeihiaaGreatFmtItoa108
import Derived.Test.YtmbegjbhmeihiaaGreatFmtCpy
import Derived.Test.YtmbegjbhmeihiaaGreatFmtMk
import Derived.Deep.DeepCutAuto
namespace Go.Proofs.YtmbegjbhmeihiaaGreatFmt
set_option linter.unusedVariables false
set_option linter.unusedSimpArgs false
open Go.RowKit Go.Lib Go.Sort

theorem slice_form {w : World} {v : Value} {xs : List Value} (h : SliceOf w v xs) : ∃ a c, v = .slice a xs.length c ∧ (0 < xs.length → ∃ b o, a = some ⟨b, o, none⟩ ∧ b < w.heap.size ∧ ∀ j u, xs[j]? = some u → w.cell? ⟨b, o + j, none⟩ = some u) := by
  rcases h with ⟨rfl, a, c, rfl⟩ | ⟨h1, b, o, c, rfl, h2, h3⟩
  · exact ⟨a, c, rfl, fun h => absurd h (by simp)⟩
  · exact ⟨_, c, rfl, fun _ => ⟨b, o, rfl, h2, h3⟩⟩
def isInts (zs : List Int) : List Value := zs.map (Value.int .i64)
theorem isInts_len (zs : List Int) : (isInts zs).length = zs.length := by simp [isInts]
theorem isInts_get (zs : List Int) (k : Nat) (h : k < zs.length) : (isInts zs)[k]? = some (.int .i64 zs[k]) := by simp [isInts, h]
theorem isInts_one (l : List Int) : ∀ u ∈ isInts l, u.oneCell' = true := by
  intro u hu
  simp only [isInts, List.mem_map] at hu
  obtain ⟨b, _, rfl⟩ := hu
  rfl
theorem anyInts_get' (zs : List Int) (k : Nat) (h : k < (anyInts zs).length) : (anyInts zs)[k] = .iface 3 (.int .i64 (zs[k]'(by simpa [anyInts] using h))) := by simp [anyInts]
theorem intSize : (Tryz.prog.info? 3).map (·.size) = some 1 := by kernel_rfl
theorem splice_all (xs ys : List Value) (h : xs.length = ys.length) : splice xs 0 ys = ys := by
  unfold splice
  simp [← h]
theorem mk_ints (n : Nat) (hn : n ≤ 1048576) (w : World) : (Instr.makeSlice 22 (.int .i64 (n : Int)) (.int .i64 (n : Int))).run Tryz.prog w = .ok (.slice (some ⟨w.heap.size, 0, none⟩) n n) (w.alloc (.cells (Array.replicate n (.int .i64 0)) 3)) :=
  run_mk 22 3 (.int .i64 0) 8 Tryz.underlying22 (by kernel_rfl) rfl n n (by omega) (by omega) (by omega) w
theorem mk_anys (n : Nat) (hn : n ≤ 1048576) (w : World) : (Instr.makeSlice 30 (.int .i64 (n : Int)) (.int .i64 (n : Int))).run Tryz.prog w = .ok (.slice (some ⟨w.heap.size, 0, none⟩) n n) (w.alloc (.cells (Array.replicate n .nilIface) 20)) :=
  run_mk 30 20 .nilIface 16 Tryz.underlying30 (by kernel_rfl) rfl n n (by omega) (by omega) (by omega) w
theorem copy_ints (n c : Nat) (ad : Addr) (zs : List Int) (hn : zs.length = n) (w0 : World) (hS : SliceOf w0 (.slice (some ad) n c) (isInts zs)) :
    ∃ w2, (Builtin.copy_ #[22, 22] 3 #[.slice (some ⟨w0.heap.size, 0, none⟩) n n, .slice (some ad) n c]).run Tryz.prog (w0.alloc (.cells (Array.replicate n (.int .i64 0)) 3)) = .ok (.int .i64 (n : Int)) w2 ∧ SliceOf w2 (.slice (some ⟨w0.heap.size, 0, none⟩) n n) (isInts zs) ∧ Below w0.heap.size w0 w2 := by
  have hb : Below w0.heap.size w0 (w0.alloc (.cells (Array.replicate n (.int .i64 0)) 3)) := by go_grown
  have hR := Row.alloc w0 3 (List.replicate n (.int .i64 0))
  rw [List.toArray_replicate] at hR
  obtain ⟨w2, h1, h2, h3⟩ := copy_run (P := Tryz.prog) 22 22 3 3 Tryz.underlying22 intSize w0.heap.size 0 n n n c (some ad) (isInts zs) (List.replicate n (.int .i64 0)) 3 (by rw [isInts_len, hn]) (Nat.le_refl _) (by simp) (isInts_one zs) _ hR (hS.on hb)
  rw [splice_all _ _ (by rw [isInts_len, hn]; simp)] at h2
  refine ⟨w2, h1, ?_, hb.trans (h3.below hb.size (fun k hk => by rw [hk]; exact Nat.le_refl _))⟩
  have := h2.slice n
  rwa [isInts_len, hn] at this
set_option maxRecDepth 100000 in
set_option maxHeartbeats 3200000 in
theorem zztostr (v : Value) (zs : List Int) (n : Nat) (hl : zs.length = n) (hn : n ≤ 32768) (hz : ∀ z ∈ zs, -9223372036854775808 ≤ z ∧ z ≤ 9223372036854775807) (w : World) (hT : Tabs w) (hS : SliceOf w v (isInts zs)) :
    Calls Tryz.prog 6 #[v] w fun e w' => e = .returned (.tuple #[.string ⟨(arrText zs).toArray⟩, .bool true]) ∧ Below w.heap.size w w' := by
  obtain ⟨a, c, rfl, hat⟩ := slice_form hS
  rw [isInts_len, hl] at hat ⊢
  have HA := Lib.hid hat
  have HN := Lib.hid hl
  have HZ := Lib.hid hz
  have HT := Lib.hid hT
  have mk := mk_anys n (by omega)
  have as1 := asStrStrC
  have as2 := asArrStr
  clear hat hl hS hz hT
  go_enter Tryz.func6, Tryz.ntmps6
  go_wp2_with fail
  have hF0 : Fill (w.alloc (.cells (Array.replicate n .nilIface) 20)) (w.alloc (.cells (Array.replicate n .nilIface) 20)) w.heap.size 20 (anyInts zs) .nilIface 0 := by
    refine Fill.start ?_
    rw [anyInts_len, HN.out]
    have := Row.alloc w 20 (List.replicate n .nilIface)
    rwa [List.toArray_replicate] at this
  have HB0 := Lib.hid (show Below w.heap.size w (w.alloc (.cells (Array.replicate n .nilIface) 20)) by go_grown)
  have HF0 := Lib.hid hF0
  clear hF0 mk
  generalize hW0 : w.alloc (.cells (Array.replicate n .nilIface) 20) = W0 at HF0 HB0 ⊢
  clear hW0
  go_loopw [14] (fun vi wr => ∃ k : Nat, vi = .int .i64 (k : Int) ∧ k ≤ n ∧ Hid (Fill W0 wr w.heap.size 20 (anyInts zs) .nilIface k)) (fun vi _ => n - (RowKit.intOf vi).toNat)
  case atStart => exact ⟨0, rfl, Nat.zero_le _, HF0⟩
  case round =>
    obtain ⟨k, rfl, hk, HF⟩ := hrel
    by_cases hkn : k < n
    · obtain ⟨b, o, rfl, hb, hc⟩ := HA.out (by omega)
      have hkz : k < zs.length := by rw [HN.out]; exact hkn
      have c1 : wr.cell? ⟨b, o + k, none⟩ = some (.int .i64 zs[k]) := (HF.out.old (p := ⟨b, o + k, none⟩) (by have := HB0.out.size; show b < _; omega) (by show b ≠ _; omega)).trans ((HB0.out.cell (p := ⟨b, o + k, none⟩) hb).trans (hc k _ (isInts_get zs k hkz)))
      obtain ⟨y, c2⟩ := HF.out.cell k (by rw [anyInts_len]; exact hkz)
      have f2 := HF.out.free k
      have HS := Lib.hid (HF.out.step (by rw [anyInts_len]; exact hkz) (.iface 3 (.int .i64 zs[k])) (anyInts_get' zs k _))
      clear hc
      go_wp2_with fail
      go_roundw
      case rel => exact ⟨k + 1, by go_num, by omega, HS⟩
      case measure => simp [RowKit.intOf]; omega
    · obtain rfl : k = n := by omega
      have hRow := HF.out.done (by rw [anyInts_len, HN.out])
      have HBr := Lib.hid (HF.out.below (Nat.le_refl _) HB0.out)
      have HJ := Lib.hid (jm_arr zs k k (some ⟨w.heap.size, 0, none⟩) HN.out hn HZ.out wr (HT.out.on HBr.out) (fun _ => ⟨w.heap.size, 0, rfl, hRow.lt, fun j u hj => by
        obtain ⟨h1, h2⟩ := List.getElem?_eq_some_iff.1 hj
        rw [Nat.zero_add, hRow.cell j h1, h2]⟩))
      clear hRow HF
      go_wp2_with (first
        | (go_at_call 9; refine HJ.out.mono ?_; rintro e w9 ⟨rfl, hb9⟩)
        | go_in)
      go_ret2
      exact ⟨rfl, HBr.out.trans (below_of hb9 HBr.out.size)⟩
set_option maxHeartbeats 800000 in
theorem bytes_FnToStringIntArrayIsCompactJSON (a1 : Option Addr) (n1 c1 : Nat) (h1 : n1 ≤ 9223372036854775807) (w : World) :
    Calls Tryz.prog 4 #[.slice a1 n1 c1] w fun e w' => (∃ b, e = .returned (.bool b)) ∧ Below w.heap.size w w' := by
  go_enter Tryz.func4, Tryz.ntmps4
  go_wp2
  repeat (any_goals go_region; any_goals go_wp2)
  all_goals (go_ret; exact ⟨⟨_, rfl⟩, by go_grown⟩)
theorem mk_bytes (n : Nat) (hn : n ≤ 1048576) (w : World) : (Instr.makeSlice 24 (.int .i64 0) (.int .i64 (2 + 21 * (n : Int)))).run Tryz.prog w = .ok (.slice (some ⟨w.heap.size, 0, none⟩) 0 (2 + 21 * n)) (w.alloc (.cells (Array.replicate (2 + 21 * n) (.int .u8 0)) 5)) := by
  have := run_mk (P := Tryz.prog) 24 5 (.int .u8 0) 1 Tryz.underlying24 (by kernel_rfl) rfl 0 (2 + 21 * n) (by omega) (by omega) (by omega) w
  rw [show ((2 + 21 * n : Nat) : Int) = 2 + 21 * (n : Int) by omega] at this
  exact this
theorem dd_len : ∀ (k u : Nat), u < 10 ^ (k + 1) → (decDigits u).length ≤ k + 1
  | 0, u, h => by
    rw [decDigits, dif_pos (by simpa using h)]
    simp
  | k + 1, u, h => by
    rw [decDigits]
    split
    · simp
    · have h2 : u / 10 < 10 ^ (k + 1) := by
        rw [Nat.pow_succ] at h
        exact (Nat.div_lt_iff_lt_mul (by omega)).2 h
      have := dd_len k (u / 10) h2
      simp
      omega
theorem itoa_20 (n : Int) (h0 : -9223372036854775808 ≤ n) (h1 : n ≤ 9223372036854775807) : (itoa n).length ≤ 20 := by
  have d19 : ∀ u : Nat, u ≤ 9223372036854775808 → (decDigits u).length ≤ 19 := fun u hu => dd_len 18 u (Nat.lt_of_le_of_lt hu (by decide))
  unfold itoa
  split
  · have := d19 n.natAbs (by omega)
    simp; omega
  · have := d19 n.toNat (by omega)
    omega
theorem joinTo_len2 (zs : List Int) (hz : ∀ z ∈ zs, -9223372036854775808 ≤ z ∧ z ≤ 9223372036854775807) : ∀ k, k ≤ zs.length → (joinTo zs k).length + (if k = 0 then 0 else 1) ≤ 21 * k
  | 0, _ => by simp [joinTo]
  | k + 1, hk => by
    have h1 := joinTo_len2 zs hz k (by omega)
    have e : zs.getD k 0 = zs[k]'(by omega) := by simp [List.getD, List.getElem?_eq_getElem (show k < zs.length by omega)]
    have h2 := hz (zs[k]'(by omega)) (List.getElem_mem _)
    have h3 := itoa_20 _ h2.1 h2.2
    unfold joinTo
    rw [e, List.length_append, List.length_append, if_neg (show ¬ k + 1 = 0 by omega)]
    by_cases hk0 : k = 0
    · rw [if_pos hk0] at h1 ⊢
      subst hk0
      simp only [List.length_nil]
      omega
    · rw [if_neg hk0] at h1 ⊢
      simp only [List.length_cons, List.length_nil]
      omega
set_option maxRecDepth 100000 in
set_option maxHeartbeats 3200000 in
theorem walk_main (a1 : Option Addr) (n c1 : Nat) (zs : List Int) (W : World) (hl : zs.length = n) (hn : n ≤ 32768) (hz : ∀ z ∈ zs, -9223372036854775808 ≤ z ∧ z ≤ 9223372036854775807) (hT : Tabs W) (hL : SliceOf W (.slice a1 n c1) (isInts zs)) :
    Calls Tryz.prog 3 #[.slice a1 n c1] W fun e w' => e = .returned (.bool true) ∧ Below W.heap.size W w' := by
  have HZ := Lib.hid (bytes_FnToStringIntArrayIsCompactJSON a1 n c1 (by omega) W)
  have mk1 := mk_ints n (by omega)
  have mk2 := mk_bytes n (by omega)
  have HL := Lib.hid hL
  have HN := Lib.hid hl
  have HBD := Lib.hid hz
  have HT := Lib.hid hT
  clear hL hl hz hT
  go_enter Tryz.func3, Tryz.ntmps3
  go_wp2_with fail
  refine HZ.out.mono ?_
  rintro e w0 ⟨⟨bb, rfl⟩, hb0⟩
  cases bb
  · go_wp2_with fail
    go_ret
    exact ⟨rfl, hb0⟩
  have HB0 := Lib.hid hb0
  have HL0 := Lib.hid (HL.out.on hb0)
  clear hb0 HZ
  go_upto_if 15 with fail
  go_cut [0] (fun s0 wx => ∃ a c, s0 = .slice a n c ∧ Hid (SliceOf wx (.slice a n c) (isInts zs)) ∧ Hid (Below w0.heap.size w0 wx))
  case first =>
    rcases a1 with _ | ad1
    · go_wp2_with fail
      go_meet
      exact ⟨none, c1, rfl, HL0, Lib.hid (Below.refl _ _)⟩
    · obtain ⟨w2, hc, hs, hbw⟩ := copy_ints n c1 ad1 zs HN.out w0 HL0.out
      have HS := Lib.hid hs
      have HW := Lib.hid hbw
      clear hs hbw
      go_wp2_with fail
      go_meet
      exact ⟨_, _, rfl, HS, HW⟩
  case rest =>
    obtain ⟨a, c, rfl, HSL, HW1⟩ := hcut
    obtain ⟨we, hwe⟩ : ∃ x, x = wc := ⟨_, rfl⟩
    subst hwe
    obtain ⟨i0, hi, hz0, hz1, hz2⟩ := info_parts u8Info
    have HB1 := Lib.hid (HB0.out.trans (below_of HW1.out HB0.out.size))
    have hA0 : Buf we.heap.size we.heap.size (2 + 21 * n) [] (we.alloc (.cells (Array.replicate (2 + 21 * n) (.int .u8 0)) 5)) :=
      World.ownsRow_made we _ _ (Nat.le_refl _) (by unfold maxLen; omega) (by simp)
    clear mk1 HW1 HL0 HB0 HL
    go_wp2_with (at_builtin; refine wpList_append_fits _ rfl _ _ 24 rfl we.heap.size 5 i0 1 Tryz.underlying24 hi hz1 we.heap.size _ (2 + 21 * n) _ rfl (World.ownsRow.alloc hA0 _) ⟨we.heap.size + 1, 0, none⟩ 1 1 [.int .u8 91] rfl rfl ?c1 ?c2 ?c3 ?_)
    case c1 =>
      intro q v hq
      cases q with
      | zero => simp at hq; subst hq; go_simp
      | succ q => simp at hq
    case c2 => intro v hv; simp at hv; subst hv; rfl
    case c3 => simp; omega
    intro w2 hown2 hgrow2
    have HBw2 : Hid (Below we.heap.size we w2) := Lib.hid ((((Below.refl we.heap.size we).alloc (Nat.le_refl _) _).alloc (by simp) _).trans ((grown_only hgrow2).below (by simp; omega) (fun k hk => by rw [hk]; exact Nat.le_refl _)))
    have HBuf : Hid (Buf we.heap.size we.heap.size (2 + 21 * n) ([91] ++ joinTo zs 0) w2) := Lib.hid (by unfold Buf; simpa [joinTo, bc] using hown2)
    clear hown2 hgrow2 hA0
    go_wp2_with fail
    go_loopw [4, 5] (fun vb vi wr => ∃ (k l : Nat), vi = .int .i64 (k : Int) ∧ k ≤ n ∧ vb = .slice (some ⟨we.heap.size, 0, none⟩) l (2 + 21 * n) ∧ Hid (([91] ++ joinTo zs k).length = l) ∧ l + (if k = 0 then 0 else 1) ≤ 21 * k + 1 ∧ Hid (Buf we.heap.size we.heap.size (2 + 21 * n) ([91] ++ joinTo zs k) wr) ∧ Hid (Below we.heap.size we wr)) (fun _ vi _ => n - (RowKit.intOf vi).toNat)
    case atStart => exact ⟨0, 1, rfl, Nat.zero_le _, rfl, Lib.hid rfl, by simp, HBuf, HBw2⟩
    case round =>
      obtain ⟨k, l, rfl, hk, rfl, HLn, hlk, HBk, HBr⟩ := hrel
      by_cases hkn : k < n
      · have hkz : k < zs.length := by rw [HN.out]; exact hkn
        obtain ⟨a9, c9, hv9, hat⟩ := slice_form HSL.out
        rw [isInts_len, HN.out] at hv9 hat
        obtain ⟨b9, o9, hb9, hlt9, hcell⟩ := hat (by omega)
        injection hv9 with hv9 _ hc9
        subst hc9
        subst hv9
        subst hb9
        have c1 := (HBr.out.cell (p := ⟨b9, o9 + k, none⟩) hlt9).trans (hcell k _ (isInts_get zs k hkz))
        have hzk := HBD.out zs[k] (List.getElem_mem hkz)
        have hj : joinTo zs (k + 1) = joinTo zs k ++ (if k = 0 then [] else [44]) ++ itoa zs[k] := by
          show _ ++ _ ++ itoa (zs.getD k 0) = _
          simp [List.getD, List.getElem?_eq_getElem hkz]
        generalize zs[k] = z at c1 hzk hj
        have HJ := Lib.hid hj
        have h20 := itoa_20 z hzk.1 hzk.2
        obtain ⟨m, hm⟩ : ∃ m, (itoa z).length = m := ⟨_, rfl⟩
        have HM := Lib.hid hm
        rw [hm] at h20
        clear hj hcell hat hm
        by_cases hk0 : k = 0
        · subst hk0
          rw [if_pos rfl] at hlk
          have hap := appItoa_any z hzk.1 hzk.2 we.heap.size we.heap.size (2 + 21 * n) ([91] ++ joinTo zs 0) wr HBk.out (by rw [HLn.out, HM.out]; omega) (by omega)
          rw [HLn.out, show (([91] ++ joinTo zs 0 : List UInt8) ++ itoa z).length = l + m by rw [List.length_append, HLn.out, HM.out]] at hap
          have HAP := Lib.hid hap
          clear hap
          rw [Nat.add_zero] at c1
          go_wp2_with fail
          refine HAP.out.mono ?_
          rintro e w3 ⟨rfl, h1, h2⟩
          have HB3 : Hid (Buf we.heap.size we.heap.size (2 + 21 * n) ([91] ++ joinTo zs 1) w3) := Lib.hid (by rw [HJ.out]; simpa [joinTo] using h1)
          have HL3 : Hid (([91] ++ joinTo zs 1).length = l + m) := Lib.hid (by rw [HJ.out, ← HM.out, ← HLn.out]; simp [joinTo]; omega)
          have HO3 : Hid (Below we.heap.size we w3) := Lib.hid (HBr.out.trans (h2.below HBr.out.size (fun k hk => by rw [hk]; exact Nat.le_refl _)))
          clear h1 h2 HAP
          go_wp2_with fail
          go_roundw
          case rel => exact ⟨1, l + m, by go_num, by omega, rfl, HL3, by simp; omega, HB3, HO3⟩
          case measure => simp [RowKit.intOf]; omega
        · have q1 : (0 : Int) < (k : Int) := by omega
          rw [if_neg hk0] at hlk
          have hKK := HBk.out
          unfold Buf at hKK
          rw [HLn.out] at hKK
          go_wp2_with (at_builtin; refine wpList_append_fits _ rfl _ _ 24 rfl we.heap.size 5 i0 1 Tryz.underlying24 hi hz1 we.heap.size _ (2 + 21 * n) _ rfl (World.ownsRow.alloc hKK _) ⟨wr.heap.size, 0, none⟩ 1 1 [.int .u8 44] rfl rfl ?d1 ?d2 ?d3 ?_)
          case d2 => rfl
          case d3 => omega
          intro w3 hown2 hgrow2
          have hb3 : Buf we.heap.size we.heap.size (2 + 21 * n) ([91] ++ joinTo zs k ++ [44]) w3 := by
            unfold Buf
            rw [List.length_append, HLn.out, bc_append]
            simpa [bc] using hown2
          have hbz := HBr.out.size
          have hB3 : Below we.heap.size we w3 := (HBr.out.alloc hbz _).trans ((grown_only hgrow2).below (by simp; omega) (fun k hk => by rw [hk]; exact Nat.le_refl _))
          have hl3 : ([91] ++ joinTo zs k ++ [44]).length = l + 1 := by rw [List.length_append, HLn.out]; rfl
          have hap := appItoa_any z hzk.1 hzk.2 we.heap.size we.heap.size (2 + 21 * n) _ w3 hb3 (by rw [hl3, HM.out]; omega) (by omega)
          rw [hl3, show (([91] ++ joinTo zs k ++ [44] : List UInt8) ++ itoa z).length = l + 1 + m by rw [List.length_append, hl3, HM.out]] at hap
          have HAP := Lib.hid hap
          have c4 : w3.cell? ⟨b9, o9 + k, none⟩ = some (.int .i64 z) := by
            have hne : b9 ≠ we.heap.size := by omega
            rw [(grown_only hgrow2).cell (p := ⟨b9, o9 + k, none⟩) (by simp; omega) hne]
            exact (((Below.refl wr.heap.size wr).alloc (Nat.le_refl _) _).cell (p := ⟨b9, o9 + k, none⟩) (by show b9 < _; omega)).trans c1
          have HB3 := Lib.hid hB3
          clear hap hown2 hgrow2 hb3 hKK hB3 hl3
          go_wp2_with fail
          refine HAP.out.mono ?_
          rintro e w4 ⟨rfl, h1, h2⟩
          have HB4 : Hid (Buf we.heap.size we.heap.size (2 + 21 * n) ([91] ++ joinTo zs (k + 1)) w4) := Lib.hid (by rw [HJ.out, if_neg hk0]; simpa using h1)
          have HL4 : Hid (([91] ++ joinTo zs (k + 1)).length = l + 1 + m) := Lib.hid (by
            have := HLn.out
            rw [HJ.out, ← HM.out, if_neg hk0]
            simp at this ⊢
            omega)
          have HO4 : Hid (Below we.heap.size we w4) := Lib.hid (HB3.out.trans (h2.below HB3.out.size (fun k hk => by rw [hk]; exact Nat.le_refl _)))
          clear h1 h2 HAP
          go_wp2_with fail
          go_roundw
          case rel => exact ⟨k + 1, l + 1 + m, by go_num, by omega, rfl, HL4, by simp; omega, HB4, HO4⟩
          case measure => simp [RowKit.intOf]; omega
      · obtain rfl : k = n := by omega
        have hlk2 : l + 1 ≤ 2 + 21 * k := by
          split at hlk <;> omega
        have hKK := HBk.out
        unfold Buf at hKK
        rw [HLn.out] at hKK
        go_wp2_with (at_builtin; refine wpList_append_fits _ rfl _ _ 24 rfl we.heap.size 5 i0 1 Tryz.underlying24 hi hz1 we.heap.size _ (2 + 21 * k) _ rfl (World.ownsRow.alloc hKK _) ⟨wr.heap.size, 0, none⟩ 1 1 [.int .u8 93] rfl rfl ?e1 ?e2 ?e3 ?_)
        case e1 =>
          intro q v hq
          cases q with
          | zero => simp at hq; subst hq; go_simp
          | succ q => simp at hq
        case e2 => intro v hv; simp at hv; subst hv; rfl
        case e3 => omega
        intro w3 hown2 hgrow2
        have hbz := HBr.out.size
        have hB3 : Below we.heap.size we w3 := (HBr.out.alloc hbz _).trans ((grown_only hgrow2).below (by simp; omega) (fun k hk => by rw [hk]; exact Nat.le_refl _))
        have hbuf : Buf we.heap.size we.heap.size (2 + 21 * k) (arrText zs) w3 := by
          unfold Buf arrText
          rw [HN.out, List.length_append, HLn.out, bc_append]
          simpa [bc] using hown2
        have htl : (arrText zs).length = l + 1 := by unfold arrText; rw [HN.out, List.length_append, HLn.out]; rfl
        have HTL := Lib.hid htl
        have HB3 := Lib.hid hB3
        have HBF := Lib.hid hbuf
        have HZT := Lib.hid (zztostr _ zs k HN.out hn HBD.out w3 (HT.out.on (HB1.out.trans (below_of HB3.out HB1.out.size))) (HSL.out.on HB3.out))
        clear hown2 hgrow2 hB3 hbuf hKK htl
        go_wp2_with fail
        refine HZT.out.mono ?_
        rintro e w4 ⟨rfl, hb4⟩
        have hlt3 := (buf_lt HBF.out).2
        have hbf4 : Buf we.heap.size we.heap.size (2 + 21 * k) (arrText zs) w4 := buf_only (S := fun _ => False) HBF.out ⟨hb4.os, hb4.tape, hb4.output, hb4.size, fun q hq _ => hb4.block q hq⟩ (fun h => h)
        have HB4 := Lib.hid ((HB1.out.trans (below_of HB3.out HB1.out.size)).trans (below_of hb4 (by have := HB1.out.size; have := HB3.out.size; omega)))
        have hcv := run_convert_bytes_back (P := Tryz.prog) w4 24 9 5 ⟨we.heap.size, 0, none⟩ (2 + 21 * k) (arrText zs) Tryz.underlying24 Tryz.underlying5 Tryz.underlying9 (fun j hj => by
          have := hbf4.cells rfl j _ (bc_get _ j hj)
          exact this)
        rw [HTL.out] at hcv
        clear hbf4 hb4 hlt3
        go_wp2_with fail
        try (go_region; go_wp2_with fail)
        all_goals (go_ret; exact ⟨rfl, by first | exact HB4.out | exact HB4.out.drew⟩)
set_option maxRecDepth 100000 in
set_option maxHeartbeats 1600000 in
theorem walk_FnToStringIntArrayIsCompactJSON (v : Value) (xs : List Int) (W : World) (hL : SliceOf W v (xs.map (Value.int .i64))) (b1 : ∀ n ∈ xs, (Lit.int .i64 n).wf = true) (m1 : xs.length ≤ maxLen) (hD : Tabs W) :
    Calls Tryz.prog 3 #[v] W fun e w' => e = .returned (.bool true) ∧ Below W.heap.size W w' := by
  have hL' : SliceOf W v (isInts xs) := hL
  have hz : ∀ z ∈ xs, -9223372036854775808 ≤ z ∧ z ≤ 9223372036854775807 := fun z hzz => bounds_int (b1 z hzz)
  clear b1 hL
  obtain ⟨a1, c1, rfl, _⟩ := slice_form hL'
  rw [isInts_len] at hL' ⊢
  unfold maxLen at m1
  obtain ⟨n, hl⟩ : ∃ n, xs.length = n := ⟨_, rfl⟩
  rw [hl] at m1 hL' ⊢
  by_cases g1 : 32768 < n
  · have q1 : (32768 : Int) < (n : Int) := by omega
    have HZ := Lib.hid (bytes_FnToStringIntArrayIsCompactJSON a1 n c1 (by omega) W)
    clear hL' hl hz hD
    go_enter Tryz.func3, Tryz.ntmps3
    go_wp2_with fail
    refine HZ.out.mono ?_
    rintro e w0 ⟨⟨bb, rfl⟩, hb0⟩
    cases bb
    all_goals (go_wp2_with fail; go_ret; exact ⟨rfl, hb0⟩)
  exact walk_main a1 n c1 xs W hl (by omega) hz hD hL'
end Go.Proofs.YtmbegjbhmeihiaaGreatFmt
