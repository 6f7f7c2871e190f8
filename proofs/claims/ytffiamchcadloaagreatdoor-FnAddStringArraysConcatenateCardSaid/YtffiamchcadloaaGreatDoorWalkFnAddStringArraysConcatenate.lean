/-
  The walk of the law FnAddStringArraysConcatenate.
-/
import Derived.Test.YtffiamchcadloaaGreatDoorAddA
namespace Go.Proofs.YtffiamchcadloaaGreatDoor
set_option linter.unusedVariables false
set_option linter.unusedSimpArgs false
open Go.RowKit Go.Lib

set_option maxRecDepth 100000 in
set_option maxHeartbeats 1600000 in
theorem bytes_FnAddStringArraysConcatenate (v1 v2 : Value) (ls rs : List ByteArray) (n m : Nat) (hl : ls.length = n) (hr : rs.length = m) (hn : n ≤ 9223372036854775807) (hm : m ≤ 9223372036854775807) (hb1 : ∀ x ∈ ls, x.size ≤ 9223372036854775807) (hb2 : ∀ x ∈ rs, x.size ≤ 9223372036854775807) (w : World) (hS1 : SliceOf w v1 (isStrs ls)) (hS2 : SliceOf w v2 (isStrs rs)) :
    Calls Tryz.prog 14 #[v1, v2] w fun e w' => (∃ b, e = .returned (.bool b)) ∧ Below w.heap.size w w' := by
  obtain ⟨a1, c1, rfl, hat1⟩ := slice_form hS1
  obtain ⟨a2, c2, rfl, hat2⟩ := slice_form hS2
  rw [isStrs_len, hl] at hat1 ⊢
  rw [isStrs_len, hr] at hat2 ⊢
  have HA1 := Lib.hid hat1
  have HA2 := Lib.hid hat2
  have HN1 := Lib.hid hl
  have HN2 := Lib.hid hr
  have HBD1 := Lib.hid hb1
  have HBD2 := Lib.hid hb2
  clear hat1 hat2 hl hr hS1 hS2 hb1 hb2
  by_cases g1 : 1048576 < n
  · have q1 : (1048576 : Int) < (n : Int) := by omega
    go_enter Tryz.func14, Tryz.ntmps14
    go_wp2_with fail
    go_ret
    exact ⟨⟨_, rfl⟩, Below.refl _ _⟩
  have q1 : (n : Int) ≤ 1048576 := by omega
  clear g1
  go_enter Tryz.func14, Tryz.ntmps14
  go_wp2_with fail
  go_loopw [5, 6] (fun vn vi wr => ∃ (k t : Nat), vi = .int .i64 (k : Int) ∧ vn = .int .i64 (t : Int) ∧ k ≤ n ∧ (t : Int) ≤ 1048576 ∧ Hid (Below w.heap.size w wr)) (fun _ vi _ => n - (RowKit.intOf vi).toNat)
  case atStart => exact ⟨0, n, rfl, by go_num, Nat.zero_le _, by omega, Lib.hid (Below.refl _ _)⟩
  case round =>
    obtain ⟨k, t, rfl, rfl, hk, ht, HBr⟩ := hrel
    by_cases hkn : k < n
    · obtain ⟨b, o, rfl, hb, hc⟩ := HA1.out (by omega)
      have hkz : k < ls.length := by rw [HN1.out]; exact hkn
      have c1 : wr.cell? ⟨b, o + k, none⟩ = some (.string ls[k]) := (HBr.out.cell (p := ⟨b, o + k, none⟩) hb).trans (hc k _ (isStrs_get ls k hkz))
      have hx := HBD1.out ls[k] (List.getElem_mem hkz)
      generalize ls[k] = x at c1 hx
      clear hc
      by_cases g4 : 1048576 < x.size
      · have q4 : (1048576 : Int) < (x.size : Int) := by omega
        go_wp2_with fail
        try (go_region; go_wp2_with fail)
        go_ret
        exact ⟨⟨_, rfl⟩, by first | exact HBr.out | exact HBr.out.drew⟩
      have q4 : (x.size : Int) ≤ 1048576 := by omega
      by_cases g5 : 1048576 < t + x.size
      · have q5 : (1048576 : Int) < (t : Int) + (x.size : Int) := by omega
        go_wp2_with fail
        try (go_region; go_wp2_with fail)
        go_ret
        exact ⟨⟨_, rfl⟩, by first | exact HBr.out | exact HBr.out.drew⟩
      have q5 : (t : Int) + (x.size : Int) ≤ 1048576 := by omega
      clear g4 g5
      go_wp2_with fail
      try (go_region; go_wp2_with fail)
      go_roundw
      case rel => exact ⟨k + 1, t + x.size, by go_num, by go_num, by omega, by omega, by first | exact HBr | exact Lib.hid HBr.out.drew⟩
      case measure => simp [RowKit.intOf]; omega
    · obtain ⟨t0, ht0⟩ : ∃ x, x = t := ⟨_, rfl⟩
      subst ht0
      obtain ⟨w0, hw0⟩ : ∃ x, x = wr := ⟨_, rfl⟩
      subst hw0
      have HB0 := HBr
      clear HBr
      by_cases g2 : 1048576 < m
      · have q2 : (1048576 : Int) < (m : Int) := by omega
        go_wp2_with fail
        go_ret
        exact ⟨⟨_, rfl⟩, HB0.out⟩
      have q2 : (m : Int) ≤ 1048576 := by omega
      by_cases g3 : 1048576 < t0 + m
      · have q3 : (1048576 : Int) < (t0 : Int) + (m : Int) := by omega
        go_wp2_with fail
        go_ret
        exact ⟨⟨_, rfl⟩, HB0.out⟩
      have q3 : (t0 : Int) + (m : Int) ≤ 1048576 := by omega
      clear g2 g3
      go_wp2_with fail
      go_loopw [5, 7] (fun vn vi wr => ∃ (k t : Nat), vi = .int .i64 (k : Int) ∧ vn = .int .i64 (t : Int) ∧ k ≤ m ∧ (t : Int) ≤ 1048576 ∧ Hid (Below w.heap.size w wr)) (fun _ vi _ => m - (RowKit.intOf vi).toNat)
      case atStart => exact ⟨0, t0 + m, rfl, by go_num, Nat.zero_le _, by omega, HB0⟩
      case round =>
        obtain ⟨k, t, rfl, rfl, hk, ht, HBr⟩ := hrel
        by_cases hkn : k < m
        · obtain ⟨b, o, rfl, hb, hc⟩ := HA2.out (by omega)
          have hkz : k < rs.length := by rw [HN2.out]; exact hkn
          have c1 : wr.cell? ⟨b, o + k, none⟩ = some (.string rs[k]) := (HBr.out.cell (p := ⟨b, o + k, none⟩) hb).trans (hc k _ (isStrs_get rs k hkz))
          have hx := HBD2.out rs[k] (List.getElem_mem hkz)
          generalize rs[k] = x at c1 hx
          clear hc
          by_cases g4 : 1048576 < x.size
          · have q4 : (1048576 : Int) < (x.size : Int) := by omega
            go_wp2_with fail
            try (go_region; go_wp2_with fail)
            go_ret
            exact ⟨⟨_, rfl⟩, by first | exact HBr.out | exact HBr.out.drew⟩
          have q4 : (x.size : Int) ≤ 1048576 := by omega
          by_cases g5 : 1048576 < t + x.size
          · have q5 : (1048576 : Int) < (t : Int) + (x.size : Int) := by omega
            go_wp2_with fail
            try (go_region; go_wp2_with fail)
            go_ret
            exact ⟨⟨_, rfl⟩, by first | exact HBr.out | exact HBr.out.drew⟩
          have q5 : (t : Int) + (x.size : Int) ≤ 1048576 := by omega
          clear g4 g5
          go_wp2_with fail
          try (go_region; go_wp2_with fail)
          go_roundw
          case rel => exact ⟨k + 1, t + x.size, by go_num, by go_num, by omega, by omega, by first | exact HBr | exact Lib.hid HBr.out.drew⟩
          case measure => simp [RowKit.intOf]; omega
        · go_wp2_with fail
          go_ret
          exact ⟨⟨_, rfl⟩, HBr.out⟩
theorem slice_at {w : World} {d : Option Addr} {n c : Nat} {ss : List ByteArray} (hl : ss.length = n) (h : SliceOf w (.slice d n c) (isStrs ss)) : 0 < n → ∃ b o, d = some ⟨b, o, none⟩ ∧ b < w.heap.size ∧ ∀ j u, (isStrs ss)[j]? = some u → w.cell? ⟨b, o + j, none⟩ = some u := by
  obtain ⟨a, c', hv, hat⟩ := slice_form h
  rw [isStrs_len, hl] at hat
  injection hv with h1 h2 h3
  subst h1
  exact hat
theorem row_left {w : World} {R : Nat} {ls rs : List ByteArray} {k : Nat} (h : Row w R 9 (isStrs (ls ++ rs))) (hk : k < ls.length) : w.cell? ⟨R, k, none⟩ = some (.string ls[k]) := by
  rw [h.cell k (by rw [isStrs_len, List.length_append]; omega), isStrs_get', List.getElem_append_left hk]
theorem row_right {w : World} {R n : Nat} {ls rs : List ByteArray} {k : Nat} (hn : ls.length = n) (h : Row w R 9 (isStrs (ls ++ rs))) (hk : k < rs.length) : w.cell? ⟨R, n + k, none⟩ = some (.string rs[k]) := by
  subst hn
  rw [h.cell (ls.length + k) (by rw [isStrs_len, List.length_append]; omega), isStrs_get']
  simp
set_option maxRecDepth 100000 in
set_option maxHeartbeats 3200000 in
theorem walk_FnAddStringArraysConcatenate (v1 : Value) (ls : List ByteArray) (v2 : Value) (rs : List ByteArray) (W : World) (hS1 : SliceOf W v1 (ls.map Value.string)) (hb1 : ∀ x ∈ ls, x.size ≤ maxLen) (hm1 : ls.length ≤ maxLen) (hS2 : SliceOf W v2 (rs.map Value.string)) (hb2 : ∀ x ∈ rs, x.size ≤ maxLen) (hm2 : rs.length ≤ maxLen) (hD : Tabs W) :
    Calls Tryz.prog 5 #[v1, v2] W fun e w' => e = .returned (.bool true) ∧ Below W.heap.size W w' := by
  have hT1 : SliceOf W v1 (isStrs ls) := hS1
  have hT2 : SliceOf W v2 (isStrs rs) := hS2
  clear hD hS1 hS2
  unfold maxLen at hb1 hb2 hm1 hm2
  obtain ⟨a1, c1, rfl, hat1⟩ := slice_form hT1
  obtain ⟨a2, c2, rfl, hat2⟩ := slice_form hT2
  clear hat1 hat2
  obtain ⟨n, hl⟩ : ∃ n, ls.length = n := ⟨_, rfl⟩
  obtain ⟨m, hr⟩ : ∃ m, rs.length = m := ⟨_, rfl⟩
  rw [isStrs_len, hl] at hT1 ⊢
  rw [isStrs_len, hr] at hT2 ⊢
  rw [hl] at hm1
  rw [hr] at hm2
  have HZ := Lib.hid (bytes_FnAddStringArraysConcatenate _ _ ls rs n m hl hr hm1 hm2 hb1 hb2 W hT1 hT2)
  have HN1 := Lib.hid hl
  have HN2 := Lib.hid hr
  have HT1 := Lib.hid hT1
  have HT2 := Lib.hid hT2
  clear hl hr hT1 hT2 hb1 hb2
  go_enter Tryz.func5, Tryz.ntmps5
  go_wp2_with fail
  refine HZ.out.mono ?_
  rintro e w0 ⟨⟨bb, rfl⟩, hb0⟩
  have HB0 := Lib.hid hb0
  have HT10 := Lib.hid (HT1.out.on hb0)
  have HT20 := Lib.hid (HT2.out.on hb0)
  clear hb0 HZ HT1 HT2
  cases bb
  · go_wp2_with fail
    go_ret
    exact ⟨rfl, HB0.out⟩
  by_cases g1 : 4096 < n
  · have q1 : (4096 : Int) < (n : Int) := by omega
    go_wp2_with fail
    go_ret
    exact ⟨rfl, HB0.out⟩
  by_cases g2 : 4096 < m
  · have q1 : (n : Int) ≤ 4096 := by omega
    have q2 : (4096 : Int) < (m : Int) := by omega
    go_wp2_with fail
    go_ret
    exact ⟨rfl, HB0.out⟩
  have q1 : (n : Int) ≤ 4096 := by omega
  have q2 : (m : Int) ≤ 4096 := by omega
  have HY1 := Lib.hid (strbytes_any _ ls n HN1.out (by omega) w0 HT10.out)
  have HY2 := Lib.hid (fun (wx : World) (hb : Below w0.heap.size w0 wx) => strbytes_any _ rs m HN2.out (by omega) wx (HT20.out.on hb))
  go_wp2_with fail
  refine HY1.out.mono ?_
  rintro e wx1 ⟨⟨x1, rfl⟩, hb1⟩
  have HBX1 := Lib.hid hb1
  clear hb1 HY1
  go_wp2_with fail
  refine (HY2.out _ HBX1.out).mono ?_
  rintro e wx2 ⟨⟨x2, rfl⟩, hb2⟩
  have HBX2 := Lib.hid (HBX1.out.trans (below_of hb2 HBX1.out.size))
  have HBW := Lib.hid (HB0.out.trans (below_of HBX2.out HB0.out.size))
  have HT1x := Lib.hid (HT10.out.on HBX2.out)
  have HT2x := Lib.hid (HT20.out.on HBX2.out)
  clear hb2 HY2 HT10 HT20 HBX1 HBX2 HB0
  by_cases g3 : 1048576 < wrap64 (x1 + x2)
  · go_wp2_with fail
    go_ret
    exact ⟨rfl, HBW.out⟩
  have q3 : wrap64 (x1 + x2) ≤ 1048576 := by omega
  have HC1 := Lib.hid (clone_any _ ls n HN1.out (by omega) wx2 HT1x.out)
  have HC2 := Lib.hid (fun (wx : World) (hb : Below wx2.heap.size wx2 wx) => clone_any _ rs m HN2.out (by omega) wx (HT2x.out.on hb))
  go_wp2_with fail
  refine HC1.out.mono ?_
  rintro e w3 ⟨⟨d1, e1, rfl, hs1⟩, hb3⟩
  have HB3 := Lib.hid hb3
  have HS1 := Lib.hid hs1
  clear hb3 hs1 HC1
  go_wp2_with fail
  refine (HC2.out _ HB3.out).mono ?_
  rintro e w4 ⟨⟨d2, e2, rfl, hs2⟩, hb4⟩
  have HB4 := Lib.hid (HBW.out.trans ((below_of HB3.out HBW.out.size).trans (below_of hb4 (by have := HBW.out.size; have := HB3.out.size; omega))))
  have HS14 := Lib.hid (HS1.out.on hb4)
  have HS24 := Lib.hid hs2
  clear hb4 hs2 HC2 HB3 HS1 HBW HT1x HT2x
  have HADD := Lib.hid (zzadd_any _ _ ls rs n m HN1.out HN2.out (by omega) (by omega) w4 HS14.out HS24.out)
  go_wp2_with fail
  refine HADD.out.mono ?_
  rintro e w5 ⟨⟨R, rfl, hrow⟩, hb5⟩
  have HB5 := Lib.hid (HB4.out.trans (below_of hb5 HB4.out.size))
  have HS1 := Lib.hid (HS14.out.on hb5)
  have HS2 := Lib.hid (HS24.out.on hb5)
  have HROW := Lib.hid hrow
  have hRlt := Lib.hid hrow.lt
  clear hb5 hrow HADD HS14 HS24 HB4
  have hat1 := slice_at HN1.out HS1.out
  have hat2 := slice_at HN2.out HS2.out
  have HA1 := Lib.hid hat1
  have HA2 := Lib.hid hat2
  clear hat1 hat2 hm1 hm2 q3 g3
  go_wp2_with fail
  go_loopw [7] (fun vi wr => ∃ k : Nat, vi = .int .i64 (k : Int) ∧ k ≤ n ∧ Hid (Below w5.heap.size w5 wr)) (fun vi _ => n - (RowKit.intOf vi).toNat)
  case atStart => exact ⟨0, rfl, Nat.zero_le _, Lib.hid (Below.refl _ _)⟩
  case round =>
    obtain ⟨k, rfl, hk, HBr⟩ := hrel
    by_cases hkn : k < n
    · obtain ⟨b1, o1, he1, hb1, hc1⟩ := HA1.out (by omega)
      subst he1
      have hkz : k < ls.length := by rw [HN1.out]; exact hkn
      have d1 : wr.cell? ⟨b1, o1 + k, none⟩ = some (.string ls[k]) := (HBr.out.cell (p := ⟨b1, o1 + k, none⟩) hb1).trans (hc1 k _ (isStrs_get ls k hkz))
      have d2 : wr.cell? ⟨R, k, none⟩ = some (.string ls[k]) := (HBr.out.cell (p := ⟨R, k, none⟩) hRlt.out).trans (row_left HROW.out hkz)
      generalize ls[k] = x at d1 d2
      have hbd : k < n + m := by omega
      have hbdI : (k : Int) < (n : Int) + (m : Int) := by omega
      clear hc1
      go_wp2_with fail
      go_region
      all_goals
        go_wp2_with fail
        go_roundw
        case rel => exact ⟨k + 1, by go_num, by omega, by first | exact HBr | exact Lib.hid HBr.out.drew⟩
        case measure => simp [RowKit.intOf]; omega
    · obtain ⟨w6, hw6⟩ : ∃ x, x = wr := ⟨_, rfl⟩
      subst hw6
      have HB6 := HBr
      clear HBr
      go_wp2_with fail
      go_loopw [8] (fun vi wr => ∃ k : Nat, vi = .int .i64 (k : Int) ∧ k ≤ m ∧ Hid (Below w5.heap.size w5 wr)) (fun vi _ => m - (RowKit.intOf vi).toNat)
      case atStart => exact ⟨0, rfl, Nat.zero_le _, HB6⟩
      case round =>
        obtain ⟨j, rfl, hj, HBr⟩ := hrel
        by_cases hjm : j < m
        · obtain ⟨b2, o2, he2, hb2, hc2⟩ := HA2.out (by omega)
          subst he2
          have hkz : j < rs.length := by rw [HN2.out]; exact hjm
          have d1 : wr.cell? ⟨b2, o2 + j, none⟩ = some (.string rs[j]) := (HBr.out.cell (p := ⟨b2, o2 + j, none⟩) hb2).trans (hc2 j _ (isStrs_get rs j hkz))
          have d2 : wr.cell? ⟨R, n + j, none⟩ = some (.string rs[j]) := (HBr.out.cell (p := ⟨R, n + j, none⟩) hRlt.out).trans (row_right HN1.out HROW.out hkz)
          generalize rs[j] = x at d1 d2
          have hbd : n + j < n + m := by omega
          have hbdI : (n : Int) + (j : Int) < (n : Int) + (m : Int) := by omega
          have hzI : (0 : Int) ≤ (n : Int) + (j : Int) := by omega
          clear hc2
          go_wp2_with fail
          go_region
          all_goals
            go_wp2_with fail
            go_roundw
            case rel => exact ⟨j + 1, by go_num, by omega, by first | exact HBr | exact Lib.hid HBr.out.drew⟩
            case measure => simp [RowKit.intOf]; omega
        · obtain ⟨w7, hw7⟩ : ∃ x, x = wr := ⟨_, rfl⟩
          subst hw7
          have HB7 := Lib.hid (HB5.out.trans (below_of HBr.out HB5.out.size))
          have HL7 := Lib.hid (HS1.out.on HBr.out)
          have HNL := Lib.hid (zznullL _ ls n HN1.out (by omega) w7 HL7.out)
          have HNR := Lib.hid (fun (wx : World) (hb : Below w7.heap.size w7 wx) => zznullR _ ls n HN1.out (by omega) wx (HL7.out.on hb))
          clear HBr HB6 HB5
          go_wp2_with fail
          refine HNL.out.mono ?_
          rintro e w8 ⟨⟨R8, rfl, hr8⟩, hb8⟩
          have HB8 := Lib.hid hb8
          have HR8 := Lib.hid hr8
          clear hb8 hr8 HNL
          go_wp2_with fail
          refine (HNR.out _ HB8.out).mono ?_
          rintro e w9 ⟨⟨R9, rfl, hr9⟩, hb9⟩
          have hs8 := (HR8.out.on hb9).slice n
          have hs9 := hr9.slice n
          rw [isStrs_len, HN1.out] at hs8 hs9
          have hB9 : Below w7.heap.size w7 w9 := HB8.out.trans (below_of hb9 HB8.out.size)
          have hl9 := HL7.out.on hB9
          have HQ1 := Lib.hid (same_any _ _ ls n HN1.out (by omega) w9 hs8 hl9)
          have HQ2 := Lib.hid (fun (wx : World) (hb : Below w9.heap.size w9 wx) => same_any _ _ ls n HN1.out (by omega) wx (hs9.on hb) (hl9.on hb))
          have HB9 := Lib.hid (HB7.out.trans (below_of hB9 HB7.out.size))
          clear hs8 hs9 hl9 hB9 hb9 hr9 HNR HB8 HR8
          go_wp2_with fail
          refine HQ1.out.mono ?_
          rintro e wa ⟨rfl, hba⟩
          have HBA := Lib.hid hba
          have HB10 := Lib.hid (HB9.out.trans (below_of hba HB9.out.size))
          clear hba HQ1
          go_wp2_with fail
          refine (HQ2.out _ HBA.out).mono ?_
          rintro e wb ⟨rfl, hbb⟩
          have HB11 := Lib.hid (HB10.out.trans (below_of hbb HB10.out.size))
          clear hbb HQ2
          go_wp2_with fail
          go_ret
          exact ⟨rfl, HB11.out⟩
end Go.Proofs.YtffiamchcadloaaGreatDoor
