/-
  The library's decimal read out of a numeral (internal/strconv, (*decimal).set), walked.
-/
import Derived.Test.YtdbbmknjldapbaaGreatDoorRg
import Derived.Test.YtdbbmknjldapbaaGreatDoorDo
import Derived.RegionTactic
import Derived.StillTailTactics
namespace Go.Proofs.YtdbbmknjldapbaaGreatDoor
set_option linter.unusedVariables false
set_option linter.unusedSimpArgs false
open Go.RowKit Go.Lib Go.Sort

set_option maxRecDepth 100000 in
set_option maxHeartbeats 3200000 in
theorem set_pos (s : ByteArray) (D : List UInt8) (h : NumW s 0 D) (hh : ∀ (h : 0 < D.length), D[0].toNat ≠ 48) (b : Nat) (f0 : Nat → UInt8) (n0 d0 : Bool) (w : World) (hD : DcAt w w b f0 0 0 n0 d0) :
    Calls Tryz.prog 79 #[.pointer (some ⟨b, 0, none⟩), .string s] w fun e w' => e = .returned (.bool true) ∧ ∃ f : Nat → UInt8, (∀ (i : Nat) (h : i < D.length), f i = D[i]) ∧ DcAt w w' b f (D.length : Int) (D.length : Int) false false := by
  have hsz := h.size
  have hpos := h.pos
  have hle := h.le
  have q2 : (0 : Int) < (s.size : Int) := by omega
  have hp0 : 0 < s.size := by omega
  have hD0 := h.at_ 0 (by omega) (by omega)
  have hd1 := h.dig 0 (by omega)
  have hd2 := hh (by omega)
  rw [← hD0] at hd1 hd2
  have e45 : (((s[0]'hp0).toNat : Int) == 45) = false := by rw [beq_eq_false_iff_ne]; show ((s[0 + 0]'(by omega)).toNat : Int) ≠ 45; omega
  have e43 : (((s[0]'hp0).toNat : Int) == 43) = false := by rw [beq_eq_false_iff_ne]; show ((s[0 + 0]'(by omega)).toNat : Int) ≠ 43; omega
  have H := Lib.hid h
  have H0 : Hid (∀ h0 : 0 < s.size, (s[0]'h0).toNat ≠ 48) := Lib.hid (fun _ => hd2)
  have HZ := Lib.hid hsz
  have HD := Lib.hid hD
  have c2 := hD.sgn
  have f2 := hD.free 802
  have hD3 := hD
  have hne : ¬ s = ByteArray.empty := by rintro rfl; simp at hp0
  have HN := Lib.hid hne
  clear h hsz hpos hle hh hD0 hd1 hd2 hD
  have c3 := hD3.cut
  have f3 := hD3.free 803
  clear hD3
  have HX := Lib.hid (HD.out.setSgn false)
  go_enter Tryz.func79, Tryz.ntmps79
  go_wp2_with fail
  have hw := ((HD.out.setSgn false).setCut false).here
  have h0 := ((HD.out.setSgn false).setCut false).only
  have HO := Lib.hid h0
  have HD1 := Lib.hid hw
  clear c2 c3 f2 f3 hw h0 HX
  generalize (w.setCell ⟨b, 802, none⟩ (.bool false)).setCell ⟨b, 803, none⟩ (.bool false) = w1 at *
  go_loopw [5, 6, 7] (fun vi vd vg wr => ∃ (k : Nat) (f : Nat → UInt8), vi = .int .i64 (k : Int) ∧ vd = .bool false ∧ vg = .bool (decide (0 < k)) ∧ k ≤ D.length ∧ (∀ (i : Nat) (h : i < D.length), i < k → f i = D[i]) ∧ DcAt w wr b f (k : Int) 0 false false) (fun vi _ _ _ => s.size - (RowKit.intOf vi).toNat)
  case atStart => exact ⟨0, f0, rfl, rfl, rfl, Nat.zero_le _, fun i _ h => absurd h (by omega), HD1.out.from_ HO.out⟩
  case round =>
    obtain ⟨k, f, rfl, rfl, rfl, hk, hf, hR⟩ := hrel
    have HF := Lib.hid hf
    have HR := Lib.hid hR
    by_cases hkd : k < D.length
    · obtain ⟨e1, e2, e3⟩ := H.out.at_k k hkd
      have hks : k + 0 < s.size := by have := HZ.out; omega
      have e6 : (s[k]).toNat = D[k].toNat := congrArg UInt8.toNat e1
      have ez : k = 0 → (s[k]).toNat ≠ 48 := fun hk0 => by subst hk0; have := H0.out; exact this _
      obtain ⟨c, hc⟩ : ∃ c, s[k] = c := ⟨_, rfl⟩
      have e7 : D[k] = c := by rw [← hc]; exact e1.symm
      have E7 := Lib.hid e7
      have g3 : ((k : Nat) : Int) < (s.size : Int) := by omega
      rw [← e6, hc] at e2 e3
      rw [hc] at ez
      have c0 := hR.cnt
      have c1 := hR.dig k (by have := H.out.le; omega)
      have f0 := hR.free 800
      have f1 := hR.free k
      have gl : (k : Int) < 800 := by have := H.out.le; omega
      have g1 : (48 : Int) ≤ (c.toNat : Int) := by omega
      have g2 : (c.toNat : Int) ≤ 57 := by omega
      have g4 : ((c.toNat : Int) == 95) = false := by rw [beq_eq_false_iff_ne]; omega
      have g5 : ((c.toNat : Int) == 46) = false := by rw [beq_eq_false_iff_ne]; omega
      have hcase : (((c.toNat : Int) == 48) = true ∧ ((k : Int) == 0) = false) ∨ ((c.toNat : Int) == 48) = false := by
        by_cases hc48 : c.toNat = 48
        · refine Or.inl ⟨by rw [beq_iff_eq]; omega, ?_⟩
          rw [beq_eq_false_iff_ne]
          intro hk0
          exact ez (by omega) hc48
        · exact Or.inr (by rw [beq_eq_false_iff_ne]; omega)
      have hbt := bool_true
      have hx1 := (hR.setDig k (by have := H.out.le; omega) c)
      clear hf hR e1 e6 e7 ez e2 e3
      rcases hcase with ⟨hc1, hc2⟩ | hc1
      · skip
        go_wp2_with fail
        go_region
        have hy := hx1.drew
        have k0 := hy.cnt
        have k1 := hy.free 800
        have hz := hy.setCnt ((k : Int) + 1)
        have HY := Lib.hid hz
        clear hx1 hy hz c0 c1 f0 f1 hc1 hbt e43 e45
        generalize (wr.setCell ⟨b, k, none⟩ (.int .u8 (c.toNat : Int))).drew = w2 at *
        go_wp2_with fail
        go_roundw
        case rel => exact ⟨k + 1, _, by go_num, rfl, by simp, by omega, fun i hi hik => by
          by_cases hik2 : i = k
          · subst hik2; rw [if_pos rfl]; exact E7.out.symm
          · rw [if_neg hik2]; exact HF.out i hi (by omega), HY.out⟩
        case measure => simp [RowKit.intOf]; omega
      · skip
        go_wp2_with fail
        go_region
        have hy := hx1.drew
        have k0 := hy.cnt
        have k1 := hy.free 800
        have hz := hy.setCnt ((k : Int) + 1)
        have HY := Lib.hid hz
        clear hx1 hy hz c0 c1 f0 f1 hc1 hbt e43 e45
        generalize (wr.setCell ⟨b, k, none⟩ (.int .u8 (c.toNat : Int))).drew = w2 at *
        go_wp2_with fail
        go_roundw
        case rel => exact ⟨k + 1, _, by go_num, rfl, by simp, by omega, fun i hi hik => by
          by_cases hik2 : i = k
          · subst hik2; rw [if_pos rfl]; exact E7.out.symm
          · rw [if_neg hik2]; exact HF.out i hi (by omega), HY.out⟩
        case measure => simp [RowKit.intOf]; omega
    · obtain rfl : k = D.length := by omega
      have g3 : ¬ ((D.length : Nat) : Int) < (s.size : Int) := by have := HZ.out; omega
      have g4 : decide (0 < D.length) = true := decide_eq_true (by have := H.out.pos; omega)
      have c0 := hR.cnt
      have c1 := hR.pt
      have f0 := hR.free 801
      have g5 : (s.size : Int) = (D.length : Int) := by have := HZ.out; omega
      clear hf hR
      go_wp2_with fail
      exact bodyPost_ret (v := .bool true) (by simp [results, Tryz.results79, go_sem]; try rfl) rfl ⟨rfl, f, fun i h => HF.out i h h, HR.out.setPt _⟩
set_option maxRecDepth 100000 in
set_option maxHeartbeats 3200000 in
theorem set_neg (s : ByteArray) (D : List UInt8) (h : NumW s 1 D) (h45 : ∀ (h : 0 < s.size), s[0].toNat = 45) (hh : ∀ (h : 0 < D.length), D[0].toNat ≠ 48) (b : Nat) (f0 : Nat → UInt8) (n0 d0 : Bool) (w : World) (hD : DcAt w w b f0 0 0 n0 d0) :
    Calls Tryz.prog 79 #[.pointer (some ⟨b, 0, none⟩), .string s] w fun e w' => e = .returned (.bool true) ∧ ∃ f : Nat → UInt8, (∀ (i : Nat) (h : i < D.length), f i = D[i]) ∧ DcAt w w' b f (D.length : Int) (D.length : Int) true false := by
  have hsz := h.size
  have hpos := h.pos
  have hle := h.le
  have q2 : (0 : Int) < (s.size : Int) := by omega
  have hp0 : 0 < s.size := by omega
  have hD0 := h.at_ 0 (by omega) (by omega)
  have hd1 := h.dig 0 (by omega)
  have hd2 := hh (by omega)
  rw [← hD0] at hd1 hd2
  have hp1 : 1 < s.size := by omega
  have q45 := h45 hp0
  have e45 : (((s[0]'hp0).toNat : Int) == 45) = true := by rw [beq_iff_eq]; omega
  have e43 : (((s[0]'hp0).toNat : Int) == 43) = false := by rw [beq_eq_false_iff_ne]; omega
  clear q45 h45
  have H := Lib.hid h
  have H0 : Hid (∀ h0 : 1 < s.size, (s[1]'h0).toNat ≠ 48) := Lib.hid (fun _ => hd2)
  have HZ := Lib.hid hsz
  have HD := Lib.hid hD
  have c2 := hD.sgn
  have f2 := hD.free 802
  have hD3 := hD
  have hne : ¬ s = ByteArray.empty := by rintro rfl; simp at hp0
  have HN := Lib.hid hne
  clear h hsz hpos hle hh hD0 hd1 hd2 hD
  have q1s : (1 : Int) < (s.size : Int) := by omega
  have c3 := hD3.cut
  have f3 := hD3.free 803
  clear hD3
  have HX := Lib.hid (HD.out.setSgn false)
  go_enter Tryz.func79, Tryz.ntmps79
  go_wp2_with fail
  have hw := (((HD.out.setSgn false).setCut false).setSgn true).here
  have h0 := (((HD.out.setSgn false).setCut false).setSgn true).only
  have HO := Lib.hid h0
  have HD1 := Lib.hid hw
  clear c2 c3 f2 f3 hw h0 HX
  generalize ((w.setCell ⟨b, 802, none⟩ (.bool false)).setCell ⟨b, 803, none⟩ (.bool false)).setCell ⟨b, 802, none⟩ (.bool true) = w1 at *
  go_loopw [5, 6, 7] (fun vi vd vg wr => ∃ (k : Nat) (f : Nat → UInt8), vi = .int .i64 ((k : Int) + 1) ∧ vd = .bool false ∧ vg = .bool (decide (0 < k)) ∧ k ≤ D.length ∧ (∀ (i : Nat) (h : i < D.length), i < k → f i = D[i]) ∧ DcAt w wr b f (k : Int) 0 true false) (fun vi _ _ _ => s.size - (RowKit.intOf vi).toNat)
  case atStart => exact ⟨0, f0, rfl, rfl, rfl, Nat.zero_le _, fun i _ h => absurd h (by omega), HD1.out.from_ HO.out⟩
  case round =>
    obtain ⟨k, f, rfl, rfl, rfl, hk, hf, hR⟩ := hrel
    have HF := Lib.hid hf
    have HR := Lib.hid hR
    by_cases hkd : k < D.length
    · obtain ⟨e1, e2, e3⟩ := H.out.at_k k hkd
      have hks : k + 1 < s.size := by have := HZ.out; omega
      have e6 : (s[k + 1]).toNat = D[k].toNat := congrArg UInt8.toNat e1
      have ez : k = 0 → (s[k + 1]).toNat ≠ 48 := fun hk0 => by subst hk0; have := H0.out; exact this _
      obtain ⟨c, hc⟩ : ∃ c, s[k + 1] = c := ⟨_, rfl⟩
      have e7 : D[k] = c := by rw [← hc]; exact e1.symm
      have E7 := Lib.hid e7
      have g3 : ((k : Nat) : Int) + 1 < (s.size : Int) := by omega
      rw [← e6, hc] at e2 e3
      rw [hc] at ez
      have c0 := hR.cnt
      have c1 := hR.dig k (by have := H.out.le; omega)
      have f0 := hR.free 800
      have f1 := hR.free k
      have gl : (k : Int) < 800 := by have := H.out.le; omega
      have g1 : (48 : Int) ≤ (c.toNat : Int) := by omega
      have g2 : (c.toNat : Int) ≤ 57 := by omega
      have g4 : ((c.toNat : Int) == 95) = false := by rw [beq_eq_false_iff_ne]; omega
      have g5 : ((c.toNat : Int) == 46) = false := by rw [beq_eq_false_iff_ne]; omega
      have hcase : (((c.toNat : Int) == 48) = true ∧ ((k : Int) == 0) = false) ∨ ((c.toNat : Int) == 48) = false := by
        by_cases hc48 : c.toNat = 48
        · refine Or.inl ⟨by rw [beq_iff_eq]; omega, ?_⟩
          rw [beq_eq_false_iff_ne]
          intro hk0
          exact ez (by omega) hc48
        · exact Or.inr (by rw [beq_eq_false_iff_ne]; omega)
      have hbt := bool_true
      have hx1 := (hR.setDig k (by have := H.out.le; omega) c)
      clear hf hR e1 e6 e7 ez e2 e3
      rcases hcase with ⟨hc1, hc2⟩ | hc1
      · skip
        go_wp2_with fail
        go_region
        have hy := hx1.drew
        have k0 := hy.cnt
        have k1 := hy.free 800
        have hz := hy.setCnt ((k : Int) + 1)
        have HY := Lib.hid hz
        clear hx1 hy hz c0 c1 f0 f1 hc1 hbt e43 e45
        generalize (wr.setCell ⟨b, k, none⟩ (.int .u8 (c.toNat : Int))).drew = w2 at *
        go_wp2_with fail
        go_roundw
        case rel => exact ⟨k + 1, _, by go_num, rfl, by simp, by omega, fun i hi hik => by
          by_cases hik2 : i = k
          · subst hik2; rw [if_pos rfl]; exact E7.out.symm
          · rw [if_neg hik2]; exact HF.out i hi (by omega), HY.out⟩
        case measure => simp [RowKit.intOf]; omega
      · skip
        go_wp2_with fail
        go_region
        have hy := hx1.drew
        have k0 := hy.cnt
        have k1 := hy.free 800
        have hz := hy.setCnt ((k : Int) + 1)
        have HY := Lib.hid hz
        clear hx1 hy hz c0 c1 f0 f1 hc1 hbt e43 e45
        generalize (wr.setCell ⟨b, k, none⟩ (.int .u8 (c.toNat : Int))).drew = w2 at *
        go_wp2_with fail
        go_roundw
        case rel => exact ⟨k + 1, _, by go_num, rfl, by simp, by omega, fun i hi hik => by
          by_cases hik2 : i = k
          · subst hik2; rw [if_pos rfl]; exact E7.out.symm
          · rw [if_neg hik2]; exact HF.out i hi (by omega), HY.out⟩
        case measure => simp [RowKit.intOf]; omega
    · obtain rfl : k = D.length := by omega
      have g3 : ¬ ((D.length : Nat) : Int) + 1 < (s.size : Int) := by have := HZ.out; omega
      have g4 : decide (0 < D.length) = true := decide_eq_true (by have := H.out.pos; omega)
      have c0 := hR.cnt
      have c1 := hR.pt
      have f0 := hR.free 801
      have g5 : (s.size : Int) = ((D.length : Int) + 1) := by have := HZ.out; omega
      clear hf hR
      go_wp2_with fail
      exact bodyPost_ret (v := .bool true) (by simp [results, Tryz.results79, go_sem]; try rfl) rfl ⟨rfl, f, fun i h => HF.out i h h, HR.out.setPt _⟩
end Go.Proofs.YtdbbmknjldapbaaGreatDoor
