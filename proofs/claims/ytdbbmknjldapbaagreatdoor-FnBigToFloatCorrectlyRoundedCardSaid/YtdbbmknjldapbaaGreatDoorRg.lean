/-
  The library's reader of a float's text (internal/strconv), walked over a decimal numeral of up to 39 digits: 19 of them are kept.
-/
import Derived.Test.YtdbbmknjldapbaaGreatDoorReadF
import Derived.WalkSpells
import Derived.Handy
import Derived.Lib.Hide
import Derived.Lib.ItoaMem
import Derived.WalkMore
namespace Go.Proofs.YtdbbmknjldapbaaGreatDoor
set_option linter.unusedVariables false
set_option linter.unusedSimpArgs false
open Go.RowKit Go.Lib Go.Sort

/-- What the reader meets: digits D behind i0 other bytes. -/
structure NumW (s : ByteArray) (i0 : Nat) (D : List UInt8) : Prop where
  size : s.size = D.length + i0
  pos : 19 ≤ D.length
  le : D.length ≤ 39
  at_ : ∀ (k : Nat) (h : k < D.length) (h' : k + i0 < s.size), s[k + i0] = D[k]
  dig : ∀ (k : Nat) (h : k < D.length), 48 ≤ D[k].toNat ∧ D[k].toNat ≤ 57
theorem NumW.at_k {s : ByteArray} {i0 : Nat} {D : List UInt8} (h : NumW s i0 D) (k : Nat) (hk : k < D.length) : s[k + i0]'(by rw [h.size]; omega) = D[k] ∧ 48 ≤ D[k].toNat ∧ D[k].toNat ≤ 57 :=
  ⟨h.at_ k hk _, h.dig k hk⟩
/-- Is a digit behind the nineteenth not zero? -/
def trD (D : List UInt8) (k : Nat) : Bool := ((D.take k).drop 19).any (fun c => c != 48)
theorem trD_small (D : List UInt8) (k : Nat) (hk : k ≤ 19) : trD D k = false := by
  unfold trD
  rw [List.drop_eq_nil_of_le (by rw [List.length_take]; omega)]
  rfl
theorem trD_step (D : List UInt8) (k : Nat) (hk : k < D.length) (h : 19 ≤ k) : trD D (k + 1) = (trD D k || D[k] != 48) := by
  unfold trD
  rw [List.take_succ_eq_append_getElem hk, List.drop_append_of_le_length (by rw [List.length_take]; omega), List.any_append]
  simp
theorem trD_all (D : List UInt8) : trD D D.length = (D.drop 19).any (fun c => c != 48) := by
  unfold trD
  rw [List.take_length]
set_option maxRecDepth 100000 in
set_option maxHeartbeats 3200000 in
theorem readw_pos (s : ByteArray) (D : List UInt8) (h : NumW s 0 D) (hh : ∀ (h : 0 < D.length), D[0].toNat ≠ 48) (w : World) :
    Calls Tryz.prog 73 #[.string s] w fun e w' => e = .returned (.tuple #[.int .u64 (valD (D.take 19) : Int), .int .i64 ((D.length : Int) - 19), .bool false, .bool (trD D D.length), .bool false, .int .i64 (s.size : Int), .bool true]) ∧ Below w.heap.size w w' := by
  have hsz := h.size
  have hpos := h.pos
  have hle := h.le
  have q2 : (0 : Int) < (s.size : Int) := by omega
  have hp0 : 0 < s.size := by omega
  have hD0 := h.at_ 0 (by omega) (by omega)
  have hd1 := h.dig 0 (by omega)
  have hd2 := hh (by omega)
  rw [← hD0] at hd1 hd2
  have e45 : (((s[0]'hp0).toNat : Int) == 45) = false := by rw [beq_eq_false_iff_ne]; show ((s[0 + 0]'(by omega)).toNat : Int) ≠ 45; omega
  have e43 : (((s[0]'hp0).toNat : Int) == 43) = false := by rw [beq_eq_false_iff_ne]; show ((s[0 + 0]'(by omega)).toNat : Int) ≠ 43; omega
  have e48 : (((s[0]'hp0).toNat : Int) == 48) = false := by rw [beq_eq_false_iff_ne]; show ((s[0 + 0]'(by omega)).toNat : Int) ≠ 48; omega
  have H := Lib.hid h
  have H0 : Hid (∀ h0 : 0 < s.size, (s[0]'h0).toNat ≠ 48) := Lib.hid (fun _ => hd2)
  have HZ := Lib.hid hsz
  have HP : Hid (1 ≤ valD (D.take 19)) := Lib.hid (by
    have a1 : valD (D.take 1) = valD (D.take 0) * 10 + ((D[0]).toNat - 48) := valD_step D 0 (by omega)
    have a2 := valD_take (D.take 19) 1
    rw [List.take_take, show min 1 19 = 1 from rfl] at a2
    have a3 : (s[0]'hp0).toNat = D[0].toNat := congrArg UInt8.toNat hD0
    have a4 : 48 ≤ (s[0]'hp0).toNat := hd1.1
    have a5 : (s[0]'hp0).toNat ≠ 48 := hd2
    have a6 : (s[0 + 0]'(by omega)).toNat = (s[0]'hp0).toNat := rfl
    rw [← a3, a6] at a1
    generalize (s[0]'hp0).toNat = c at *
    omega)
  clear h hsz hpos hle hh hD0 hd1 hd2
  have hne : ¬ s = ByteArray.empty := by rintro rfl; simp at hp0
  have hq : (2 : Int) < (s.size : Int) := by have := HZ.out; have := H.out.pos; omega
  · skip
    go_enter Tryz.func73, Tryz.ntmps73
    go_wp2_with fail
    go_step3
    go_wp2_with fail
    go_step3
    go_wp2_with fail
    go_loopw [2, 5, 7, 9, 13, 14, 15, 16, 17] (fun vm vt vi vu vd vg vn vq vp wr => ∃ k : Nat, vm = .int .u64 (valD (D.take (min k 19)) : Int) ∧ vt = .bool (trD D k) ∧ vi = .int .i64 (k : Int) ∧ vu = .bool false ∧ vd = .bool false ∧ vg = .bool (decide (0 < k)) ∧ vn = .int .i64 (k : Int) ∧ vq = .int .i64 ((min k 19 : Nat) : Int) ∧ vp = .int .i64 0 ∧ k ≤ D.length ∧ w = wr) (fun _ _ vi _ _ _ _ _ _ _ => s.size - (RowKit.intOf vi).toNat)
    case atStart => exact ⟨0, rfl, by rw [trD_small D 0 (by omega)], rfl, rfl, rfl, rfl, rfl, rfl, rfl, Nat.zero_le _, rfl⟩
    case round =>
      obtain ⟨k, rfl, rfl, rfl, rfl, rfl, rfl, rfl, rfl, rfl, hk, rfl⟩ := hrel
      by_cases hkd : k < D.length
      · obtain ⟨e1, e2, e3⟩ := H.out.at_k k hkd
        have hks : k + 0 < s.size := by have := HZ.out; omega
        have e6 : (s[k]).toNat = D[k].toNat := congrArg UInt8.toNat e1
        have ez : k = 0 → (s[k]).toNat ≠ 48 := fun hk0 => by subst hk0; have := H0.out; exact this _
        obtain ⟨c, hc⟩ : ∃ c, s[k] = c := ⟨_, rfl⟩
        have e7 : D[k] = c := by rw [← hc]; exact e1.symm
        have g3 : ((k : Nat) : Int) < (s.size : Int) := by omega
        have hbt := bool_true
        by_cases hk19 : k < 19
        · have e4 := valD_step D k hkd
          have e5 := valD_lt D (k + 1) (by omega) (fun j hj => (H.out.dig j hj).2)
          rw [trD_small D k (by omega), show min k 19 = k by omega]
          obtain ⟨v, hv0⟩ : ∃ v, valD (D.take k) = v := ⟨_, rfl⟩
          obtain ⟨v', hv1⟩ : ∃ v', valD (D.take (k + 1)) = v' := ⟨_, rfl⟩
          rw [hv0, hv1] at e4
          rw [hv1] at e5
          rw [hv0]
          rw [← e6, hc] at e2 e3 e4
          rw [hc] at ez
          have g1 : (48 : Int) ≤ (c.toNat : Int) := by omega
          have g2 : (c.toNat : Int) ≤ 57 := by omega
          have g4 : ((c.toNat : Int) == 95) = false := by rw [beq_eq_false_iff_ne]; omega
          have g5 : ((c.toNat : Int) == 46) = false := by rw [beq_eq_false_iff_ne]; omega
          have g6 : ((k : Nat) : Int) < 19 := by omega
          clear e1 e6 hv0 e7
          have g7 : (v' : Int) = (v : Int) * 10 + ((c.toNat : Int) - 48) := by omega
          have g8 : (v' : Int) < 10000000000000000000 := by omega
          have hcase : (((c.toNat : Int) == 48) = true ∧ ((k : Int) == 0) = false) ∨ ((c.toNat : Int) == 48) = false := by
            by_cases hc48 : c.toNat = 48
            · refine Or.inl ⟨by rw [beq_iff_eq]; omega, ?_⟩
              rw [beq_eq_false_iff_ne]
              intro hk0
              exact ez (by omega) hc48
            · exact Or.inr (by rw [beq_eq_false_iff_ne]; omega)
          have HV1 := Lib.hid hv1
          have HK := Lib.hid hk19
          clear e2 e3 e4 e5 ez hv1 hk19
          rcases hcase with ⟨hc1, hc2⟩ | hc1
          all_goals
            go_wp2_with fail
            have hk19 := HK.out
            exact ⟨⟨k + 1, by rw [show min (k + 1) 19 = k + 1 by omega, HV1.out]; exact congrArg (Value.int .u64) g7.symm, by rw [trD_small D (k + 1) (by omega)], by go_num, rfl, rfl, by simp, by go_num, by rw [show min (k + 1) 19 = k + 1 by omega]; go_num, rfl, by omega, trivial⟩, by simp [RowKit.intOf]; omega⟩
        · have hst := trD_step D k hkd (by omega)
          rw [e7] at hst
          rw [show min k 19 = 19 by omega]
          obtain ⟨v, hv0⟩ : ∃ v, valD (D.take 19) = v := ⟨_, rfl⟩
          rw [hv0]
          obtain ⟨tt, htt⟩ : ∃ tt, trD D k = tt := ⟨_, rfl⟩
          rw [htt] at hst ⊢
          rw [← e6, hc] at e2 e3
          have g1 : (48 : Int) ≤ (c.toNat : Int) := by omega
          have g2 : (c.toNat : Int) ≤ 57 := by omega
          have g4 : ((c.toNat : Int) == 95) = false := by rw [beq_eq_false_iff_ne]; omega
          have g5 : ((c.toNat : Int) == 46) = false := by rw [beq_eq_false_iff_ne]; omega
          have g6 : ((k : Int) == 0) = false := by rw [beq_eq_false_iff_ne]; omega
          have g7 : (k : Int) < 100 := by have := H.out.le; omega
          clear e1 e6 ez e7
          have HV0 := Lib.hid hv0
          have HK := Lib.hid hk19
          clear hv0 e2 e3 hk19 htt
          by_cases hc48 : c.toNat = 48
          · obtain rfl : c = 48 := UInt8.toNat_inj.1 hc48
            rw [show ((48 : UInt8) != 48) = false by decide, Bool.or_false] at hst
            have hc1 : (((48 : UInt8).toNat : Int) == 48) = true := by decide
            have hc2 : (((48 : UInt8).toNat : Int) != 48) = false := by decide
            have HS := Lib.hid hst
            clear hst hc48
            go_wp2_with fail
            have hk19 := HK.out
            exact ⟨⟨k + 1, by rw [show min (k + 1) 19 = 19 by omega, HV0.out], by rw [HS.out], by go_num, rfl, rfl, by simp, by go_num, by rw [show min (k + 1) 19 = 19 by omega], rfl, by omega, trivial⟩, by simp [RowKit.intOf]; omega⟩
          · rw [show (c != 48) = true by rw [bne_iff_ne]; rintro rfl; exact hc48 rfl, Bool.or_true] at hst
            have hc1 : ((c.toNat : Int) == 48) = false := by rw [beq_eq_false_iff_ne]; omega
            have hc2 : ((c.toNat : Int) != 48) = true := by rw [bne_iff_ne]; omega
            have HS := Lib.hid hst
            clear hst hc48
            go_wp2_with fail
            have hk19 := HK.out
            exact ⟨⟨k + 1, by rw [show min (k + 1) 19 = 19 by omega, HV0.out], by rw [HS.out], by go_num, rfl, rfl, by simp, by go_num, by rw [show min (k + 1) 19 = 19 by omega], rfl, by omega, trivial⟩, by simp [RowKit.intOf]; omega⟩
      · obtain rfl : k = D.length := by omega
        have hks : s.size = D.length := by have := HZ.out; omega
        have hm : D.take (min D.length 19) = D.take 19 := by
          by_cases hl : D.length ≤ 19
          · rw [show min D.length 19 = D.length by omega, List.take_length, List.take_of_length_le hl]
          · rw [show min D.length 19 = 19 by omega]
        rw [hm]
        clear hm
        have hv1 := HP.out
        obtain ⟨v, hv0⟩ : ∃ v, valD (D.take 19) = v := ⟨_, rfl⟩
        rw [hv0] at hv1 ⊢
        rw [show min D.length 19 = 19 by have := H.out.pos; omega]
        generalize htt : trD D D.length = tt
        have HTT := Lib.hid htt
        clear htt
        have gl : (D.length : Int) ≤ 39 := by have := H.out.le; omega
        have g0 : ((v : Int) == 0) = false := by rw [beq_eq_false_iff_ne]; omega
        have g3 : ¬ ((D.length : Nat) : Int) < (s.size : Int) := by omega
        have g4 : decide (0 < D.length) = true := decide_eq_true (by have := H.out.pos; omega)
        have g5 : (s.size : Int) = (D.length : Int) := by omega
        have HV0 := Lib.hid hv0
        have HG5 := Lib.hid g5
        have g6 : ((v : Int) != 0) = true := by rw [bne_iff_ne]; omega
        clear hv0 hks
        go_wp2_with fail
        exact bodyPost_ret (v := .tuple #[.int .u64 (v : Int), .int .i64 ((D.length : Int) - 19), .bool false, .bool tt, .bool false, .int .i64 (D.length : Int), .bool true]) (by simp [results, Tryz.results73, go_sem]; try rfl) rfl ⟨by rw [HV0.out, HG5.out, HTT.out], Below.refl _ _⟩
set_option maxRecDepth 100000 in
set_option maxHeartbeats 3200000 in
theorem readw_neg (s : ByteArray) (D : List UInt8) (h : NumW s 1 D) (h45 : ∀ (h : 0 < s.size), s[0].toNat = 45) (hh : ∀ (h : 0 < D.length), D[0].toNat ≠ 48) (w : World) :
    Calls Tryz.prog 73 #[.string s] w fun e w' => e = .returned (.tuple #[.int .u64 (valD (D.take 19) : Int), .int .i64 ((D.length : Int) - 19), .bool true, .bool (trD D D.length), .bool false, .int .i64 (s.size : Int), .bool true]) ∧ Below w.heap.size w w' := by
  have hsz := h.size
  have hpos := h.pos
  have hle := h.le
  have q2 : (0 : Int) < (s.size : Int) := by omega
  have hp0 : 0 < s.size := by omega
  have hD0 := h.at_ 0 (by omega) (by omega)
  have hd1 := h.dig 0 (by omega)
  have hd2 := hh (by omega)
  rw [← hD0] at hd1 hd2
  have hp1 : 1 < s.size := by omega
  have q45 := h45 hp0
  have e45 : (((s[0]'hp0).toNat : Int) == 45) = true := by rw [beq_iff_eq]; omega
  have e43 : (((s[0]'hp0).toNat : Int) == 43) = false := by rw [beq_eq_false_iff_ne]; omega
  have e48 : (((s[1]'hp1).toNat : Int) == 48) = false := by rw [beq_eq_false_iff_ne]; show ((s[0 + 1]'(by omega)).toNat : Int) ≠ 48; omega
  clear q45 h45
  have H := Lib.hid h
  have H0 : Hid (∀ h0 : 1 < s.size, (s[1]'h0).toNat ≠ 48) := Lib.hid (fun _ => hd2)
  have HZ := Lib.hid hsz
  have HP : Hid (1 ≤ valD (D.take 19)) := Lib.hid (by
    have a1 : valD (D.take 1) = valD (D.take 0) * 10 + ((D[0]).toNat - 48) := valD_step D 0 (by omega)
    have a2 := valD_take (D.take 19) 1
    rw [List.take_take, show min 1 19 = 1 from rfl] at a2
    have a3 : (s[1]'hp1).toNat = D[0].toNat := congrArg UInt8.toNat hD0
    have a4 : 48 ≤ (s[1]'hp1).toNat := hd1.1
    have a5 : (s[1]'hp1).toNat ≠ 48 := hd2
    have a6 : (s[0 + 1]'(by omega)).toNat = (s[1]'hp1).toNat := rfl
    rw [← a3, a6] at a1
    generalize (s[1]'hp1).toNat = c at *
    omega)
  clear h hsz hpos hle hh hD0 hd1 hd2
  have hne : ¬ s = ByteArray.empty := by rintro rfl; simp at hp0
  have q1s : (1 : Int) < (s.size : Int) := by omega
  have hq : (3 : Int) < (s.size : Int) := by have := HZ.out; have := H.out.pos; omega
  · skip
    go_enter Tryz.func73, Tryz.ntmps73
    go_wp2_with fail
    go_step3
    go_wp2_with fail
    go_step3
    go_wp2_with fail
    go_loopw [2, 5, 7, 9, 13, 14, 15, 16, 17] (fun vm vt vi vu vd vg vn vq vp wr => ∃ k : Nat, vm = .int .u64 (valD (D.take (min k 19)) : Int) ∧ vt = .bool (trD D k) ∧ vi = .int .i64 ((k : Int) + 1) ∧ vu = .bool false ∧ vd = .bool false ∧ vg = .bool (decide (0 < k)) ∧ vn = .int .i64 (k : Int) ∧ vq = .int .i64 ((min k 19 : Nat) : Int) ∧ vp = .int .i64 0 ∧ k ≤ D.length ∧ w = wr) (fun _ _ vi _ _ _ _ _ _ _ => s.size - (RowKit.intOf vi).toNat)
    case atStart => exact ⟨0, rfl, by rw [trD_small D 0 (by omega)], rfl, rfl, rfl, rfl, rfl, rfl, rfl, Nat.zero_le _, rfl⟩
    case round =>
      obtain ⟨k, rfl, rfl, rfl, rfl, rfl, rfl, rfl, rfl, rfl, hk, rfl⟩ := hrel
      by_cases hkd : k < D.length
      · obtain ⟨e1, e2, e3⟩ := H.out.at_k k hkd
        have hks : k + 1 < s.size := by have := HZ.out; omega
        have e6 : (s[k + 1]).toNat = D[k].toNat := congrArg UInt8.toNat e1
        have ez : k = 0 → (s[k + 1]).toNat ≠ 48 := fun hk0 => by subst hk0; have := H0.out; exact this _
        obtain ⟨c, hc⟩ : ∃ c, s[k + 1] = c := ⟨_, rfl⟩
        have e7 : D[k] = c := by rw [← hc]; exact e1.symm
        have g3 : ((k : Nat) : Int) + 1 < (s.size : Int) := by omega
        have hbt := bool_true
        by_cases hk19 : k < 19
        · have e4 := valD_step D k hkd
          have e5 := valD_lt D (k + 1) (by omega) (fun j hj => (H.out.dig j hj).2)
          rw [trD_small D k (by omega), show min k 19 = k by omega]
          obtain ⟨v, hv0⟩ : ∃ v, valD (D.take k) = v := ⟨_, rfl⟩
          obtain ⟨v', hv1⟩ : ∃ v', valD (D.take (k + 1)) = v' := ⟨_, rfl⟩
          rw [hv0, hv1] at e4
          rw [hv1] at e5
          rw [hv0]
          rw [← e6, hc] at e2 e3 e4
          rw [hc] at ez
          have g1 : (48 : Int) ≤ (c.toNat : Int) := by omega
          have g2 : (c.toNat : Int) ≤ 57 := by omega
          have g4 : ((c.toNat : Int) == 95) = false := by rw [beq_eq_false_iff_ne]; omega
          have g5 : ((c.toNat : Int) == 46) = false := by rw [beq_eq_false_iff_ne]; omega
          have g6 : ((k : Nat) : Int) < 19 := by omega
          clear e1 e6 hv0 e7
          have g7 : (v' : Int) = (v : Int) * 10 + ((c.toNat : Int) - 48) := by omega
          have g8 : (v' : Int) < 10000000000000000000 := by omega
          have hcase : (((c.toNat : Int) == 48) = true ∧ ((k : Int) == 0) = false) ∨ ((c.toNat : Int) == 48) = false := by
            by_cases hc48 : c.toNat = 48
            · refine Or.inl ⟨by rw [beq_iff_eq]; omega, ?_⟩
              rw [beq_eq_false_iff_ne]
              intro hk0
              exact ez (by omega) hc48
            · exact Or.inr (by rw [beq_eq_false_iff_ne]; omega)
          have HV1 := Lib.hid hv1
          have HK := Lib.hid hk19
          clear e2 e3 e4 e5 ez hv1 hk19
          rcases hcase with ⟨hc1, hc2⟩ | hc1
          all_goals
            go_wp2_with fail
            have hk19 := HK.out
            exact ⟨⟨k + 1, by rw [show min (k + 1) 19 = k + 1 by omega, HV1.out]; exact congrArg (Value.int .u64) g7.symm, by rw [trD_small D (k + 1) (by omega)], by go_num, rfl, rfl, by simp, by go_num, by rw [show min (k + 1) 19 = k + 1 by omega]; go_num, rfl, by omega, trivial⟩, by simp [RowKit.intOf]; omega⟩
        · have hst := trD_step D k hkd (by omega)
          rw [e7] at hst
          rw [show min k 19 = 19 by omega]
          obtain ⟨v, hv0⟩ : ∃ v, valD (D.take 19) = v := ⟨_, rfl⟩
          rw [hv0]
          obtain ⟨tt, htt⟩ : ∃ tt, trD D k = tt := ⟨_, rfl⟩
          rw [htt] at hst ⊢
          rw [← e6, hc] at e2 e3
          have g1 : (48 : Int) ≤ (c.toNat : Int) := by omega
          have g2 : (c.toNat : Int) ≤ 57 := by omega
          have g4 : ((c.toNat : Int) == 95) = false := by rw [beq_eq_false_iff_ne]; omega
          have g5 : ((c.toNat : Int) == 46) = false := by rw [beq_eq_false_iff_ne]; omega
          have g6 : ((k : Int) == 0) = false := by rw [beq_eq_false_iff_ne]; omega
          have g7 : (k : Int) < 100 := by have := H.out.le; omega
          clear e1 e6 ez e7
          have HV0 := Lib.hid hv0
          have HK := Lib.hid hk19
          clear hv0 e2 e3 hk19 htt
          by_cases hc48 : c.toNat = 48
          · obtain rfl : c = 48 := UInt8.toNat_inj.1 hc48
            rw [show ((48 : UInt8) != 48) = false by decide, Bool.or_false] at hst
            have hc1 : (((48 : UInt8).toNat : Int) == 48) = true := by decide
            have hc2 : (((48 : UInt8).toNat : Int) != 48) = false := by decide
            have HS := Lib.hid hst
            clear hst hc48
            go_wp2_with fail
            have hk19 := HK.out
            exact ⟨⟨k + 1, by rw [show min (k + 1) 19 = 19 by omega, HV0.out], by rw [HS.out], by go_num, rfl, rfl, by simp, by go_num, by rw [show min (k + 1) 19 = 19 by omega], rfl, by omega, trivial⟩, by simp [RowKit.intOf]; omega⟩
          · rw [show (c != 48) = true by rw [bne_iff_ne]; rintro rfl; exact hc48 rfl, Bool.or_true] at hst
            have hc1 : ((c.toNat : Int) == 48) = false := by rw [beq_eq_false_iff_ne]; omega
            have hc2 : ((c.toNat : Int) != 48) = true := by rw [bne_iff_ne]; omega
            have HS := Lib.hid hst
            clear hst hc48
            go_wp2_with fail
            have hk19 := HK.out
            exact ⟨⟨k + 1, by rw [show min (k + 1) 19 = 19 by omega, HV0.out], by rw [HS.out], by go_num, rfl, rfl, by simp, by go_num, by rw [show min (k + 1) 19 = 19 by omega], rfl, by omega, trivial⟩, by simp [RowKit.intOf]; omega⟩
      · obtain rfl : k = D.length := by omega
        have hks : s.size = D.length + 1 := by have := HZ.out; omega
        have hm : D.take (min D.length 19) = D.take 19 := by
          by_cases hl : D.length ≤ 19
          · rw [show min D.length 19 = D.length by omega, List.take_length, List.take_of_length_le hl]
          · rw [show min D.length 19 = 19 by omega]
        rw [hm]
        clear hm
        have hv1 := HP.out
        obtain ⟨v, hv0⟩ : ∃ v, valD (D.take 19) = v := ⟨_, rfl⟩
        rw [hv0] at hv1 ⊢
        rw [show min D.length 19 = 19 by have := H.out.pos; omega]
        generalize htt : trD D D.length = tt
        have HTT := Lib.hid htt
        clear htt
        have gl : (D.length : Int) ≤ 39 := by have := H.out.le; omega
        have g0 : ((v : Int) == 0) = false := by rw [beq_eq_false_iff_ne]; omega
        have g3 : ¬ ((D.length : Nat) : Int) + 1 < (s.size : Int) := by omega
        have g4 : decide (0 < D.length) = true := decide_eq_true (by have := H.out.pos; omega)
        have g5 : (s.size : Int) = ((D.length : Int) + 1) := by omega
        have HV0 := Lib.hid hv0
        have HG5 := Lib.hid g5
        have g6 : ((v : Int) != 0) = true := by rw [bne_iff_ne]; omega
        clear hv0 hks
        go_wp2_with fail
        exact bodyPost_ret (v := .tuple #[.int .u64 (v : Int), .int .i64 ((D.length : Int) - 19), .bool true, .bool tt, .bool false, .int .i64 ((D.length : Int) + 1), .bool true]) (by simp [results, Tryz.results73, go_sem]; try rfl) rfl ⟨by rw [HV0.out, HG5.out, HTT.out], Below.refl _ _⟩
end Go.Proofs.YtdbbmknjldapbaaGreatDoor
