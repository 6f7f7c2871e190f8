/-
  The library's reader of a float's text (internal/strconv), walked over a decimal numeral behind a minus.
-/
import Derived.Test.YtdbbmknjldapbaaGreatDoorReadF
import Derived.WalkSpells
import Derived.Handy
import Derived.Lib.Hide
import Derived.Lib.ItoaMem
import Derived.WalkMore
namespace Go.Proofs.YtdbbmknjldapbaaGreatDoor
set_option linter.unusedVariables false
set_option linter.unusedSimpArgs false
open Go.RowKit Go.Lib Go.Sort

set_option maxRecDepth 100000 in
set_option maxHeartbeats 1600000 in
theorem read_neg (s : ByteArray) (D : List UInt8) (h : NumAt s 1 D) (h45 : ∀ (h : 0 < s.size), s[0].toNat = 45) (hh : ∀ (h : 0 < D.length), D[0].toNat ≠ 48) (w : World) :
    Calls Tryz.prog 73 #[.string s] w fun e w' => e = .returned (.tuple #[.int .u64 (valD D : Int), .int .i64 0, .bool true, .bool false, .bool false, .int .i64 (s.size : Int), .bool true]) ∧ Below w.heap.size w w' := by
  have hsz := h.size
  have hpos := h.pos
  have hle := h.le
  have q2 : (0 : Int) < (s.size : Int) := by omega
  have hp0 : 0 < s.size := by omega
  have hD0 := h.at_ 0 (by omega) (by omega)
  have hd1 := h.dig 0 (by omega)
  have hd2 := hh (by omega)
  rw [← hD0] at hd1 hd2
  have hp1 : 1 < s.size := by omega
  have q45 := h45 hp0
  have e45 : (((s[0]'hp0).toNat : Int) == 45) = true := by rw [beq_iff_eq]; omega
  have e43 : (((s[0]'hp0).toNat : Int) == 43) = false := by rw [beq_eq_false_iff_ne]; omega
  have e48 : (((s[1]'hp1).toNat : Int) == 48) = false := by rw [beq_eq_false_iff_ne]; show ((s[0 + 1]'(by omega)).toNat : Int) ≠ 48; omega
  clear q45 h45
  have H := Lib.hid h
  have H0 : Hid (∀ h0 : 1 < s.size, (s[1]'h0).toNat ≠ 48) := Lib.hid (fun _ => hd2)
  have HZ := Lib.hid hsz
  have HP : Hid (1 ≤ valD D) := Lib.hid (by
    have a1 : valD (D.take 1) = valD (D.take 0) * 10 + ((D[0]).toNat - 48) := valD_step D 0 (by omega)
    have a2 := valD_take D 1
    have a3 : (s[1]'hp1).toNat = D[0].toNat := congrArg UInt8.toNat hD0
    have a4 : 48 ≤ (s[1]'hp1).toNat := hd1.1
    have a5 : (s[1]'hp1).toNat ≠ 48 := hd2
    have a6 : (s[0 + 1]'(by omega)).toNat = (s[1]'hp1).toNat := rfl
    rw [← a3, a6] at a1
    generalize (s[1]'hp1).toNat = c at *
    omega)
  clear h hsz hpos hle hh hD0 hd1 hd2
  have hne : ¬ s = ByteArray.empty := by rintro rfl; simp at hp0
  have q1s : (1 : Int) < (s.size : Int) := by omega
  rcases (by omega : (s.size : Int) ≤ 3 ∨ (3 : Int) < (s.size : Int)) with hq | hq
  all_goals
    go_enter Tryz.func73, Tryz.ntmps73
    go_wp2_with fail
    go_step3
    go_wp2_with fail
    go_step3
    go_wp2_with fail
    go_loopw [2, 5, 7, 9, 13, 14, 15, 16, 17] (fun vm vt vi vu vd vg vn vq vp wr => ∃ k : Nat, vm = .int .u64 (valD (D.take k) : Int) ∧ vt = .bool false ∧ vi = .int .i64 ((k : Int) + 1) ∧ vu = .bool false ∧ vd = .bool false ∧ vg = .bool (decide (0 < k)) ∧ vn = .int .i64 (k : Int) ∧ vq = .int .i64 (k : Int) ∧ vp = .int .i64 0 ∧ k ≤ D.length ∧ w = wr) (fun _ _ vi _ _ _ _ _ _ _ => s.size - (RowKit.intOf vi).toNat)
    case atStart => exact ⟨0, rfl, rfl, rfl, rfl, rfl, rfl, rfl, rfl, rfl, Nat.zero_le _, rfl⟩
    case round =>
      obtain ⟨k, rfl, rfl, rfl, rfl, rfl, rfl, rfl, rfl, rfl, hk, rfl⟩ := hrel
      by_cases hkd : k < D.length
      · obtain ⟨e1, e2, e3⟩ := H.out.at_k k hkd
        have e4 := valD_step D k hkd
        have e5 := valD_lt D (k + 1) (by have := H.out.le; omega) (fun j hj => (H.out.dig j hj).2)
        have e19 := H.out.le
        have hks : k + 1 < s.size := by have := HZ.out; omega
        obtain ⟨v, hv0⟩ : ∃ v, valD (D.take k) = v := ⟨_, rfl⟩
        obtain ⟨v', hv1⟩ : ∃ v', valD (D.take (k + 1)) = v' := ⟨_, rfl⟩
        rw [hv0, hv1] at e4
        rw [hv1] at e5
        rw [hv0]
        have e6 : (s[k + 1]).toNat = D[k].toNat := congrArg UInt8.toNat e1
        have ez : k = 0 → (s[k + 1]).toNat ≠ 48 := fun hk0 => by subst hk0; have := H0.out; exact this _
        obtain ⟨c, hc⟩ : ∃ c, s[k + 1] = c := ⟨_, rfl⟩
        rw [← e6, hc] at e2 e3 e4
        rw [hc] at ez
        have g1 : (48 : Int) ≤ (c.toNat : Int) := by omega
        have g2 : (c.toNat : Int) ≤ 57 := by omega
        have g3 : ((k : Nat) : Int) + 1 < (s.size : Int) := by omega
        have g4 : ((c.toNat : Int) == 95) = false := by rw [beq_eq_false_iff_ne]; omega
        have g5 : ((c.toNat : Int) == 46) = false := by rw [beq_eq_false_iff_ne]; omega
        have g6 : ((k : Nat) : Int) < 19 := by omega
        clear e1 e6 hv0
        have g7 : (v' : Int) = (v : Int) * 10 + ((c.toNat : Int) - 48) := by omega
        have g8 : (v' : Int) < 10000000000000000000 := by omega
        have hbt := bool_true
        have hcase : (((c.toNat : Int) == 48) = true ∧ ((k : Int) == 0) = false) ∨ ((c.toNat : Int) == 48) = false := by
          by_cases hc48 : c.toNat = 48
          · refine Or.inl ⟨by rw [beq_iff_eq]; omega, ?_⟩
            rw [beq_eq_false_iff_ne]
            intro hk0
            exact ez (by omega) hc48
          · exact Or.inr (by rw [beq_eq_false_iff_ne]; omega)
        have HV1 := Lib.hid hv1
        clear e2 e3 e4 e5 ez hv1
        rcases hcase with ⟨hc1, hc2⟩ | hc1
        all_goals
          go_wp2_with fail
          exact ⟨⟨k + 1, by rw [HV1.out]; exact congrArg (Value.int .u64) g7.symm, rfl, by go_num, rfl, rfl, by simp, by go_num, by go_num, rfl, by omega, trivial⟩, by simp [RowKit.intOf]; omega⟩
      · obtain rfl : k = D.length := by omega
        have hks : s.size = D.length + 1 := by have := HZ.out; omega
        rw [List.take_length]
        have hv1 := HP.out
        obtain ⟨v, hv0⟩ : ∃ v, valD D = v := ⟨_, rfl⟩
        rw [hv0] at hv1 ⊢
        have g0 : ((v : Int) == 0) = false := by rw [beq_eq_false_iff_ne]; omega
        have g3 : ¬ ((D.length : Nat) : Int) + 1 < (s.size : Int) := by omega
        have g4 : decide (0 < D.length) = true := decide_eq_true (by have := H.out.pos; omega)
        have g5 : (s.size : Int) = (D.length : Int) + 1 := by omega
        have HV0 := Lib.hid hv0
        have HG5 := Lib.hid g5
        have g6 : ((v : Int) != 0) = true := by rw [bne_iff_ne]; omega
        clear hv0 hks
        go_wp2_with fail
        exact bodyPost_ret (v := .tuple #[.int .u64 (v : Int), .int .i64 0, .bool true, .bool false, .bool false, .int .i64 ((D.length : Int) + 1), .bool true]) (by simp [results, Tryz.results73, go_sem]; try rfl) rfl ⟨by rw [HV0.out, HG5.out], Below.refl _ _⟩
end Go.Proofs.YtdbbmknjldapbaaGreatDoor
