/-
  The laws' own reader of decimal text, walked over a numeral.
-/
import Derived.Test.YtogpfacfifajgaaGreatFmtParse
import Derived.Test.YtogpfacfifajgaaGreatFmtSays
import Derived.WalkSpells
import Derived.Handy
import Derived.Lib.Hide
import Derived.Lib.ItoaMem
namespace Go.Proofs.YtogpfacfifajgaaGreatFmt
set_option linter.unusedVariables false
set_option linter.unusedSimpArgs false
open Go.RowKit Go.Lib Go.Sort

/-- What the reader meets: digits D behind the sign. -/
structure Num (s : ByteArray) (i0 : Nat) (D : List UInt8) : Prop where
  size : s.size = D.length + i0
  pos : 1 ≤ D.length
  le : D.length ≤ 19
  at_ : ∀ (k : Nat) (h : k < D.length) (h' : k + i0 < s.size), s[k + i0] = D[k]
  dig : ∀ (k : Nat) (h : k < D.length), 48 ≤ D[k].toNat ∧ D[k].toNat ≤ 57
theorem Num.at_k {s : ByteArray} {i0 : Nat} {D : List UInt8} (h : Num s i0 D) (k : Nat) (hk : k < D.length) : s[k + i0]'(by rw [h.size]; omega) = D[k] ∧ 48 ≤ D[k].toNat ∧ D[k].toNat ≤ 57 :=
  ⟨h.at_ k hk _, h.dig k hk⟩

set_option maxRecDepth 100000 in
set_option maxHeartbeats 1600000 in
theorem parse_pos (s : ByteArray) (D : List UInt8) (h : Num s 0 D) (hv : valD D ≤ 9223372036854775807) (hh : (∀ (h : 0 < s.size), s[0].toNat ≠ 45) ∧ (1 < D.length → ∀ (h : 0 < D.length), D[0].toNat ≠ 48)) (w : World) :
    Calls Tryz.prog 24 #[.string s] w fun e w' => e = .returned (.tuple #[.int .i64 ((valD D : Int)), .bool true]) ∧ Below w.heap.size w w' := by
  have hsz := h.size
  have hpos := h.pos
  have hle := h.le
  have q0 : ((s.size : Int) == 0) = false := by rw [beq_eq_false_iff_ne]; omega
  have q1 : (s.size : Int) ≤ 20 := by omega
  have q2 : (0 : Int) < (s.size : Int) := by omega
  have hp0 : 0 < s.size := by omega
  have hs1 : (((s[0]'hp0).toNat : Int) == 45) = false := by rw [beq_eq_false_iff_ne]; have := hh.1 hp0; omega
  have q3 : (s.size : Int) ≤ 19 := by omega
  have H := Lib.hid h
  have HZ := Lib.hid hsz
  by_cases hone : 1 < D.length
  · have q4 : (1 : Int) < (s.size : Int) := by omega
    have hs2 : (((s[0]'hp0).toNat : Int) == 48) = false := by
      rw [beq_eq_false_iff_ne]
      have e := h.at_ 0 (by omega) (by omega)
      have e2 := hh.2 hone (by omega)
      rw [show s[0]'hp0 = s[0 + 0]'(by omega) from rfl, e]
      omega
    clear h hsz hpos hle hh hone
    go_enter Tryz.func24, Tryz.ntmps24
    go_wp2_with fail
    go_loopw [5, 7] (fun vi vv wr => ∃ k : Nat, vi = .int .i64 (k : Int) ∧ vv = .int .i64 (-(valD (D.take k) : Int)) ∧ k ≤ D.length ∧ Below w.heap.size w wr) (fun vi _ _ => s.size - (RowKit.intOf vi).toNat)
    case atStart => exact ⟨0, by go_num, by simp [valD], Nat.zero_le _, Below.refl _ _⟩
    case round =>
      obtain ⟨k, rfl, rfl, hk, hb⟩ := hrel
      by_cases hkd : k < D.length
      · obtain ⟨e1, e2, e3⟩ := H.out.at_k k hkd
        have e4 := valD_step D k hkd
        have e5 := valD_take D (k + 1)
        have hks : k + 0 < s.size := by have := HZ.out; omega
        obtain ⟨v, hv0⟩ : ∃ v, valD (D.take k) = v := ⟨_, rfl⟩
        obtain ⟨v', hv1⟩ : ∃ v', valD (D.take (k + 1)) = v' := ⟨_, rfl⟩
        rw [hv0, hv1] at e4
        rw [hv1] at e5
        rw [hv0]
        have e6 : (s[k]).toNat = D[k].toNat := congrArg UInt8.toNat e1
        obtain ⟨c, hc⟩ : ∃ c, s[k] = c := ⟨_, rfl⟩
        rw [← e6, hc] at e2 e3 e4
        have g1 : (48 : Int) ≤ (c.toNat : Int) := by omega
        have g2 : (c.toNat : Int) ≤ 57 := by omega
        have g3 : ((k : Nat) : Int) < (s.size : Int) := by omega
        clear e1 e6 hv0
        go_wp2_with fail
        go_roundw
        case rel =>
          exact ⟨k + 1, by go_num, by rw [hv1]; go_num, by omega, hb⟩
        case measure => simp [RowKit.intOf]; omega
      · obtain rfl : k = D.length := by omega
        have hks : s.size = D.length := by have := HZ.out; omega
        rw [List.take_length]
        obtain ⟨v, hv0⟩ : ∃ v, valD D = v := ⟨_, rfl⟩
        rw [hv0] at hv ⊢
        have g3 : ¬ ((D.length : Nat) : Int) < (s.size : Int) := by omega
        go_wp2_with fail
        go_ret2
        exact ⟨rfl, hb⟩
  · have q4 : (s.size : Int) ≤ 1 := by omega
    clear h hsz hpos hle hh hone
    go_enter Tryz.func24, Tryz.ntmps24
    go_wp2_with fail
    go_loopw [5, 7] (fun vi vv wr => ∃ k : Nat, vi = .int .i64 (k : Int) ∧ vv = .int .i64 (-(valD (D.take k) : Int)) ∧ k ≤ D.length ∧ Below w.heap.size w wr) (fun vi _ _ => s.size - (RowKit.intOf vi).toNat)
    case atStart => exact ⟨0, by go_num, by simp [valD], Nat.zero_le _, Below.refl _ _⟩
    case round =>
      obtain ⟨k, rfl, rfl, hk, hb⟩ := hrel
      by_cases hkd : k < D.length
      · obtain ⟨e1, e2, e3⟩ := H.out.at_k k hkd
        have e4 := valD_step D k hkd
        have e5 := valD_take D (k + 1)
        have hks : k + 0 < s.size := by have := HZ.out; omega
        obtain ⟨v, hv0⟩ : ∃ v, valD (D.take k) = v := ⟨_, rfl⟩
        obtain ⟨v', hv1⟩ : ∃ v', valD (D.take (k + 1)) = v' := ⟨_, rfl⟩
        rw [hv0, hv1] at e4
        rw [hv1] at e5
        rw [hv0]
        have e6 : (s[k]).toNat = D[k].toNat := congrArg UInt8.toNat e1
        obtain ⟨c, hc⟩ : ∃ c, s[k] = c := ⟨_, rfl⟩
        rw [← e6, hc] at e2 e3 e4
        have g1 : (48 : Int) ≤ (c.toNat : Int) := by omega
        have g2 : (c.toNat : Int) ≤ 57 := by omega
        have g3 : ((k : Nat) : Int) < (s.size : Int) := by omega
        clear e1 e6 hv0
        go_wp2_with fail
        go_roundw
        case rel =>
          exact ⟨k + 1, by go_num, by rw [hv1]; go_num, by omega, hb⟩
        case measure => simp [RowKit.intOf]; omega
      · obtain rfl : k = D.length := by omega
        have hks : s.size = D.length := by have := HZ.out; omega
        rw [List.take_length]
        obtain ⟨v, hv0⟩ : ∃ v, valD D = v := ⟨_, rfl⟩
        rw [hv0] at hv ⊢
        have g3 : ¬ ((D.length : Nat) : Int) < (s.size : Int) := by omega
        go_wp2_with fail
        go_ret2
        exact ⟨rfl, hb⟩

set_option maxRecDepth 100000 in
set_option maxHeartbeats 1600000 in
theorem parse_neg (s : ByteArray) (D : List UInt8) (h : Num s 1 D) (hv : valD D ≤ 9223372036854775808) (hh : (∀ (h : 0 < s.size), s[0] = 45) ∧ (∀ (h : 0 < D.length), D[0].toNat ≠ 48)) (w : World) :
    Calls Tryz.prog 24 #[.string s] w fun e w' => e = .returned (.tuple #[.int .i64 (-(valD D : Int)), .bool true]) ∧ Below w.heap.size w w' := by
  have hsz := h.size
  have hpos := h.pos
  have hle := h.le
  have q0 : ((s.size : Int) == 0) = false := by rw [beq_eq_false_iff_ne]; omega
  have q1 : (s.size : Int) ≤ 20 := by omega
  have q2 : (0 : Int) < (s.size : Int) := by omega
  have hp0 : 0 < s.size := by omega
  have hs0 : s[0]'hp0 = 45 := hh.1 hp0
  have hp1 : 1 < s.size := by omega
  have hs1 : (((s[1]'hp1).toNat : Int) == 48) = false := by
    rw [beq_eq_false_iff_ne]
    have e := h.at_ 0 (by omega) (by omega)
    have e2 := hh.2 (by omega)
    rw [show s[1]'hp1 = s[0 + 1]'(by omega) from rfl, e]
    omega
  have q5 : (1 : Int) < (s.size : Int) := by omega
  have H := Lib.hid h
  have HZ := Lib.hid hsz
  by_cases hone : 1 < D.length
  · have q4 : (1 : Int) < (s.size : Int) - 1 := by omega
    have q6 : (s.size : Int) - 1 ≤ 19 := by omega
    have q7 : ((s.size : Int) - 1 == 0) = false := by rw [beq_eq_false_iff_ne]; omega
    have q8 : ((s.size : Int) - 1 == 1) = false := by rw [beq_eq_false_iff_ne]; omega
    clear h hsz hpos hle hh hone
    go_enter Tryz.func24, Tryz.ntmps24
    go_wp2_with fail
    go_loopw [5, 7] (fun vi vv wr => ∃ k : Nat, vi = .int .i64 ((k + 1 : Nat) : Int) ∧ vv = .int .i64 (-(valD (D.take k) : Int)) ∧ k ≤ D.length ∧ Below w.heap.size w wr) (fun vi _ _ => s.size - (RowKit.intOf vi).toNat)
    case atStart => exact ⟨0, by go_num, by simp [valD], Nat.zero_le _, Below.refl _ _⟩
    case round =>
      obtain ⟨k, rfl, rfl, hk, hb⟩ := hrel
      by_cases hkd : k < D.length
      · obtain ⟨e1, e2, e3⟩ := H.out.at_k k hkd
        have e4 := valD_step D k hkd
        have e5 := valD_take D (k + 1)
        have hks : k + 1 < s.size := by have := HZ.out; omega
        obtain ⟨v, hv0⟩ : ∃ v, valD (D.take k) = v := ⟨_, rfl⟩
        obtain ⟨v', hv1⟩ : ∃ v', valD (D.take (k + 1)) = v' := ⟨_, rfl⟩
        rw [hv0, hv1] at e4
        rw [hv1] at e5
        rw [hv0]
        have e6 : (s[k + 1]).toNat = D[k].toNat := congrArg UInt8.toNat e1
        obtain ⟨c, hc⟩ : ∃ c, s[k + 1] = c := ⟨_, rfl⟩
        rw [← e6, hc] at e2 e3 e4
        have g1 : (48 : Int) ≤ (c.toNat : Int) := by omega
        have g2 : (c.toNat : Int) ≤ 57 := by omega
        have g3 : ((k + 1 : Nat) : Int) < (s.size : Int) := by omega
        clear e1 e6 hv0
        go_wp2_with fail
        go_roundw
        case rel =>
          exact ⟨k + 1, by go_num, by rw [hv1]; go_num, by omega, hb⟩
        case measure => simp [RowKit.intOf]; omega
      · obtain rfl : k = D.length := by omega
        have hks : s.size = D.length + 1 := by have := HZ.out; omega
        rw [List.take_length]
        obtain ⟨v, hv0⟩ : ∃ v, valD D = v := ⟨_, rfl⟩
        rw [hv0] at hv ⊢
        have g3 : ¬ ((D.length + 1 : Nat) : Int) < (s.size : Int) := by omega
        go_wp2_with fail
        go_ret2
        exact ⟨rfl, hb⟩
  · have q4 : (s.size : Int) - 1 = 1 := by omega
    clear h hsz hpos hle hh hone
    go_enter Tryz.func24, Tryz.ntmps24
    go_wp2_with fail
    go_loopw [5, 7] (fun vi vv wr => ∃ k : Nat, vi = .int .i64 ((k + 1 : Nat) : Int) ∧ vv = .int .i64 (-(valD (D.take k) : Int)) ∧ k ≤ D.length ∧ Below w.heap.size w wr) (fun vi _ _ => s.size - (RowKit.intOf vi).toNat)
    case atStart => exact ⟨0, by go_num, by simp [valD], Nat.zero_le _, Below.refl _ _⟩
    case round =>
      obtain ⟨k, rfl, rfl, hk, hb⟩ := hrel
      by_cases hkd : k < D.length
      · obtain ⟨e1, e2, e3⟩ := H.out.at_k k hkd
        have e4 := valD_step D k hkd
        have e5 := valD_take D (k + 1)
        have hks : k + 1 < s.size := by have := HZ.out; omega
        obtain ⟨v, hv0⟩ : ∃ v, valD (D.take k) = v := ⟨_, rfl⟩
        obtain ⟨v', hv1⟩ : ∃ v', valD (D.take (k + 1)) = v' := ⟨_, rfl⟩
        rw [hv0, hv1] at e4
        rw [hv1] at e5
        rw [hv0]
        have e6 : (s[k + 1]).toNat = D[k].toNat := congrArg UInt8.toNat e1
        obtain ⟨c, hc⟩ : ∃ c, s[k + 1] = c := ⟨_, rfl⟩
        rw [← e6, hc] at e2 e3 e4
        have g1 : (48 : Int) ≤ (c.toNat : Int) := by omega
        have g2 : (c.toNat : Int) ≤ 57 := by omega
        have g3 : ((k + 1 : Nat) : Int) < (s.size : Int) := by omega
        clear e1 e6 hv0
        go_wp2_with fail
        go_roundw
        case rel =>
          exact ⟨k + 1, by go_num, by rw [hv1]; go_num, by omega, hb⟩
        case measure => simp [RowKit.intOf]; omega
      · obtain rfl : k = D.length := by omega
        have hks : s.size = D.length + 1 := by have := HZ.out; omega
        rw [List.take_length]
        obtain ⟨v, hv0⟩ : ∃ v, valD D = v := ⟨_, rfl⟩
        rw [hv0] at hv ⊢
        have g3 : ¬ ((D.length + 1 : Nat) : Int) < (s.size : Int) := by omega
        go_wp2_with fail
        go_ret2
        exact ⟨rfl, hb⟩

end Go.Proofs.YtogpfacfifajgaaGreatFmt
