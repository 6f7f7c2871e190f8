/-
  The library's decimal multiplied by a power of two (internal/strconv.leftShift), walked.
-/
import Derived.Test.YtdbbmknjldapbaaGreatDoorLp
namespace Go.Proofs.YtdbbmknjldapbaaGreatDoor
set_option linter.unusedVariables false
set_option linter.unusedSimpArgs false
open Go.RowKit Go.Lib

set_option maxRecDepth 100000 in
set_option maxHeartbeats 1600000 in
/-- prefixIsLessThan over digits. -/
theorem prefix_any (b nd : Nat) (f : Nat → UInt8) (S : List UInt8) (hnd : nd ≤ 800) (hd : ∀ i, i < nd → 48 ≤ (f i).toNat ∧ (f i).toNat ≤ 57) (hs : Digs S) (hS : S.length ≤ 100) (hz : ∀ h : 0 < S.length, (S[S.length - 1]'(by omega)).toNat ≠ 48) (c : Nat) (w : World) (T : ByteArray) (hsz : T.size = S.length) (hat : ∀ (i : Nat) (h : i < T.size) (h2 : i < S.length), T[i] = S[i])
    (hc : ∀ i, i < nd → w.cell? ⟨b, i, none⟩ = some (.int .u8 ((f i).toNat : Int))) :
    Calls Tryz.prog 160 #[.slice (some ⟨b, 0, none⟩) nd c, .string T] w fun e w' => (∃ r : Bool, e = .returned (.bool r) ∧ (r = true ↔ LessF (pre f nd) S)) ∧ ∃ k, w' = w.drewN k := by
  have HD := Lib.hid hd
  have HC := Lib.hid hc
  have hdp : Digs (pre f nd) := fun x hx => by
    obtain ⟨i, hi, rfl⟩ := List.mem_iff_getElem.1 hx
    rw [pre_get]
    exact hd i (by rw [pre_length] at hi; exact hi)
  have HP := Lib.hid hdp
  have HSD := Lib.hid hs
  have HZ := Lib.hid hz
  have HAT := Lib.hid hat
  have HSZ := Lib.hid hsz
  clear hd hc hdp hs hz hat hsz
  go_enter Tryz.func160, Tryz.ntmps160
  go_wp2_with fail
  go_loopw [5] (fun vi wr => ∃ i k : Nat, vi = .int .i64 (i : Int) ∧ i ≤ S.length ∧ i ≤ nd ∧ Hid (∀ j (h1 : j < (pre f nd).length) (h2 : j < S.length), j < i → (pre f nd)[j] = S[j]) ∧ wr = w.drewN k) (fun vi _ => 200 - (RowKit.intOf vi).toNat)
  case atStart => exact ⟨0, 0, rfl, by omega, by omega, Lib.hid (fun j h1 h2 h3 => absurd h3 (by omega)), rfl⟩
  case round =>
    obtain ⟨i, k, rfl, hi, hin, HE, rfl⟩ := hrel
    have hcs : (T.size : Int) = (S.length : Int) := by rw [HSZ.out]
    have sI : (S.length : Int) ≤ 100 := by omega
    by_cases hiS : i < S.length
    · have q1 : (i : Int) < (T.size : Int) := by omega
      clear hcs
      by_cases hid : i < nd
      · have q2 : ¬ (nd : Int) ≤ (i : Int) := by omega
        have c1 := HC.out i hid
        have d1 := HD.out i hid
        have d2 := HSD.out.at_ i hiS
        have e1 := HAT.out i (by have := HSZ.out; omega) hiS
        have hiT : i < T.size := by have := HSZ.out; omega
        obtain ⟨y, hy⟩ : ∃ y, (f i).toNat = y := ⟨_, rfl⟩
        obtain ⟨z, hzz⟩ : ∃ z : Nat, ((T[i]'hiT).toNat : Nat) = z := ⟨_, rfl⟩
        have hzs : S[i].toNat = z := by rw [← hzz, e1]
        rw [hy] at c1 d1
        have HY := Lib.hid hy
        have HZS := Lib.hid hzs
        rw [hzs] at d2
        clear hy hzs e1
        by_cases hyz : y = z
        · have q3 : ((y : Int) != (z : Int)) = false := by rw [bne_eq_false_iff_eq]; omega
          go_wp2_with fail
          go_quiet (fail)
          go_wp2_with fail
          go_roundw
          case rel => exact ⟨i + 1, k + nq, by go_num, by omega, by omega, Lib.hid (fun j h1 h2 h3 => by
            rcases Nat.lt_or_ge j i with e | e
            · exact HE.out j h1 h2 e
            · obtain rfl : j = i := by omega
              rw [pre_get]
              exact UInt8.toNat_inj.1 (by rw [HY.out, HZS.out]; exact hyz)), rfl⟩
          case measure => simp [RowKit.intOf]; omega
        · have q3 : ((y : Int) != (z : Int)) = true := by rw [bne_iff_ne]; omega
          have HL := Lib.hid (less_at (pre f nd) S HP.out HSD.out i (by rw [pre_length]; exact hid) hiS HE.out (by rw [pre_get, HY.out, HZS.out]; exact hyz))
          go_wp2_with fail
          go_quiet (fail)
          go_wp2_with fail
          go_quiet (fail)
          go_wp2_with fail
          go_ret
          have hL : (decide (y < z) = true ↔ LessF (pre f nd) S) := by
            have := HL.out
            rw [pre_get, HY.out, HZS.out] at this
            rw [decide_eq_true_eq, this]
          first | exact ⟨⟨_, rfl, hL⟩, _, by rw [World.drewN_drewN, World.drewN_drewN]⟩
      · obtain rfl : i = nd := by omega
        have q2 : ((i : Nat) : Int) ≤ (i : Int) := Int.le_refl _
        have HL := Lib.hid (less_short (pre f i) S HP.out HSD.out (fun j h1 h2 h3 => HE.out j h1 h2 (by rw [pre_length] at h3; exact h3)) (by rw [pre_length]; exact hiS) HZ.out)
        go_wp2_with fail
        go_ret
        exact ⟨⟨true, rfl, fun _ => HL.out, fun _ => rfl⟩, k, rfl⟩
    · obtain rfl : i = S.length := by omega
      have q1 : ¬ (S.length : Int) < (T.size : Int) := by omega
      have HL := Lib.hid (less_end (pre f nd) S HE.out (by rw [pre_length]; exact hin))
      clear hcs
      go_wp2_with fail
      go_ret
      first | exact ⟨⟨false, rfl, fun h => absurd h (by decide), fun h => absurd h HL.out⟩, k, rfl⟩ | exact ⟨Or.inl ⟨rfl, HL.out⟩, k, rfl⟩
end Go.Proofs.YtdbbmknjldapbaaGreatDoor
