/-
  The test of the laws' package n001_20.zzSafe for printable ASCII without quote and backslash, walked.
-/
import Derived.Test.YtconaigmmhdlmaaGreatFmtEncText
import Derived.Test.YtconaigmmhdlmaaGreatFmtSays
import Derived.WalkSpells
import Derived.Handy
import Derived.Lib.Hide
import Derived.Lib.ItoaMem
namespace Go.Proofs.YtconaigmmhdlmaaGreatFmt
set_option linter.unusedVariables false
set_option linter.unusedSimpArgs false
open Go.RowKit Go.Lib Go.Sort

theorem bytes_at20 (s : ByteArray) (k : Nat) (h : k < s.size) : s.data.toList[k]? = some s[k] := by
  rw [Array.getElem?_toList, Array.getElem?_eq_getElem h]
  rfl
theorem all_false20 (s : ByteArray) (k : Nat) (h : k < s.size) (hp : plainB s[k] = false) : s.data.toList.all plainB = false := by
  rw [List.all_eq_false]
  exact ⟨s[k], List.mem_of_getElem? (bytes_at20 s k h), by rw [hp]; decide⟩
set_option maxRecDepth 100000 in
set_option maxHeartbeats 1600000 in
theorem plain20_any (s : ByteArray) (hs : s.size ≤ 2097152) (w : World) :
    Calls Tryz.prog 30 #[.string s] w fun e w' => e = .returned (.bool (s.data.toList.all plainB)) ∧ Below w.heap.size w w' := by
  go_enter Tryz.func30, Tryz.ntmps30
  go_wp2_with fail
  go_loopw [3] (fun vi wr => ∃ k : Nat, vi = .int .i64 (k : Int) ∧ k ≤ s.size ∧ (∀ (j : Nat) (h : j < s.size), j < k → plainB s[j] = true) ∧ Below w.heap.size w wr) (fun vi _ => s.size - (RowKit.intOf vi).toNat)
  case atStart => exact ⟨0, rfl, Nat.zero_le _, fun j _ h => absurd h (Nat.not_lt_zero _), Below.refl _ _⟩
  case round =>
    obtain ⟨k, rfl, hk, hall, hb⟩ := hrel
    by_cases hks : k < s.size
    · have HA := Lib.hid hall
      clear hall
      have q0 : (k : Int) < (s.size : Int) := by omega
      have ne : ∀ c : UInt8, s[k].toNat = c.toNat → plainB c = false → plainB s[k] = false := fun c e hp => by rw [UInt8.toNat_inj.1 e]; exact hp
      have HN := Lib.hid ne
      clear ne
      by_cases h1 : s[k].toNat < 32
      · have q1 : (s[k].toNat : Int) < 32 := by omega
        have hf := all_false20 s k hks (by unfold plainB; simp; omega)
        go_wp2_with fail
        go_ret
        first | exact ⟨rfl, hb⟩ | exact ⟨by rw [hf]; rfl, hb⟩
      by_cases h2 : 126 < s[k].toNat
      · have q2 : ¬ (s[k].toNat : Int) < 32 := by omega
        have q1 : (126 : Int) < (s[k].toNat : Int) := by omega
        have hf := all_false20 s k hks (by unfold plainB; simp; omega)
        go_wp2_with fail
        go_ret
        first | exact ⟨rfl, hb⟩ | exact ⟨by rw [hf]; rfl, hb⟩
      by_cases h3 : s[k].toNat = 34
      · have q2 : ¬ (s[k].toNat : Int) < 32 := by omega
        have q3 : ¬ (126 : Int) < (s[k].toNat : Int) := by omega
        have q1 : ((s[k].toNat : Int) == 34) = true := by rw [beq_iff_eq]; omega
        have hf := all_false20 s k hks (HN.out 34 h3 rfl)
        go_wp2_with fail
        go_ret
        first | exact ⟨rfl, hb⟩ | exact ⟨by rw [hf]; rfl, hb⟩
      by_cases h4 : s[k].toNat = 92
      · have q2 : ¬ (s[k].toNat : Int) < 32 := by omega
        have q3 : ¬ (126 : Int) < (s[k].toNat : Int) := by omega
        have q4 : ((s[k].toNat : Int) == 34) = false := by rw [beq_eq_false_iff_ne]; omega
        have q1 : ((s[k].toNat : Int) == 92) = true := by rw [beq_iff_eq]; omega
        have hf := all_false20 s k hks (HN.out 92 h4 rfl)
        go_wp2_with fail
        go_ret
        first | exact ⟨rfl, hb⟩ | exact ⟨by rw [hf]; rfl, hb⟩
      have q2 : ¬ (s[k].toNat : Int) < 32 := by omega
      have q3 : ¬ (126 : Int) < (s[k].toNat : Int) := by omega
      have q4 : ((s[k].toNat : Int) == 34) = false := by rw [beq_eq_false_iff_ne]; omega
      have q5 : ((s[k].toNat : Int) == 92) = false := by rw [beq_eq_false_iff_ne]; omega
      have hp := plain_of s[k] (by omega) (by omega) h3 h4
      go_wp2_with fail
      go_roundw
      case rel => exact ⟨k + 1, by go_num, by omega, fun j h hj => by
        rcases Nat.lt_or_ge j k with hjk | hjk
        · exact HA.out j h hjk
        · obtain rfl : j = k := by omega
          exact hp, hb⟩
      case measure => simp [RowKit.intOf]; omega
    · obtain rfl : k = s.size := by omega
      have ht : s.data.toList.all plainB = true := by
        rw [List.all_eq_true]
        intro b hbm
        obtain ⟨j, hj, e⟩ := List.getElem_of_mem hbm
        have hj' : j < s.size := by rw [Array.length_toList] at hj; exact hj
        have := bytes_at20 s j hj'
        rw [List.getElem?_eq_getElem hj, e] at this
        rw [Option.some.inj this]
        exact hall j hj' hj'
      have q0 : ¬ (s.size : Int) < (s.size : Int) := by omega
      go_wp2_with fail
      go_ret
      first | exact ⟨rfl, hb⟩ | exact ⟨by rw [ht]; rfl, hb⟩
end Go.Proofs.YtconaigmmhdlmaaGreatFmt
