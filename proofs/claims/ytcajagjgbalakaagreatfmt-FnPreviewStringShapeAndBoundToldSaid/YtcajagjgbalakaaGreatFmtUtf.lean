/-
  The laws' own tests for well-formed UTF-8 and for plain text, walked.
-/
import Derived.Test.YtcajagjgbalakaaGreatFmtRl
namespace Go.Proofs.YtcajagjgbalakaaGreatFmt
set_option linter.unusedVariables false
set_option linter.unusedSimpArgs false
open Go.RowKit Go.Lib Go.Sort

set_option maxRecDepth 100000 in
set_option maxHeartbeats 1600000 in
theorem valid_any (s : ByteArray) (hs : s.size ≤ 2097152) (hg : Good s.data.toList) (w : World) :
    Calls Tryz.prog 12 #[.string s] w fun e w' => e = .returned (.bool true) ∧ Below w.heap.size w w' := by
  have hl : s.data.toList.length = s.size := by rw [Array.length_toList]; rfl
  have HR := Lib.hid (fun k (hk : k < s.size) w => rl_any s k hs hk w)
  obtain ⟨L, hL⟩ : ∃ L, L = s.data.toList := ⟨_, rfl⟩
  rw [← hL] at hg hl HR
  clear hL
  go_enter Tryz.func12, Tryz.ntmps12
  go_wp2_with fail
  go_loopw [3] (fun vi wr => ∃ k : Nat, vi = .int .i64 (k : Int) ∧ k ≤ s.size ∧ Good (L.drop k) ∧ Below w.heap.size w wr) (fun vi _ => s.size - (RowKit.intOf vi).toNat)
  case atStart => exact ⟨0, rfl, Nat.zero_le _, hg, Below.refl _ _⟩
  case round =>
    obtain ⟨k, rfl, hk, hgk, hb⟩ := hrel
    by_cases hks : k < s.size
    · have hsp := hgk.split
      obtain ⟨c, m, e, hc, hm⟩ : ∃ c m, L.drop k = c ++ m ∧ Rune c ∧ Good m := by
        rcases hsp with e | h
        · have := congrArg List.length e
          simp at this
          omega
        · exact h
      have hz := lenAt_rune L k c m e hc
      have hc1 := hc.one
      have hle : k + c.length ≤ s.size := by
        have := congrArg List.length e
        simp at this
        omega
      have hm2 : L.drop (k + c.length) = m := by rw [← List.drop_drop, e, List.drop_left]
      have HK := Lib.hid (HR.out k hks)
      rw [hz] at HK
      generalize c.length = n at hc1 hle hm2 HK
      have q0 : (k : Int) < (s.size : Int) := by omega
      have q1 : ((n : Int) == 0) = false := by rw [beq_eq_false_iff_ne]; omega
      clear hgk hsp e hz hc
      go_wp2_with fail
      refine (HK.out _).mono ?_
      rintro e w1 ⟨rfl, hb1⟩
      have hb2 := hb.trans (below_of hb1 hb.size)
      go_wp2_with fail
      go_roundw
      case rel => exact ⟨k + n, by go_num, hle, by rw [hm2]; exact hm, hb2⟩
      case measure => simp [RowKit.intOf]; omega
    · obtain rfl : k = s.size := by omega
      have q0 : ¬ (s.size : Int) < (s.size : Int) := by omega
      clear hgk
      go_wp2_with fail
      go_ret
      exact ⟨rfl, hb⟩

set_option maxRecDepth 100000 in
set_option maxHeartbeats 3200000 in
/-- Where the test says yes the text passes as it is. -/
theorem plainText_any (s : ByteArray) (hs : s.size ≤ 2097152) (w : World) :
    Calls Tryz.prog 8 #[.string s] w fun e w' => (∃ b, e = .returned (.bool b) ∧ (b = true → escL s.data.toList = s.data.toList ∧ Good s.data.toList)) ∧ Below w.heap.size w w' := by
  have hl : s.data.toList.length = s.size := by rw [Array.length_toList]; rfl
  have HR := Lib.hid (fun k (hk : k < s.size) w => rl_any s k hs hk w)
  have HX := Lib.hid (fun (k : Nat) (hk : k < s.size) => reads_at s k (k : Int) rfl hk)
  have hS : Passed s.data.toList 0 := Passed.start _
  have hE : Passed s.data.toList s.size → escL s.data.toList = s.data.toList ∧ Good s.data.toList := fun h => Passed.done (by rw [hl]; exact h)
  generalize s.data.toList = L at *
  have HE := Lib.hid hE
  clear hE
  go_enter Tryz.func8, Tryz.ntmps8
  go_wp2_with fail
  go_loopw [3] (fun vi wr => ∃ k : Nat, vi = .int .i64 (k : Int) ∧ k ≤ s.size ∧ Passed L k ∧ Below w.heap.size w wr) (fun vi _ => s.size - (RowKit.intOf vi).toNat)
  case atStart => exact ⟨0, rfl, Nat.zero_le _, hS, Below.refl _ _⟩
  case round =>
    obtain ⟨k, rfl, hk, hp, hb⟩ := hrel
    have HP := Lib.hid hp
    clear hp hS
    by_cases hks : k < s.size
    · have q0 : (k : Int) < (s.size : Int) := by omega
      have x0 := HX.out k hks
      unfold Reads at x0
      have hx := at_lt L k
      have HLow := Lib.hid (fun h1 h2 h3 h4 => HP.out.low (by omega) h1 h2 h3 h4)
      have HMany := Lib.hid (fun h1 h2 => HP.out.many (by omega) h1 h2)
      have HB := Lib.hid (fun h1 h2 => lenAt_many L k (by omega) h1 h2)
      have HK := Lib.hid (HR.out k hks)
      generalize at_ L k = x at x0 hx HLow HMany HB
      generalize lenAt L k = n at HMany HB HK
      by_cases h0 : x < 128
      · have p0 : (x : Int) < 128 := by omega
        by_cases h1 : x < 32
        · have p1 : (x : Int) < 32 := by omega
          go_wp2_with fail
          go_ret
          first | exact ⟨⟨_, rfl, fun h => by cases h⟩, hb⟩ | exact ⟨Or.inl rfl, hb⟩
        have p1 : ¬ (x : Int) < 32 := by omega
        by_cases h2 : 126 < x
        · have p2 : (126 : Int) < (x : Int) := by omega
          go_wp2_with fail
          go_ret
          first | exact ⟨⟨_, rfl, fun h => by cases h⟩, hb⟩ | exact ⟨Or.inl rfl, hb⟩
        have p2 : ¬ (126 : Int) < (x : Int) := by omega
        by_cases h3 : x = 34
        · have p3 : ((x : Int) == 34) = true := by rw [beq_iff_eq]; omega
          go_wp2_with fail
          go_ret
          first | exact ⟨⟨_, rfl, fun h => by cases h⟩, hb⟩ | exact ⟨Or.inl rfl, hb⟩
        have p3 : ((x : Int) == 34) = false := by rw [beq_eq_false_iff_ne]; omega
        by_cases h4 : x = 92
        · have p4 : ((x : Int) == 92) = true := by rw [beq_iff_eq]; omega
          go_wp2_with fail
          go_ret
          first | exact ⟨⟨_, rfl, fun h => by cases h⟩, hb⟩ | exact ⟨Or.inl rfl, hb⟩
        have p4 : ((x : Int) == 92) = false := by rw [beq_eq_false_iff_ne]; omega
        go_wp2_with fail
        go_roundw
        case rel => exact ⟨k + 1, by go_num, by omega, HLow.out (by omega) (by omega) h3 h4, hb⟩
        case measure => simp [RowKit.intOf]; omega
      · have p0 : ¬ (x : Int) < 128 := by omega
        by_cases hn : n = 0
        · have q1 : ((n : Int) == 0) = true := by rw [beq_iff_eq]; omega
          go_wp2_with fail
          refine (HK.out _).mono ?_
          rintro e w1 ⟨rfl, hb1⟩
          have hb2 := hb.trans (below_of hb1 hb.size)
          go_wp2_with fail
          go_ret
          first | exact ⟨⟨_, rfl, fun h => by cases h⟩, hb2⟩ | exact ⟨Or.inl rfl, hb2⟩
        · have q1 : ((n : Int) == 0) = false := by rw [beq_eq_false_iff_ne]; omega
          have hB := HB.out h0 hn
          have hn1 := hB.1
          have hn2 := hB.2.1
          clear hB
          go_wp2_with fail
          refine (HK.out _).mono ?_
          rintro e w1 ⟨rfl, hb1⟩
          have hb2 := hb.trans (below_of hb1 hb.size)
          go_wp2_with fail
          go_roundw
          case rel => exact ⟨k + n, by go_num, by omega, HMany.out h0 hn, hb2⟩
          case measure => simp [RowKit.intOf]; omega
    · obtain rfl : k = s.size := by omega
      have q0 : ¬ (s.size : Int) < (s.size : Int) := by omega
      go_wp2_with fail
      go_ret
      first | exact ⟨⟨_, rfl, fun _ => HE.out HP.out⟩, hb⟩ | exact ⟨Or.inr ⟨rfl, HE.out HP.out⟩, hb⟩
end Go.Proofs.YtcajagjgbalakaaGreatFmt
