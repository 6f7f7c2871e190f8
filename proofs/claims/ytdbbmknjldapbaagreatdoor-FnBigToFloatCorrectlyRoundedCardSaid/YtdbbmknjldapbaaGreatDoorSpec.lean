/-
  The library's test for 'inf' and 'nan' (internal/strconv.special), walked over a decimal numeral; the reader at "0".
-/
import Derived.Test.YtdbbmknjldapbaaGreatDoorReadN
namespace Go.Proofs.YtdbbmknjldapbaaGreatDoor
set_option linter.unusedVariables false
set_option linter.unusedSimpArgs false
open Go.RowKit Go.Lib Go.Sort

set_option maxRecDepth 100000 in
set_option maxHeartbeats 1600000 in
theorem read_zero (s : ByteArray) (hs : s.size = 1) (h48 : ∀ h : 0 < s.size, (s[0]'h).toNat = 48) (w : World) :
    Calls Tryz.prog 73 #[.string s] w fun e w' => e = .returned (.tuple #[.int .u64 0, .int .i64 0, .bool false, .bool false, .bool false, .int .i64 1, .bool true]) ∧ Below w.heap.size w w' := by
  have hp0 : 0 < s.size := by omega
  have hbt := bool_true
  have hne : ¬ s = ByteArray.empty := by rintro rfl; simp at hp0
  have hI : (s.size : Int) = 1 := by omega
  have h := h48 hp0
  have e1 : (((s[0]'hp0).toNat : Int) == 43) = false := by rw [beq_eq_false_iff_ne]; omega
  have e2 : (((s[0]'hp0).toNat : Int) == 45) = false := by rw [beq_eq_false_iff_ne]; omega
  have e3 : (((s[0]'hp0).toNat : Int) == 95) = false := by rw [beq_eq_false_iff_ne]; omega
  have e4 : (((s[0]'hp0).toNat : Int) == 46) = false := by rw [beq_eq_false_iff_ne]; omega
  have e5 : (((s[0]'hp0).toNat : Int) == 48) = true := by rw [beq_iff_eq]; omega
  have e6 : (48 : Int) ≤ ((s[0]'hp0).toNat : Int) := by omega
  have e7 : ((s[0]'hp0).toNat : Int) ≤ 57 := by omega
  clear h h48 hs
  go_enter Tryz.func73, Tryz.ntmps73
  go_wp2_with fail
  go_step3
  go_wp2_with fail
  go_step3
  go_wp2_with fail
  refine wp_loop_rounds 3 ?_
  rw [rounds_succ]
  go_wp2_with fail
  rw [rounds_succ]
  go_wp2_with fail
  rw [Exit.noGoto_ret]
  exact bodyPost_ret (v := .tuple #[.int .u64 0, .int .i64 0, .bool false, .bool false, .bool false, .int .i64 1, .bool true]) (by simp [results, Tryz.results73, go_sem]; try rfl) rfl ⟨rfl, Below.refl _ _⟩
set_option maxRecDepth 100000 in
theorem spec_pos (s : ByteArray) (hp0 : 0 < s.size) (h0 : 48 ≤ (s[0]'hp0).toNat) (h1 : (s[0]'hp0).toNat ≤ 57) (w : World) :
    Calls Tryz.prog 72 #[.string s] w fun e w' => e = .returned (.tuple #[.float .f64 0, .int .i64 0, .bool false]) ∧ Below w.heap.size w w' := by
  have hne : ¬ s = ByteArray.empty := by rintro rfl; simp at hp0
  have q2 : (0 : Int) < (s.size : Int) := by omega
  have q0 : ((s.size : Int) == 0) = false := by rw [beq_eq_false_iff_ne]; omega
  have e1 : (((s[0]'hp0).toNat : Int) == 43) = false := by rw [beq_eq_false_iff_ne]; omega
  have e2 : (((s[0]'hp0).toNat : Int) == 45) = false := by rw [beq_eq_false_iff_ne]; omega
  have e3 : (((s[0]'hp0).toNat : Int) == 105) = false := by rw [beq_eq_false_iff_ne]; omega
  have e4 : (((s[0]'hp0).toNat : Int) == 73) = false := by rw [beq_eq_false_iff_ne]; omega
  have e5 : (((s[0]'hp0).toNat : Int) == 110) = false := by rw [beq_eq_false_iff_ne]; omega
  have e6 : (((s[0]'hp0).toNat : Int) == 78) = false := by rw [beq_eq_false_iff_ne]; omega
  go_enter Tryz.func72, Tryz.ntmps72
  go_wp2_with fail
  exact bodyPost_ret (v := .tuple #[.float .f64 0, .int .i64 0, .bool false]) (by simp [results, Tryz.results72, go_sem]; try rfl) rfl ⟨rfl, Below.refl _ _⟩
set_option maxRecDepth 100000 in
theorem pref_any (t : ByteArray) (hp0 : 0 < t.size) (h0 : 48 ≤ (t[0]'hp0).toNat) (h1 : (t[0]'hp0).toNat ≤ 57) (w : World) :
    Calls Tryz.prog 98 #[.string t, .string ⟨#[105, 110, 102, 105, 110, 105, 116, 121]⟩] w fun e w' => e = .returned (.int .i64 0) ∧ Below w.heap.size w w' := by
  have q2 : (0 : Int) < (t.size : Int) := by omega
  have e1 : ¬ (65 : Int) ≤ ((t[0]'hp0).toNat : Int) := by omega
  have e2 : (((t[0]'hp0).toNat : Int) != 105) = true := by rw [bne_iff_ne]; omega
  have e3 : (((t[0]'hp0).toNat : Int) != ((((⟨#[105, 110, 102, 105, 110, 105, 116, 121]⟩ : ByteArray)[0]'(by decide)).toNat : Nat) : Int)) = true := e2
  rcases (by omega : (t.size : Int) < 8 ∨ (8 : Int) ≤ (t.size : Int)) with hq | hq
  all_goals
    go_enter Tryz.func98, Tryz.ntmps98
    go_wp2_with fail
    refine wp_loop_rounds 2 ?_
    rw [rounds_succ]
    go_wp2_with fail
    go_ret
    exact ⟨rfl, Below.refl _ _⟩
set_option maxRecDepth 100000 in
theorem spec_neg (s : ByteArray) (hp1 : 1 < s.size) (h45 : (s[0]'(by omega)).toNat = 45) (h0 : 48 ≤ (s[1]'hp1).toNat) (h1 : (s[1]'hp1).toNat ≤ 57) (w : World) :
    Calls Tryz.prog 72 #[.string s] w fun e w' => e = .returned (.tuple #[.float .f64 0, .int .i64 0, .bool false]) ∧ Below w.heap.size w w' := by
  have hp0 : 0 < s.size := by omega
  have hne : ¬ s = ByteArray.empty := by rintro rfl; simp at hp0
  have q2 : (0 : Int) < (s.size : Int) := by omega
  have q0 : ((s.size : Int) == 0) = false := by rw [beq_eq_false_iff_ne]; omega
  have e1 : (((s[0]'hp0).toNat : Int) == 43) = false := by rw [beq_eq_false_iff_ne]; omega
  have e2 : (((s[0]'hp0).toNat : Int) == 45) = true := by rw [beq_iff_eq]; omega
  have q1 : (1 : Int) ≤ (s.size : Int) := by omega
  go_enter Tryz.func72, Tryz.ntmps72
  have hext : (s.extract 1 s.size).size = s.size - 1 := by simp
  have hx0 : 0 < (s.extract 1 s.size).size := by omega
  have hx : (s.extract 1 s.size)[0]'hx0 = s[1]'hp1 := by simp [ByteArray.getElem_extract]
  have HP := Lib.hid (fun w => pref_any (s.extract 1 s.size) hx0 (by rw [hx]; exact h0) (by rw [hx]; exact h1) w)
  clear hext hx0 hx
  go_wp2_with fail
  refine (HP.out _).mono ?_
  rintro e w1 ⟨rfl, hb1⟩
  have HB1 := Lib.hid hb1
  clear hb1
  go_wp2_with fail
  exact bodyPost_ret (v := .tuple #[.float .f64 0, .int .i64 0, .bool false]) (by simp [results, Tryz.results72, go_sem]; try rfl) rfl ⟨rfl, HB1.out⟩
end Go.Proofs.YtdbbmknjldapbaaGreatDoor
