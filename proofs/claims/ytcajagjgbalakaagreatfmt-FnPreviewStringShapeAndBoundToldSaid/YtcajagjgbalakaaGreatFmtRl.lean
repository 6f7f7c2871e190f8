/-
  The laws' own length of a rune, walked.
-/
import Derived.Test.YtcajagjgbalakaaGreatFmtPlainLaw
import Derived.Test.YtcajagjgbalakaaGreatFmtSays
import Derived.WalkSpells
import Derived.Laws.BitsAllLaws
import Derived.Handy
import Derived.Lib.Hide
namespace Go.Proofs.YtcajagjgbalakaaGreatFmt
set_option linter.unusedVariables false
set_option linter.unusedSimpArgs false
open Go.RowKit Go.Lib Go.Sort

/-- Reading a text at a place. -/
def Reads (s : ByteArray) (i : Int) (x : Nat) : Prop := ∀ wx : World, (Instr.index 9 (.string s) (.int .i64 i)).run Tryz.prog wx = .ok (.int .u8 (x : Int)) wx
theorem reads_at (s : ByteArray) (k : Nat) (i : Int) (hi : i = (k : Int)) (hk : k < s.size) : Reads s i (at_ s.data.toList k) := by
  intro wx
  subst hi
  rw [run_index_string wx 9 s .i64 (k : Int) Tryz.underlying9, dif_pos ⟨by omega, by omega⟩]
  have hl : k < s.data.toList.length := by rw [Array.length_toList]; exact hk
  rw [at_get _ k hl, Array.getElem_toList]
  rfl
theorem lenZ_2 (n b0 b1 b2 b3 : Nat) (h1 : 194 ≤ b0) (h2 : b0 ≤ 223) : lenZ n b0 b1 b2 b3 = if 1 < n ∧ 128 ≤ b1 ∧ b1 ≤ 191 then 2 else 0 := by
  unfold lenZ
  rw [if_neg (show ¬ b0 < 128 by omega), if_pos ⟨h1, h2⟩]
theorem lenZ_3 (n b0 b1 b2 b3 lo hi : Nat) (h1 : 224 ≤ b0) (h2 : b0 ≤ 239) (hlo : (if b0 = 224 then 160 else 128) = lo) (hhi : (if b0 = 237 then 159 else 191) = hi) : lenZ n b0 b1 b2 b3 = if 2 < n ∧ lo ≤ b1 ∧ b1 ≤ hi ∧ b2 / 64 = 2 then 3 else 0 := by
  subst hlo hhi
  unfold lenZ
  rw [if_neg (show ¬ b0 < 128 by omega), if_neg (show ¬ (194 ≤ b0 ∧ b0 ≤ 223) by omega), if_pos ⟨h1, h2⟩]
theorem lenZ_4 (n b0 b1 b2 b3 lo hi : Nat) (h1 : 240 ≤ b0) (h2 : b0 ≤ 244) (hlo : (if b0 = 240 then 144 else 128) = lo) (hhi : (if b0 = 244 then 143 else 191) = hi) : lenZ n b0 b1 b2 b3 = if 3 < n ∧ lo ≤ b1 ∧ b1 ≤ hi ∧ b2 / 64 = 2 ∧ b3 / 64 = 2 then 4 else 0 := by
  subst hlo hhi
  unfold lenZ
  rw [if_neg (show ¬ b0 < 128 by omega), if_neg (show ¬ (194 ≤ b0 ∧ b0 ≤ 223) by omega), if_neg (show ¬ (224 ≤ b0 ∧ b0 ≤ 239) by omega), if_pos ⟨h1, h2⟩]
set_option maxRecDepth 100000 in
theorem and192 : ∀ x : Fin 256, ((x.val &&& 192) == 128) = decide (x.val / 64 = 2) := by decide
set_option maxRecDepth 100000 in
theorem isCont_any (x : Nat) (hx : x < 256) (w : World) : Calls Tryz.prog 9 #[.int .u8 (x : Int)] w fun e w' => e = .returned (.bool (decide (x / 64 = 2))) ∧ Below w.heap.size w w' := by
  have h := and192 ⟨x, hx⟩
  simp only at h
  have q : bits .and .u8 (x : Int) 192 = ((x &&& 192 : Nat) : Int) := u8_and_nat x 192 hx (by omega)
  have h2 : (bits .and .u8 (x : Int) 192 == 128) = decide (x / 64 = 2) := by
    rw [q, ← h, Bool.eq_iff_iff, beq_iff_eq, beq_iff_eq]
    omega
  clear q h
  go_enter Tryz.func9, Tryz.ntmps9
  go_wp2
  go_ret
  exact ⟨by first | rfl | (rw [← h2]; rfl), by go_grown⟩
theorem cont_yes (x : Nat) (hx : x < 256) (h : x / 64 = 2) (w : World) : Calls Tryz.prog 9 #[.int .u8 (x : Int)] w fun e w' => e = .returned (.bool true) ∧ Below w.heap.size w w' :=
  (isCont_any x hx w).mono fun e w' ⟨he, hb⟩ => ⟨by rw [he, decide_eq_true h], hb⟩
theorem cont_no (x : Nat) (hx : x < 256) (h : ¬ x / 64 = 2) (w : World) : Calls Tryz.prog 9 #[.int .u8 (x : Int)] w fun e w' => e = .returned (.bool false) ∧ Below w.heap.size w w' :=
  (isCont_any x hx w).mono fun e w' ⟨he, hb⟩ => ⟨by rw [he, decide_eq_false h], hb⟩

set_option maxRecDepth 100000 in
set_option maxHeartbeats 3200000 in
theorem rl_two (s : ByteArray) (k x0 x1 x2 x3 : Nat) (hs : s.size ≤ 2097152) (hk : k < s.size) (b0 : x0 < 256) (b1 : x1 < 256) (b2 : x2 < 256) (b3 : x3 < 256) (i0 : Reads s (k : Int) x0) (i1 : k + 1 < s.size → Reads s ((k : Int) + 1) x1) (i2 : k + 2 < s.size → Reads s ((k : Int) + 2) x2) (i3 : k + 3 < s.size → Reads s ((k : Int) + 3) x3) (h1 : 194 ≤ x0) (h2 : x0 ≤ 223) (w : World) :
    Calls Tryz.prog 16 #[.string s, .int .i64 (k : Int)] w fun e w' => e = .returned (.int .i64 ((lenZ (s.size - k) x0 x1 x2 x3 : Nat) : Int)) ∧ Below w.heap.size w w' := by
  unfold Reads at i0 i1 i2 i3
  rw [show lenZ (s.size - k) x0 x1 x2 x3 = _ from lenZ_2 _ _ _ _ _ h1 h2]
  have f1 : (128 : Int) ≤ (x0 : Int) := by omega
  have f2 : ¬ (x0 : Int) < 128 := by omega
  have f3 : (194 : Int) ≤ (x0 : Int) := by omega
  have f4 : ¬ (x0 : Int) < 194 := by omega
  have f5 : (x0 : Int) ≤ 223 := by omega
  have f6 : ¬ (223 : Int) < (x0 : Int) := by omega
  clear b0
  by_cases r : s.size ≤ k + 1
  · rw [if_neg (by omega)]
    have r1 : (s.size : Int) ≤ (k : Int) + 1 := by omega
    clear i1 i2 i3
    go_enter Tryz.func16, Tryz.ntmps16
    go_wp2_with fail
    go_ret
    exact ⟨rfl, by go_grown⟩
  have r1 : ¬ (s.size : Int) ≤ (k : Int) + 1 := by omega
  have r2 : (k : Int) + 1 < (s.size : Int) := by omega
  have j1 := i1 (by omega)
  clear i1 i2 i3
  by_cases q1 : x1 < 128
  · rw [if_neg (by omega)]
    have p1 : (x1 : Int) < 128 := by omega
    go_enter Tryz.func16, Tryz.ntmps16
    go_wp2_with fail
    go_ret
    exact ⟨rfl, by go_grown⟩
  have p1 : ¬ (x1 : Int) < 128 := by omega
  have p2 : (128 : Int) ≤ (x1 : Int) := by omega
  by_cases q2 : 191 < x1
  · rw [if_neg (by omega)]
    have p3 : (191 : Int) < (x1 : Int) := by omega
    go_enter Tryz.func16, Tryz.ntmps16
    go_wp2_with fail
    go_ret
    exact ⟨rfl, by go_grown⟩
  have p3 : ¬ (191 : Int) < (x1 : Int) := by omega
  have p4 : (x1 : Int) ≤ 191 := by omega
  rw [if_pos (by omega)]
  go_enter Tryz.func16, Tryz.ntmps16
  go_wp2_with fail
  go_loopw [10] (fun vi wr => ∃ j : Nat, vi = .int .i64 (j : Int) ∧ 2 ≤ j ∧ j ≤ 2 ∧ Below w.heap.size w wr) (fun vi _ => 3 - (RowKit.intOf vi).toNat)
  case atStart => exact ⟨2, rfl, by omega, by omega, Below.refl _ _⟩
  case round =>
    obtain ⟨j, rfl, hj, hj2, hb⟩ := hrel
    obtain rfl : j = 2 := by omega
    go_wp2_with fail
    go_ret
    exact ⟨rfl, hb⟩

set_option maxRecDepth 100000 in
set_option maxHeartbeats 3200000 in
theorem rl_threeA (s : ByteArray) (k x0 x1 x2 x3 : Nat) (hs : s.size ≤ 2097152) (hk : k < s.size) (b0 : x0 < 256) (b1 : x1 < 256) (b2 : x2 < 256) (b3 : x3 < 256) (i0 : Reads s (k : Int) x0) (i1 : k + 1 < s.size → Reads s ((k : Int) + 1) x1) (i2 : k + 2 < s.size → Reads s ((k : Int) + 2) x2) (i3 : k + 3 < s.size → Reads s ((k : Int) + 3) x3) (h : x0 = 224) (w : World) :
    Calls Tryz.prog 16 #[.string s, .int .i64 (k : Int)] w fun e w' => e = .returned (.int .i64 ((lenZ (s.size - k) x0 x1 x2 x3 : Nat) : Int)) ∧ Below w.heap.size w w' := by
  unfold Reads at i0 i1 i2 i3
  rw [show lenZ (s.size - k) x0 x1 x2 x3 = _ from lenZ_3 _ _ _ _ _ 160 191 (by omega) (by omega) (by rw [if_pos h]) (by rw [if_neg (by omega)])]
  have f1 : (128 : Int) ≤ (x0 : Int) := by omega
  have f2 : ¬ (x0 : Int) < 128 := by omega
  have f3 : (194 : Int) ≤ (x0 : Int) := by omega
  have f4 : ¬ (x0 : Int) < 194 := by omega
  have f5 : (223 : Int) < (x0 : Int) := by omega
  have f6 : ¬ (x0 : Int) ≤ 223 := by omega
  have f7 : (224 : Int) ≤ (x0 : Int) := by omega
  have f8 : ¬ (x0 : Int) < 224 := by omega
  have f9 : (x0 : Int) ≤ 239 := by omega
  have f10 : ¬ (239 : Int) < (x0 : Int) := by omega
  have f11 : ((x0 : Int) == 224) = true := by rw [beq_iff_eq]; omega
  have f12 : ((x0 : Int) == 237) = false := by rw [beq_eq_false_iff_ne]; omega
  clear b0
  by_cases r : s.size ≤ k + 2
  · rw [if_neg (by omega)]
    have r1 : (s.size : Int) ≤ (k : Int) + 2 := by omega
    clear i1 i2 i3
    go_enter Tryz.func16, Tryz.ntmps16
    go_wp2_with fail
    go_ret
    exact ⟨rfl, by go_grown⟩
  have r1 : ¬ (s.size : Int) ≤ (k : Int) + 2 := by omega
  have r2 : (k : Int) + 2 < (s.size : Int) := by omega
  have j1 := i1 (by omega)
  have j2 := i2 (by omega)
  clear i1 i2 i3
  by_cases q1 : x1 < 160
  · rw [if_neg (by omega)]
    have p1 : (x1 : Int) < 160 := by omega
    go_enter Tryz.func16, Tryz.ntmps16
    go_wp2_with fail
    go_ret
    exact ⟨rfl, by go_grown⟩
  have p1 : ¬ (x1 : Int) < 160 := by omega
  have p2 : (160 : Int) ≤ (x1 : Int) := by omega
  by_cases q2 : 191 < x1
  · rw [if_neg (by omega)]
    have p3 : (191 : Int) < (x1 : Int) := by omega
    go_enter Tryz.func16, Tryz.ntmps16
    go_wp2_with fail
    go_ret
    exact ⟨rfl, by go_grown⟩
  have p3 : ¬ (191 : Int) < (x1 : Int) := by omega
  have p4 : (x1 : Int) ≤ 191 := by omega
  by_cases t2 : x2 / 64 = 2
  · rw [if_pos (by omega)]
    have Kx2 := Lib.hid (fun w => cont_yes x2 b2 t2 w)
    go_enter Tryz.func16, Tryz.ntmps16
    go_wp2_with fail
    go_loopw [10] (fun vi wr => ∃ j : Nat, vi = .int .i64 (j : Int) ∧ 2 ≤ j ∧ j ≤ 3 ∧ Below w.heap.size w wr) (fun vi _ => 4 - (RowKit.intOf vi).toNat)
    case atStart => exact ⟨2, rfl, by omega, by omega, Below.refl _ _⟩
    case round =>
      obtain ⟨j, rfl, hj, hj2, hb⟩ := hrel
      by_cases e2 : j = 2
      · subst e2
        go_wp2_with fail
        refine (Kx2.out _).mono ?_
        rintro e w1 ⟨rfl, hb1⟩
        have hb2 := hb.trans (below_of hb1 hb.size)
        go_wp2_with fail
        go_roundw
        case rel => exact ⟨3, by go_num, by omega, by omega, hb2⟩
        case measure => simp [RowKit.intOf]
      obtain rfl : j = 3 := by omega
      go_wp2_with fail
      go_ret
      exact ⟨rfl, hb⟩
  · rw [if_neg (by omega)]
    have Kx2 := Lib.hid (fun w => cont_no x2 b2 t2 w)
    go_enter Tryz.func16, Tryz.ntmps16
    go_wp2_with fail
    go_loopw [10] (fun vi wr => ∃ j : Nat, vi = .int .i64 (j : Int) ∧ 2 ≤ j ∧ j ≤ 2 ∧ Below w.heap.size w wr) (fun vi _ => 4 - (RowKit.intOf vi).toNat)
    case atStart => exact ⟨2, rfl, by omega, by omega, Below.refl _ _⟩
    case round =>
      obtain ⟨j, rfl, hj, hj2, hb⟩ := hrel
      obtain rfl : j = 2 := by omega
      go_wp2_with fail
      refine (Kx2.out _).mono ?_
      rintro e w1 ⟨rfl, hb1⟩
      have hb2 := hb.trans (below_of hb1 hb.size)
      go_wp2_with fail
      go_ret
      exact ⟨rfl, hb2⟩

set_option maxRecDepth 100000 in
set_option maxHeartbeats 3200000 in
theorem rl_threeB (s : ByteArray) (k x0 x1 x2 x3 : Nat) (hs : s.size ≤ 2097152) (hk : k < s.size) (b0 : x0 < 256) (b1 : x1 < 256) (b2 : x2 < 256) (b3 : x3 < 256) (i0 : Reads s (k : Int) x0) (i1 : k + 1 < s.size → Reads s ((k : Int) + 1) x1) (i2 : k + 2 < s.size → Reads s ((k : Int) + 2) x2) (i3 : k + 3 < s.size → Reads s ((k : Int) + 3) x3) (h : x0 = 237) (w : World) :
    Calls Tryz.prog 16 #[.string s, .int .i64 (k : Int)] w fun e w' => e = .returned (.int .i64 ((lenZ (s.size - k) x0 x1 x2 x3 : Nat) : Int)) ∧ Below w.heap.size w w' := by
  unfold Reads at i0 i1 i2 i3
  rw [show lenZ (s.size - k) x0 x1 x2 x3 = _ from lenZ_3 _ _ _ _ _ 128 159 (by omega) (by omega) (by rw [if_neg (by omega)]) (by rw [if_pos h])]
  have f1 : (128 : Int) ≤ (x0 : Int) := by omega
  have f2 : ¬ (x0 : Int) < 128 := by omega
  have f3 : (194 : Int) ≤ (x0 : Int) := by omega
  have f4 : ¬ (x0 : Int) < 194 := by omega
  have f5 : (223 : Int) < (x0 : Int) := by omega
  have f6 : ¬ (x0 : Int) ≤ 223 := by omega
  have f7 : (224 : Int) ≤ (x0 : Int) := by omega
  have f8 : ¬ (x0 : Int) < 224 := by omega
  have f9 : (x0 : Int) ≤ 239 := by omega
  have f10 : ¬ (239 : Int) < (x0 : Int) := by omega
  have f11 : ((x0 : Int) == 224) = false := by rw [beq_eq_false_iff_ne]; omega
  have f12 : ((x0 : Int) == 237) = true := by rw [beq_iff_eq]; omega
  clear b0
  by_cases r : s.size ≤ k + 2
  · rw [if_neg (by omega)]
    have r1 : (s.size : Int) ≤ (k : Int) + 2 := by omega
    clear i1 i2 i3
    go_enter Tryz.func16, Tryz.ntmps16
    go_wp2_with fail
    go_ret
    exact ⟨rfl, by go_grown⟩
  have r1 : ¬ (s.size : Int) ≤ (k : Int) + 2 := by omega
  have r2 : (k : Int) + 2 < (s.size : Int) := by omega
  have j1 := i1 (by omega)
  have j2 := i2 (by omega)
  clear i1 i2 i3
  by_cases q1 : x1 < 128
  · rw [if_neg (by omega)]
    have p1 : (x1 : Int) < 128 := by omega
    go_enter Tryz.func16, Tryz.ntmps16
    go_wp2_with fail
    go_ret
    exact ⟨rfl, by go_grown⟩
  have p1 : ¬ (x1 : Int) < 128 := by omega
  have p2 : (128 : Int) ≤ (x1 : Int) := by omega
  by_cases q2 : 159 < x1
  · rw [if_neg (by omega)]
    have p3 : (159 : Int) < (x1 : Int) := by omega
    go_enter Tryz.func16, Tryz.ntmps16
    go_wp2_with fail
    go_ret
    exact ⟨rfl, by go_grown⟩
  have p3 : ¬ (159 : Int) < (x1 : Int) := by omega
  have p4 : (x1 : Int) ≤ 159 := by omega
  by_cases t2 : x2 / 64 = 2
  · rw [if_pos (by omega)]
    have Kx2 := Lib.hid (fun w => cont_yes x2 b2 t2 w)
    go_enter Tryz.func16, Tryz.ntmps16
    go_wp2_with fail
    go_loopw [10] (fun vi wr => ∃ j : Nat, vi = .int .i64 (j : Int) ∧ 2 ≤ j ∧ j ≤ 3 ∧ Below w.heap.size w wr) (fun vi _ => 4 - (RowKit.intOf vi).toNat)
    case atStart => exact ⟨2, rfl, by omega, by omega, Below.refl _ _⟩
    case round =>
      obtain ⟨j, rfl, hj, hj2, hb⟩ := hrel
      by_cases e2 : j = 2
      · subst e2
        go_wp2_with fail
        refine (Kx2.out _).mono ?_
        rintro e w1 ⟨rfl, hb1⟩
        have hb2 := hb.trans (below_of hb1 hb.size)
        go_wp2_with fail
        go_roundw
        case rel => exact ⟨3, by go_num, by omega, by omega, hb2⟩
        case measure => simp [RowKit.intOf]
      obtain rfl : j = 3 := by omega
      go_wp2_with fail
      go_ret
      exact ⟨rfl, hb⟩
  · rw [if_neg (by omega)]
    have Kx2 := Lib.hid (fun w => cont_no x2 b2 t2 w)
    go_enter Tryz.func16, Tryz.ntmps16
    go_wp2_with fail
    go_loopw [10] (fun vi wr => ∃ j : Nat, vi = .int .i64 (j : Int) ∧ 2 ≤ j ∧ j ≤ 2 ∧ Below w.heap.size w wr) (fun vi _ => 4 - (RowKit.intOf vi).toNat)
    case atStart => exact ⟨2, rfl, by omega, by omega, Below.refl _ _⟩
    case round =>
      obtain ⟨j, rfl, hj, hj2, hb⟩ := hrel
      obtain rfl : j = 2 := by omega
      go_wp2_with fail
      refine (Kx2.out _).mono ?_
      rintro e w1 ⟨rfl, hb1⟩
      have hb2 := hb.trans (below_of hb1 hb.size)
      go_wp2_with fail
      go_ret
      exact ⟨rfl, hb2⟩

set_option maxRecDepth 100000 in
set_option maxHeartbeats 3200000 in
theorem rl_threeC (s : ByteArray) (k x0 x1 x2 x3 : Nat) (hs : s.size ≤ 2097152) (hk : k < s.size) (b0 : x0 < 256) (b1 : x1 < 256) (b2 : x2 < 256) (b3 : x3 < 256) (i0 : Reads s (k : Int) x0) (i1 : k + 1 < s.size → Reads s ((k : Int) + 1) x1) (i2 : k + 2 < s.size → Reads s ((k : Int) + 2) x2) (i3 : k + 3 < s.size → Reads s ((k : Int) + 3) x3) (h1 : 224 ≤ x0) (h2 : x0 ≤ 239) (h3 : x0 ≠ 224) (h4 : x0 ≠ 237) (w : World) :
    Calls Tryz.prog 16 #[.string s, .int .i64 (k : Int)] w fun e w' => e = .returned (.int .i64 ((lenZ (s.size - k) x0 x1 x2 x3 : Nat) : Int)) ∧ Below w.heap.size w w' := by
  unfold Reads at i0 i1 i2 i3
  rw [show lenZ (s.size - k) x0 x1 x2 x3 = _ from lenZ_3 _ _ _ _ _ 128 191 h1 h2 (by rw [if_neg h3]) (by rw [if_neg h4])]
  have f1 : (128 : Int) ≤ (x0 : Int) := by omega
  have f2 : ¬ (x0 : Int) < 128 := by omega
  have f3 : (194 : Int) ≤ (x0 : Int) := by omega
  have f4 : ¬ (x0 : Int) < 194 := by omega
  have f5 : (223 : Int) < (x0 : Int) := by omega
  have f6 : ¬ (x0 : Int) ≤ 223 := by omega
  have f7 : (224 : Int) ≤ (x0 : Int) := by omega
  have f8 : ¬ (x0 : Int) < 224 := by omega
  have f9 : (x0 : Int) ≤ 239 := by omega
  have f10 : ¬ (239 : Int) < (x0 : Int) := by omega
  have f11 : ((x0 : Int) == 224) = false := by rw [beq_eq_false_iff_ne]; omega
  have f12 : ((x0 : Int) == 237) = false := by rw [beq_eq_false_iff_ne]; omega
  clear b0
  by_cases r : s.size ≤ k + 2
  · rw [if_neg (by omega)]
    have r1 : (s.size : Int) ≤ (k : Int) + 2 := by omega
    clear i1 i2 i3
    go_enter Tryz.func16, Tryz.ntmps16
    go_wp2_with fail
    go_ret
    exact ⟨rfl, by go_grown⟩
  have r1 : ¬ (s.size : Int) ≤ (k : Int) + 2 := by omega
  have r2 : (k : Int) + 2 < (s.size : Int) := by omega
  have j1 := i1 (by omega)
  have j2 := i2 (by omega)
  clear i1 i2 i3
  by_cases q1 : x1 < 128
  · rw [if_neg (by omega)]
    have p1 : (x1 : Int) < 128 := by omega
    go_enter Tryz.func16, Tryz.ntmps16
    go_wp2_with fail
    go_ret
    exact ⟨rfl, by go_grown⟩
  have p1 : ¬ (x1 : Int) < 128 := by omega
  have p2 : (128 : Int) ≤ (x1 : Int) := by omega
  by_cases q2 : 191 < x1
  · rw [if_neg (by omega)]
    have p3 : (191 : Int) < (x1 : Int) := by omega
    go_enter Tryz.func16, Tryz.ntmps16
    go_wp2_with fail
    go_ret
    exact ⟨rfl, by go_grown⟩
  have p3 : ¬ (191 : Int) < (x1 : Int) := by omega
  have p4 : (x1 : Int) ≤ 191 := by omega
  by_cases t2 : x2 / 64 = 2
  · rw [if_pos (by omega)]
    have Kx2 := Lib.hid (fun w => cont_yes x2 b2 t2 w)
    go_enter Tryz.func16, Tryz.ntmps16
    go_wp2_with fail
    go_loopw [10] (fun vi wr => ∃ j : Nat, vi = .int .i64 (j : Int) ∧ 2 ≤ j ∧ j ≤ 3 ∧ Below w.heap.size w wr) (fun vi _ => 4 - (RowKit.intOf vi).toNat)
    case atStart => exact ⟨2, rfl, by omega, by omega, Below.refl _ _⟩
    case round =>
      obtain ⟨j, rfl, hj, hj2, hb⟩ := hrel
      by_cases e2 : j = 2
      · subst e2
        go_wp2_with fail
        refine (Kx2.out _).mono ?_
        rintro e w1 ⟨rfl, hb1⟩
        have hb2 := hb.trans (below_of hb1 hb.size)
        go_wp2_with fail
        go_roundw
        case rel => exact ⟨3, by go_num, by omega, by omega, hb2⟩
        case measure => simp [RowKit.intOf]
      obtain rfl : j = 3 := by omega
      go_wp2_with fail
      go_ret
      exact ⟨rfl, hb⟩
  · rw [if_neg (by omega)]
    have Kx2 := Lib.hid (fun w => cont_no x2 b2 t2 w)
    go_enter Tryz.func16, Tryz.ntmps16
    go_wp2_with fail
    go_loopw [10] (fun vi wr => ∃ j : Nat, vi = .int .i64 (j : Int) ∧ 2 ≤ j ∧ j ≤ 2 ∧ Below w.heap.size w wr) (fun vi _ => 4 - (RowKit.intOf vi).toNat)
    case atStart => exact ⟨2, rfl, by omega, by omega, Below.refl _ _⟩
    case round =>
      obtain ⟨j, rfl, hj, hj2, hb⟩ := hrel
      obtain rfl : j = 2 := by omega
      go_wp2_with fail
      refine (Kx2.out _).mono ?_
      rintro e w1 ⟨rfl, hb1⟩
      have hb2 := hb.trans (below_of hb1 hb.size)
      go_wp2_with fail
      go_ret
      exact ⟨rfl, hb2⟩

set_option maxRecDepth 100000 in
set_option maxHeartbeats 3200000 in
theorem rl_fourA (s : ByteArray) (k x0 x1 x2 x3 : Nat) (hs : s.size ≤ 2097152) (hk : k < s.size) (b0 : x0 < 256) (b1 : x1 < 256) (b2 : x2 < 256) (b3 : x3 < 256) (i0 : Reads s (k : Int) x0) (i1 : k + 1 < s.size → Reads s ((k : Int) + 1) x1) (i2 : k + 2 < s.size → Reads s ((k : Int) + 2) x2) (i3 : k + 3 < s.size → Reads s ((k : Int) + 3) x3) (h : x0 = 240) (w : World) :
    Calls Tryz.prog 16 #[.string s, .int .i64 (k : Int)] w fun e w' => e = .returned (.int .i64 ((lenZ (s.size - k) x0 x1 x2 x3 : Nat) : Int)) ∧ Below w.heap.size w w' := by
  unfold Reads at i0 i1 i2 i3
  rw [show lenZ (s.size - k) x0 x1 x2 x3 = _ from lenZ_4 _ _ _ _ _ 144 191 (by omega) (by omega) (by rw [if_pos h]) (by rw [if_neg (by omega)])]
  have f1 : (128 : Int) ≤ (x0 : Int) := by omega
  have f2 : ¬ (x0 : Int) < 128 := by omega
  have f3 : (194 : Int) ≤ (x0 : Int) := by omega
  have f4 : ¬ (x0 : Int) < 194 := by omega
  have f5 : (223 : Int) < (x0 : Int) := by omega
  have f6 : ¬ (x0 : Int) ≤ 223 := by omega
  have f7 : (224 : Int) ≤ (x0 : Int) := by omega
  have f8 : ¬ (x0 : Int) < 224 := by omega
  have f9 : (239 : Int) < (x0 : Int) := by omega
  have f10 : ¬ (x0 : Int) ≤ 239 := by omega
  have f11 : (240 : Int) ≤ (x0 : Int) := by omega
  have f12 : ¬ (x0 : Int) < 240 := by omega
  have f13 : (x0 : Int) ≤ 244 := by omega
  have f14 : ¬ (244 : Int) < (x0 : Int) := by omega
  have f15 : ((x0 : Int) == 240) = true := by rw [beq_iff_eq]; omega
  have f16 : ((x0 : Int) == 244) = false := by rw [beq_eq_false_iff_ne]; omega
  clear b0
  by_cases r : s.size ≤ k + 3
  · rw [if_neg (by omega)]
    have r1 : (s.size : Int) ≤ (k : Int) + 3 := by omega
    clear i1 i2 i3
    go_enter Tryz.func16, Tryz.ntmps16
    go_wp2_with fail
    go_ret
    exact ⟨rfl, by go_grown⟩
  have r1 : ¬ (s.size : Int) ≤ (k : Int) + 3 := by omega
  have r2 : (k : Int) + 3 < (s.size : Int) := by omega
  have j1 := i1 (by omega)
  have j2 := i2 (by omega)
  have j3 := i3 (by omega)
  clear i1 i2 i3
  by_cases q1 : x1 < 144
  · rw [if_neg (by omega)]
    have p1 : (x1 : Int) < 144 := by omega
    go_enter Tryz.func16, Tryz.ntmps16
    go_wp2_with fail
    go_ret
    exact ⟨rfl, by go_grown⟩
  have p1 : ¬ (x1 : Int) < 144 := by omega
  have p2 : (144 : Int) ≤ (x1 : Int) := by omega
  by_cases q2 : 191 < x1
  · rw [if_neg (by omega)]
    have p3 : (191 : Int) < (x1 : Int) := by omega
    go_enter Tryz.func16, Tryz.ntmps16
    go_wp2_with fail
    go_ret
    exact ⟨rfl, by go_grown⟩
  have p3 : ¬ (191 : Int) < (x1 : Int) := by omega
  have p4 : (x1 : Int) ≤ 191 := by omega
  by_cases t2 : x2 / 64 = 2
  · by_cases t3 : x3 / 64 = 2
    · rw [if_pos (by omega)]
      have Kx2 := Lib.hid (fun w => cont_yes x2 b2 t2 w)
      have Kx3 := Lib.hid (fun w => cont_yes x3 b3 t3 w)
      go_enter Tryz.func16, Tryz.ntmps16
      go_wp2_with fail
      go_loopw [10] (fun vi wr => ∃ j : Nat, vi = .int .i64 (j : Int) ∧ 2 ≤ j ∧ j ≤ 4 ∧ Below w.heap.size w wr) (fun vi _ => 5 - (RowKit.intOf vi).toNat)
      case atStart => exact ⟨2, rfl, by omega, by omega, Below.refl _ _⟩
      case round =>
        obtain ⟨j, rfl, hj, hj2, hb⟩ := hrel
        by_cases e2 : j = 2
        · subst e2
          go_wp2_with fail
          refine (Kx2.out _).mono ?_
          rintro e w1 ⟨rfl, hb1⟩
          have hb2 := hb.trans (below_of hb1 hb.size)
          go_wp2_with fail
          go_roundw
          case rel => exact ⟨3, by go_num, by omega, by omega, hb2⟩
          case measure => simp [RowKit.intOf]
        by_cases e3 : j = 3
        · subst e3
          go_wp2_with fail
          refine (Kx3.out _).mono ?_
          rintro e w1 ⟨rfl, hb1⟩
          have hb2 := hb.trans (below_of hb1 hb.size)
          go_wp2_with fail
          go_roundw
          case rel => exact ⟨4, by go_num, by omega, by omega, hb2⟩
          case measure => simp [RowKit.intOf]
        obtain rfl : j = 4 := by omega
        go_wp2_with fail
        go_ret
        exact ⟨rfl, hb⟩
    · rw [if_neg (by omega)]
      have Kx2 := Lib.hid (fun w => cont_yes x2 b2 t2 w)
      have Kx3 := Lib.hid (fun w => cont_no x3 b3 t3 w)
      go_enter Tryz.func16, Tryz.ntmps16
      go_wp2_with fail
      go_loopw [10] (fun vi wr => ∃ j : Nat, vi = .int .i64 (j : Int) ∧ 2 ≤ j ∧ j ≤ 3 ∧ Below w.heap.size w wr) (fun vi _ => 5 - (RowKit.intOf vi).toNat)
      case atStart => exact ⟨2, rfl, by omega, by omega, Below.refl _ _⟩
      case round =>
        obtain ⟨j, rfl, hj, hj2, hb⟩ := hrel
        by_cases e2 : j = 2
        · subst e2
          go_wp2_with fail
          refine (Kx2.out _).mono ?_
          rintro e w1 ⟨rfl, hb1⟩
          have hb2 := hb.trans (below_of hb1 hb.size)
          go_wp2_with fail
          go_roundw
          case rel => exact ⟨3, by go_num, by omega, by omega, hb2⟩
          case measure => simp [RowKit.intOf]
        obtain rfl : j = 3 := by omega
        go_wp2_with fail
        refine (Kx3.out _).mono ?_
        rintro e w1 ⟨rfl, hb1⟩
        have hb2 := hb.trans (below_of hb1 hb.size)
        go_wp2_with fail
        go_ret
        exact ⟨rfl, hb2⟩
  · rw [if_neg (by omega)]
    have Kx2 := Lib.hid (fun w => cont_no x2 b2 t2 w)
    go_enter Tryz.func16, Tryz.ntmps16
    go_wp2_with fail
    go_loopw [10] (fun vi wr => ∃ j : Nat, vi = .int .i64 (j : Int) ∧ 2 ≤ j ∧ j ≤ 2 ∧ Below w.heap.size w wr) (fun vi _ => 5 - (RowKit.intOf vi).toNat)
    case atStart => exact ⟨2, rfl, by omega, by omega, Below.refl _ _⟩
    case round =>
      obtain ⟨j, rfl, hj, hj2, hb⟩ := hrel
      obtain rfl : j = 2 := by omega
      go_wp2_with fail
      refine (Kx2.out _).mono ?_
      rintro e w1 ⟨rfl, hb1⟩
      have hb2 := hb.trans (below_of hb1 hb.size)
      go_wp2_with fail
      go_ret
      exact ⟨rfl, hb2⟩

set_option maxRecDepth 100000 in
set_option maxHeartbeats 3200000 in
theorem rl_fourB (s : ByteArray) (k x0 x1 x2 x3 : Nat) (hs : s.size ≤ 2097152) (hk : k < s.size) (b0 : x0 < 256) (b1 : x1 < 256) (b2 : x2 < 256) (b3 : x3 < 256) (i0 : Reads s (k : Int) x0) (i1 : k + 1 < s.size → Reads s ((k : Int) + 1) x1) (i2 : k + 2 < s.size → Reads s ((k : Int) + 2) x2) (i3 : k + 3 < s.size → Reads s ((k : Int) + 3) x3) (h : x0 = 244) (w : World) :
    Calls Tryz.prog 16 #[.string s, .int .i64 (k : Int)] w fun e w' => e = .returned (.int .i64 ((lenZ (s.size - k) x0 x1 x2 x3 : Nat) : Int)) ∧ Below w.heap.size w w' := by
  unfold Reads at i0 i1 i2 i3
  rw [show lenZ (s.size - k) x0 x1 x2 x3 = _ from lenZ_4 _ _ _ _ _ 128 143 (by omega) (by omega) (by rw [if_neg (by omega)]) (by rw [if_pos h])]
  have f1 : (128 : Int) ≤ (x0 : Int) := by omega
  have f2 : ¬ (x0 : Int) < 128 := by omega
  have f3 : (194 : Int) ≤ (x0 : Int) := by omega
  have f4 : ¬ (x0 : Int) < 194 := by omega
  have f5 : (223 : Int) < (x0 : Int) := by omega
  have f6 : ¬ (x0 : Int) ≤ 223 := by omega
  have f7 : (224 : Int) ≤ (x0 : Int) := by omega
  have f8 : ¬ (x0 : Int) < 224 := by omega
  have f9 : (239 : Int) < (x0 : Int) := by omega
  have f10 : ¬ (x0 : Int) ≤ 239 := by omega
  have f11 : (240 : Int) ≤ (x0 : Int) := by omega
  have f12 : ¬ (x0 : Int) < 240 := by omega
  have f13 : (x0 : Int) ≤ 244 := by omega
  have f14 : ¬ (244 : Int) < (x0 : Int) := by omega
  have f15 : ((x0 : Int) == 240) = false := by rw [beq_eq_false_iff_ne]; omega
  have f16 : ((x0 : Int) == 244) = true := by rw [beq_iff_eq]; omega
  clear b0
  by_cases r : s.size ≤ k + 3
  · rw [if_neg (by omega)]
    have r1 : (s.size : Int) ≤ (k : Int) + 3 := by omega
    clear i1 i2 i3
    go_enter Tryz.func16, Tryz.ntmps16
    go_wp2_with fail
    go_ret
    exact ⟨rfl, by go_grown⟩
  have r1 : ¬ (s.size : Int) ≤ (k : Int) + 3 := by omega
  have r2 : (k : Int) + 3 < (s.size : Int) := by omega
  have j1 := i1 (by omega)
  have j2 := i2 (by omega)
  have j3 := i3 (by omega)
  clear i1 i2 i3
  by_cases q1 : x1 < 128
  · rw [if_neg (by omega)]
    have p1 : (x1 : Int) < 128 := by omega
    go_enter Tryz.func16, Tryz.ntmps16
    go_wp2_with fail
    go_ret
    exact ⟨rfl, by go_grown⟩
  have p1 : ¬ (x1 : Int) < 128 := by omega
  have p2 : (128 : Int) ≤ (x1 : Int) := by omega
  by_cases q2 : 143 < x1
  · rw [if_neg (by omega)]
    have p3 : (143 : Int) < (x1 : Int) := by omega
    go_enter Tryz.func16, Tryz.ntmps16
    go_wp2_with fail
    go_ret
    exact ⟨rfl, by go_grown⟩
  have p3 : ¬ (143 : Int) < (x1 : Int) := by omega
  have p4 : (x1 : Int) ≤ 143 := by omega
  by_cases t2 : x2 / 64 = 2
  · by_cases t3 : x3 / 64 = 2
    · rw [if_pos (by omega)]
      have Kx2 := Lib.hid (fun w => cont_yes x2 b2 t2 w)
      have Kx3 := Lib.hid (fun w => cont_yes x3 b3 t3 w)
      go_enter Tryz.func16, Tryz.ntmps16
      go_wp2_with fail
      go_loopw [10] (fun vi wr => ∃ j : Nat, vi = .int .i64 (j : Int) ∧ 2 ≤ j ∧ j ≤ 4 ∧ Below w.heap.size w wr) (fun vi _ => 5 - (RowKit.intOf vi).toNat)
      case atStart => exact ⟨2, rfl, by omega, by omega, Below.refl _ _⟩
      case round =>
        obtain ⟨j, rfl, hj, hj2, hb⟩ := hrel
        by_cases e2 : j = 2
        · subst e2
          go_wp2_with fail
          refine (Kx2.out _).mono ?_
          rintro e w1 ⟨rfl, hb1⟩
          have hb2 := hb.trans (below_of hb1 hb.size)
          go_wp2_with fail
          go_roundw
          case rel => exact ⟨3, by go_num, by omega, by omega, hb2⟩
          case measure => simp [RowKit.intOf]
        by_cases e3 : j = 3
        · subst e3
          go_wp2_with fail
          refine (Kx3.out _).mono ?_
          rintro e w1 ⟨rfl, hb1⟩
          have hb2 := hb.trans (below_of hb1 hb.size)
          go_wp2_with fail
          go_roundw
          case rel => exact ⟨4, by go_num, by omega, by omega, hb2⟩
          case measure => simp [RowKit.intOf]
        obtain rfl : j = 4 := by omega
        go_wp2_with fail
        go_ret
        exact ⟨rfl, hb⟩
    · rw [if_neg (by omega)]
      have Kx2 := Lib.hid (fun w => cont_yes x2 b2 t2 w)
      have Kx3 := Lib.hid (fun w => cont_no x3 b3 t3 w)
      go_enter Tryz.func16, Tryz.ntmps16
      go_wp2_with fail
      go_loopw [10] (fun vi wr => ∃ j : Nat, vi = .int .i64 (j : Int) ∧ 2 ≤ j ∧ j ≤ 3 ∧ Below w.heap.size w wr) (fun vi _ => 5 - (RowKit.intOf vi).toNat)
      case atStart => exact ⟨2, rfl, by omega, by omega, Below.refl _ _⟩
      case round =>
        obtain ⟨j, rfl, hj, hj2, hb⟩ := hrel
        by_cases e2 : j = 2
        · subst e2
          go_wp2_with fail
          refine (Kx2.out _).mono ?_
          rintro e w1 ⟨rfl, hb1⟩
          have hb2 := hb.trans (below_of hb1 hb.size)
          go_wp2_with fail
          go_roundw
          case rel => exact ⟨3, by go_num, by omega, by omega, hb2⟩
          case measure => simp [RowKit.intOf]
        obtain rfl : j = 3 := by omega
        go_wp2_with fail
        refine (Kx3.out _).mono ?_
        rintro e w1 ⟨rfl, hb1⟩
        have hb2 := hb.trans (below_of hb1 hb.size)
        go_wp2_with fail
        go_ret
        exact ⟨rfl, hb2⟩
  · rw [if_neg (by omega)]
    have Kx2 := Lib.hid (fun w => cont_no x2 b2 t2 w)
    go_enter Tryz.func16, Tryz.ntmps16
    go_wp2_with fail
    go_loopw [10] (fun vi wr => ∃ j : Nat, vi = .int .i64 (j : Int) ∧ 2 ≤ j ∧ j ≤ 2 ∧ Below w.heap.size w wr) (fun vi _ => 5 - (RowKit.intOf vi).toNat)
    case atStart => exact ⟨2, rfl, by omega, by omega, Below.refl _ _⟩
    case round =>
      obtain ⟨j, rfl, hj, hj2, hb⟩ := hrel
      obtain rfl : j = 2 := by omega
      go_wp2_with fail
      refine (Kx2.out _).mono ?_
      rintro e w1 ⟨rfl, hb1⟩
      have hb2 := hb.trans (below_of hb1 hb.size)
      go_wp2_with fail
      go_ret
      exact ⟨rfl, hb2⟩

set_option maxRecDepth 100000 in
set_option maxHeartbeats 3200000 in
theorem rl_fourC (s : ByteArray) (k x0 x1 x2 x3 : Nat) (hs : s.size ≤ 2097152) (hk : k < s.size) (b0 : x0 < 256) (b1 : x1 < 256) (b2 : x2 < 256) (b3 : x3 < 256) (i0 : Reads s (k : Int) x0) (i1 : k + 1 < s.size → Reads s ((k : Int) + 1) x1) (i2 : k + 2 < s.size → Reads s ((k : Int) + 2) x2) (i3 : k + 3 < s.size → Reads s ((k : Int) + 3) x3) (h1 : 240 ≤ x0) (h2 : x0 ≤ 244) (h3 : x0 ≠ 240) (h4 : x0 ≠ 244) (w : World) :
    Calls Tryz.prog 16 #[.string s, .int .i64 (k : Int)] w fun e w' => e = .returned (.int .i64 ((lenZ (s.size - k) x0 x1 x2 x3 : Nat) : Int)) ∧ Below w.heap.size w w' := by
  unfold Reads at i0 i1 i2 i3
  rw [show lenZ (s.size - k) x0 x1 x2 x3 = _ from lenZ_4 _ _ _ _ _ 128 191 h1 h2 (by rw [if_neg h3]) (by rw [if_neg h4])]
  have f1 : (128 : Int) ≤ (x0 : Int) := by omega
  have f2 : ¬ (x0 : Int) < 128 := by omega
  have f3 : (194 : Int) ≤ (x0 : Int) := by omega
  have f4 : ¬ (x0 : Int) < 194 := by omega
  have f5 : (223 : Int) < (x0 : Int) := by omega
  have f6 : ¬ (x0 : Int) ≤ 223 := by omega
  have f7 : (224 : Int) ≤ (x0 : Int) := by omega
  have f8 : ¬ (x0 : Int) < 224 := by omega
  have f9 : (239 : Int) < (x0 : Int) := by omega
  have f10 : ¬ (x0 : Int) ≤ 239 := by omega
  have f11 : (240 : Int) ≤ (x0 : Int) := by omega
  have f12 : ¬ (x0 : Int) < 240 := by omega
  have f13 : (x0 : Int) ≤ 244 := by omega
  have f14 : ¬ (244 : Int) < (x0 : Int) := by omega
  have f15 : ((x0 : Int) == 240) = false := by rw [beq_eq_false_iff_ne]; omega
  have f16 : ((x0 : Int) == 244) = false := by rw [beq_eq_false_iff_ne]; omega
  clear b0
  by_cases r : s.size ≤ k + 3
  · rw [if_neg (by omega)]
    have r1 : (s.size : Int) ≤ (k : Int) + 3 := by omega
    clear i1 i2 i3
    go_enter Tryz.func16, Tryz.ntmps16
    go_wp2_with fail
    go_ret
    exact ⟨rfl, by go_grown⟩
  have r1 : ¬ (s.size : Int) ≤ (k : Int) + 3 := by omega
  have r2 : (k : Int) + 3 < (s.size : Int) := by omega
  have j1 := i1 (by omega)
  have j2 := i2 (by omega)
  have j3 := i3 (by omega)
  clear i1 i2 i3
  by_cases q1 : x1 < 128
  · rw [if_neg (by omega)]
    have p1 : (x1 : Int) < 128 := by omega
    go_enter Tryz.func16, Tryz.ntmps16
    go_wp2_with fail
    go_ret
    exact ⟨rfl, by go_grown⟩
  have p1 : ¬ (x1 : Int) < 128 := by omega
  have p2 : (128 : Int) ≤ (x1 : Int) := by omega
  by_cases q2 : 191 < x1
  · rw [if_neg (by omega)]
    have p3 : (191 : Int) < (x1 : Int) := by omega
    go_enter Tryz.func16, Tryz.ntmps16
    go_wp2_with fail
    go_ret
    exact ⟨rfl, by go_grown⟩
  have p3 : ¬ (191 : Int) < (x1 : Int) := by omega
  have p4 : (x1 : Int) ≤ 191 := by omega
  by_cases t2 : x2 / 64 = 2
  · by_cases t3 : x3 / 64 = 2
    · rw [if_pos (by omega)]
      have Kx2 := Lib.hid (fun w => cont_yes x2 b2 t2 w)
      have Kx3 := Lib.hid (fun w => cont_yes x3 b3 t3 w)
      go_enter Tryz.func16, Tryz.ntmps16
      go_wp2_with fail
      go_loopw [10] (fun vi wr => ∃ j : Nat, vi = .int .i64 (j : Int) ∧ 2 ≤ j ∧ j ≤ 4 ∧ Below w.heap.size w wr) (fun vi _ => 5 - (RowKit.intOf vi).toNat)
      case atStart => exact ⟨2, rfl, by omega, by omega, Below.refl _ _⟩
      case round =>
        obtain ⟨j, rfl, hj, hj2, hb⟩ := hrel
        by_cases e2 : j = 2
        · subst e2
          go_wp2_with fail
          refine (Kx2.out _).mono ?_
          rintro e w1 ⟨rfl, hb1⟩
          have hb2 := hb.trans (below_of hb1 hb.size)
          go_wp2_with fail
          go_roundw
          case rel => exact ⟨3, by go_num, by omega, by omega, hb2⟩
          case measure => simp [RowKit.intOf]
        by_cases e3 : j = 3
        · subst e3
          go_wp2_with fail
          refine (Kx3.out _).mono ?_
          rintro e w1 ⟨rfl, hb1⟩
          have hb2 := hb.trans (below_of hb1 hb.size)
          go_wp2_with fail
          go_roundw
          case rel => exact ⟨4, by go_num, by omega, by omega, hb2⟩
          case measure => simp [RowKit.intOf]
        obtain rfl : j = 4 := by omega
        go_wp2_with fail
        go_ret
        exact ⟨rfl, hb⟩
    · rw [if_neg (by omega)]
      have Kx2 := Lib.hid (fun w => cont_yes x2 b2 t2 w)
      have Kx3 := Lib.hid (fun w => cont_no x3 b3 t3 w)
      go_enter Tryz.func16, Tryz.ntmps16
      go_wp2_with fail
      go_loopw [10] (fun vi wr => ∃ j : Nat, vi = .int .i64 (j : Int) ∧ 2 ≤ j ∧ j ≤ 3 ∧ Below w.heap.size w wr) (fun vi _ => 5 - (RowKit.intOf vi).toNat)
      case atStart => exact ⟨2, rfl, by omega, by omega, Below.refl _ _⟩
      case round =>
        obtain ⟨j, rfl, hj, hj2, hb⟩ := hrel
        by_cases e2 : j = 2
        · subst e2
          go_wp2_with fail
          refine (Kx2.out _).mono ?_
          rintro e w1 ⟨rfl, hb1⟩
          have hb2 := hb.trans (below_of hb1 hb.size)
          go_wp2_with fail
          go_roundw
          case rel => exact ⟨3, by go_num, by omega, by omega, hb2⟩
          case measure => simp [RowKit.intOf]
        obtain rfl : j = 3 := by omega
        go_wp2_with fail
        refine (Kx3.out _).mono ?_
        rintro e w1 ⟨rfl, hb1⟩
        have hb2 := hb.trans (below_of hb1 hb.size)
        go_wp2_with fail
        go_ret
        exact ⟨rfl, hb2⟩
  · rw [if_neg (by omega)]
    have Kx2 := Lib.hid (fun w => cont_no x2 b2 t2 w)
    go_enter Tryz.func16, Tryz.ntmps16
    go_wp2_with fail
    go_loopw [10] (fun vi wr => ∃ j : Nat, vi = .int .i64 (j : Int) ∧ 2 ≤ j ∧ j ≤ 2 ∧ Below w.heap.size w wr) (fun vi _ => 5 - (RowKit.intOf vi).toNat)
    case atStart => exact ⟨2, rfl, by omega, by omega, Below.refl _ _⟩
    case round =>
      obtain ⟨j, rfl, hj, hj2, hb⟩ := hrel
      obtain rfl : j = 2 := by omega
      go_wp2_with fail
      refine (Kx2.out _).mono ?_
      rintro e w1 ⟨rfl, hb1⟩
      have hb2 := hb.trans (below_of hb1 hb.size)
      go_wp2_with fail
      go_ret
      exact ⟨rfl, hb2⟩

set_option maxRecDepth 100000 in
set_option maxHeartbeats 1600000 in
theorem rl_one (s : ByteArray) (k x0 x1 x2 x3 : Nat) (hs : s.size ≤ 2097152) (hk : k < s.size) (b0 : x0 < 256) (b1 : x1 < 256) (b2 : x2 < 256) (b3 : x3 < 256) (i0 : Reads s (k : Int) x0) (i1 : k + 1 < s.size → Reads s ((k : Int) + 1) x1) (i2 : k + 2 < s.size → Reads s ((k : Int) + 2) x2) (i3 : k + 3 < s.size → Reads s ((k : Int) + 3) x3) (h : x0 < 128) (w : World) :
    Calls Tryz.prog 16 #[.string s, .int .i64 (k : Int)] w fun e w' => e = .returned (.int .i64 ((lenZ (s.size - k) x0 x1 x2 x3 : Nat) : Int)) ∧ Below w.heap.size w w' := by
  unfold Reads at i0 i1 i2 i3
  rw [show lenZ (s.size - k) x0 x1 x2 x3 = 1 from by unfold lenZ; rw [if_pos h]]
  have f1 : (x0 : Int) < 128 := by omega
  clear i1 i2 i3
  go_enter Tryz.func16, Tryz.ntmps16
  go_wp2_with fail
  go_ret
  exact ⟨rfl, by go_grown⟩

set_option maxRecDepth 100000 in
set_option maxHeartbeats 1600000 in
theorem rl_none (s : ByteArray) (k x0 x1 x2 x3 : Nat) (hs : s.size ≤ 2097152) (hk : k < s.size) (b0 : x0 < 256) (b1 : x1 < 256) (b2 : x2 < 256) (b3 : x3 < 256) (i0 : Reads s (k : Int) x0) (i1 : k + 1 < s.size → Reads s ((k : Int) + 1) x1) (i2 : k + 2 < s.size → Reads s ((k : Int) + 2) x2) (i3 : k + 3 < s.size → Reads s ((k : Int) + 3) x3) (h : (128 ≤ x0 ∧ x0 < 194) ∨ 244 < x0) (w : World) :
    Calls Tryz.prog 16 #[.string s, .int .i64 (k : Int)] w fun e w' => e = .returned (.int .i64 ((lenZ (s.size - k) x0 x1 x2 x3 : Nat) : Int)) ∧ Below w.heap.size w w' := by
  unfold Reads at i0 i1 i2 i3
  rw [show lenZ (s.size - k) x0 x1 x2 x3 = 0 from by unfold lenZ; rw [if_neg (show ¬ x0 < 128 by omega), if_neg (show ¬ (194 ≤ x0 ∧ x0 ≤ 223) by omega), if_neg (show ¬ (224 ≤ x0 ∧ x0 ≤ 239) by omega), if_neg (show ¬ (240 ≤ x0 ∧ x0 ≤ 244) by omega)]]
  clear i1 i2 i3
  have f0 : ¬ (x0 : Int) < 128 := by omega
  rcases h with ⟨h1, h2⟩ | h
  · have g0 : (x0 : Int) < 194 := by omega
    have g1 : ¬ (194 : Int) ≤ (x0 : Int) := by omega
    have g2 : (x0 : Int) < 224 := by omega
    have g3 : ¬ (224 : Int) ≤ (x0 : Int) := by omega
    have g4 : (x0 : Int) < 240 := by omega
    have g5 : ¬ (240 : Int) ≤ (x0 : Int) := by omega
    go_enter Tryz.func16, Tryz.ntmps16
    go_wp2_with fail
    go_ret
    exact ⟨rfl, by go_grown⟩
  · have g0 : (194 : Int) ≤ (x0 : Int) := by omega
    have g1 : ¬ (x0 : Int) < 194 := by omega
    have g2 : (223 : Int) < (x0 : Int) := by omega
    have g3 : ¬ (x0 : Int) ≤ 223 := by omega
    have g4 : (224 : Int) ≤ (x0 : Int) := by omega
    have g5 : ¬ (x0 : Int) < 224 := by omega
    have g6 : (239 : Int) < (x0 : Int) := by omega
    have g7 : ¬ (x0 : Int) ≤ 239 := by omega
    have g8 : (240 : Int) ≤ (x0 : Int) := by omega
    have g9 : ¬ (x0 : Int) < 240 := by omega
    have g10 : (244 : Int) < (x0 : Int) := by omega
    have g11 : ¬ (x0 : Int) ≤ 244 := by omega
    go_enter Tryz.func16, Tryz.ntmps16
    go_wp2_with fail
    go_ret
    exact ⟨rfl, by go_grown⟩

theorem rl_any (s : ByteArray) (k : Nat) (hs : s.size ≤ 2097152) (hk : k < s.size) (w : World) :
    Calls Tryz.prog 16 #[.string s, .int .i64 (k : Int)] w fun e w' => e = .returned (.int .i64 ((lenAt s.data.toList k : Nat) : Int)) ∧ Below w.heap.size w w' := by
  have hl : s.data.toList.length = s.size := by rw [Array.length_toList]; rfl
  have i0 := reads_at s k (k : Int) rfl hk
  have i1 := fun h => reads_at s (k + 1) ((k : Int) + 1) (by omega) h
  have i2 := fun h => reads_at s (k + 2) ((k : Int) + 2) (by omega) h
  have i3 := fun h => reads_at s (k + 3) ((k : Int) + 3) (by omega) h
  have b0 := at_lt s.data.toList k
  have b1 := at_lt s.data.toList (k + 1)
  have b2 := at_lt s.data.toList (k + 2)
  have b3 := at_lt s.data.toList (k + 3)
  unfold lenAt
  rw [hl]
  generalize at_ s.data.toList k = x0 at *
  generalize at_ s.data.toList (k + 1) = x1 at *
  generalize at_ s.data.toList (k + 2) = x2 at *
  generalize at_ s.data.toList (k + 3) = x3 at *
  by_cases c0 : x0 < 128
  · exact rl_one s k x0 x1 x2 x3 hs hk b0 b1 b2 b3 i0 i1 i2 i3 c0 w
  by_cases c1 : x0 < 194 ∨ 244 < x0
  · exact rl_none s k x0 x1 x2 x3 hs hk b0 b1 b2 b3 i0 i1 i2 i3 (by omega) w
  by_cases c2 : x0 ≤ 223
  · exact rl_two s k x0 x1 x2 x3 hs hk b0 b1 b2 b3 i0 i1 i2 i3 (by omega) c2 w
  by_cases c3 : x0 ≤ 239
  · by_cases d1 : x0 = 224
    · exact rl_threeA s k x0 x1 x2 x3 hs hk b0 b1 b2 b3 i0 i1 i2 i3 d1 w
    by_cases d2 : x0 = 237
    · exact rl_threeB s k x0 x1 x2 x3 hs hk b0 b1 b2 b3 i0 i1 i2 i3 d2 w
    exact rl_threeC s k x0 x1 x2 x3 hs hk b0 b1 b2 b3 i0 i1 i2 i3 (by omega) c3 d1 d2 w
  · by_cases d1 : x0 = 240
    · exact rl_fourA s k x0 x1 x2 x3 hs hk b0 b1 b2 b3 i0 i1 i2 i3 d1 w
    by_cases d2 : x0 = 244
    · exact rl_fourB s k x0 x1 x2 x3 hs hk b0 b1 b2 b3 i0 i1 i2 i3 d2 w
    exact rl_fourC s k x0 x1 x2 x3 hs hk b0 b1 b2 b3 i0 i1 i2 i3 (by omega) (by omega) d1 d2 w
end Go.Proofs.YtcajagjgbalakaaGreatFmt
