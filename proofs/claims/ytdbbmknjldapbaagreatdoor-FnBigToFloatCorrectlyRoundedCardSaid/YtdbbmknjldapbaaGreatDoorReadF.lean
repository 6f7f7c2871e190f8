/-
  The library's reader of a float's text (internal/strconv), walked over a decimal numeral.
-/
import Derived.Test.YtdbbmknjldapbaaGreatDoorParse
import Derived.Test.YtdbbmknjldapbaaGreatDoorSays
import Derived.WalkSpells
import Derived.Handy
import Derived.Lib.Hide
import Derived.Lib.ItoaMem
import Derived.WalkMore
namespace Go.Proofs.YtdbbmknjldapbaaGreatDoor
set_option linter.unusedVariables false
set_option linter.unusedSimpArgs false
open Go.RowKit Go.Lib Go.Sort

/-- What the reader meets: digits D behind i0 other bytes. -/
structure NumAt (s : ByteArray) (i0 : Nat) (D : List UInt8) : Prop where
  size : s.size = D.length + i0
  pos : 1 ≤ D.length
  le : D.length ≤ 19
  at_ : ∀ (k : Nat) (h : k < D.length) (h' : k + i0 < s.size), s[k + i0] = D[k]
  dig : ∀ (k : Nat) (h : k < D.length), 48 ≤ D[k].toNat ∧ D[k].toNat ≤ 57
theorem NumAt.at_k {s : ByteArray} {i0 : Nat} {D : List UInt8} (h : NumAt s i0 D) (k : Nat) (hk : k < D.length) : s[k + i0]'(by rw [h.size]; omega) = D[k] ∧ 48 ≤ D[k].toNat ∧ D[k].toNat ≤ 57 :=
  ⟨h.at_ k hk _, h.dig k hk⟩
theorem bool_true (b : Bool) (w : World) : (binOp .eql 4 (.bool true) (.bool b)).run Tryz.prog w = .ok (.bool b) w := by cases b <;> kernel_rfl
theorem fold_lt : ∀ (l : List UInt8) (v : Nat), (∀ b ∈ l, b.toNat ≤ 57) → l.foldl (fun v b => v * 10 + (b.toNat - 48)) v < (v + 1) * 10 ^ l.length
  | [], v, _ => by simp
  | b :: t, v, h => by
    rw [List.foldl_cons, List.length_cons]
    refine Nat.lt_of_lt_of_le (fold_lt t _ (fun x hx => h x (List.mem_cons_of_mem _ hx))) ?_
    have hb := h b (List.mem_cons_self ..)
    rw [show 10 ^ (t.length + 1) = 10 * 10 ^ t.length from Nat.pow_succ', ← Nat.mul_assoc]
    exact Nat.mul_le_mul_right _ (by omega)
theorem valD_lt (D : List UInt8) (k : Nat) (hk : k ≤ 19) (hd : ∀ (j : Nat) (h : j < D.length), D[j].toNat ≤ 57) : valD (D.take k) < 10000000000000000000 := by
  have h := fold_lt (D.take k) 0 (fun b hb => by
    obtain ⟨j, hj, rfl⟩ := List.mem_iff_getElem.1 (List.mem_of_mem_take hb)
    exact hd j hj)
  refine Nat.lt_of_lt_of_le h ?_
  rw [Nat.zero_add, Nat.one_mul]
  exact Nat.le_trans (Nat.pow_le_pow_right (by omega) (show (D.take k).length ≤ 19 by rw [List.length_take]; omega)) (by decide)
set_option maxRecDepth 100000 in
set_option maxHeartbeats 1600000 in
theorem read_pos (s : ByteArray) (D : List UInt8) (h : NumAt s 0 D) (hh : ∀ (h : 0 < D.length), D[0].toNat ≠ 48) (w : World) :
    Calls Tryz.prog 73 #[.string s] w fun e w' => e = .returned (.tuple #[.int .u64 (valD D : Int), .int .i64 0, .bool false, .bool false, .bool false, .int .i64 (s.size : Int), .bool true]) ∧ Below w.heap.size w w' := by
  have hsz := h.size
  have hpos := h.pos
  have hle := h.le
  have q2 : (0 : Int) < (s.size : Int) := by omega
  have hp0 : 0 < s.size := by omega
  have hD0 := h.at_ 0 (by omega) (by omega)
  have hd1 := h.dig 0 (by omega)
  have hd2 := hh (by omega)
  rw [← hD0] at hd1 hd2
  have e45 : (((s[0]'hp0).toNat : Int) == 45) = false := by rw [beq_eq_false_iff_ne]; show ((s[0 + 0]'(by omega)).toNat : Int) ≠ 45; omega
  have e43 : (((s[0]'hp0).toNat : Int) == 43) = false := by rw [beq_eq_false_iff_ne]; show ((s[0 + 0]'(by omega)).toNat : Int) ≠ 43; omega
  have e48 : (((s[0]'hp0).toNat : Int) == 48) = false := by rw [beq_eq_false_iff_ne]; show ((s[0 + 0]'(by omega)).toNat : Int) ≠ 48; omega
  have H := Lib.hid h
  have H0 : Hid (∀ h0 : 0 < s.size, (s[0]'h0).toNat ≠ 48) := Lib.hid (fun _ => hd2)
  have HZ := Lib.hid hsz
  have HP : Hid (1 ≤ valD D) := Lib.hid (by
    have a1 : valD (D.take 1) = valD (D.take 0) * 10 + ((D[0]).toNat - 48) := valD_step D 0 (by omega)
    have a2 := valD_take D 1
    have a3 : (s[0]'hp0).toNat = D[0].toNat := congrArg UInt8.toNat hD0
    have a4 : 48 ≤ (s[0]'hp0).toNat := hd1.1
    have a5 : (s[0]'hp0).toNat ≠ 48 := hd2
    have a6 : (s[0 + 0]'(by omega)).toNat = (s[0]'hp0).toNat := rfl
    rw [← a3, a6] at a1
    generalize (s[0]'hp0).toNat = c at *
    omega)
  clear h hsz hpos hle hh hD0 hd1 hd2
  have hne : ¬ s = ByteArray.empty := by rintro rfl; simp at hp0
  rcases (by omega : (s.size : Int) ≤ 2 ∨ (2 : Int) < (s.size : Int)) with hq | hq
  all_goals
    go_enter Tryz.func73, Tryz.ntmps73
    go_wp2_with fail
    go_step3
    go_wp2_with fail
    go_step3
    go_wp2_with fail
    go_loopw [2, 5, 7, 9, 13, 14, 15, 16, 17] (fun vm vt vi vu vd vg vn vq vp wr => ∃ k : Nat, vm = .int .u64 (valD (D.take k) : Int) ∧ vt = .bool false ∧ vi = .int .i64 (k : Int) ∧ vu = .bool false ∧ vd = .bool false ∧ vg = .bool (decide (0 < k)) ∧ vn = .int .i64 (k : Int) ∧ vq = .int .i64 (k : Int) ∧ vp = .int .i64 0 ∧ k ≤ D.length ∧ w = wr) (fun _ _ vi _ _ _ _ _ _ _ => s.size - (RowKit.intOf vi).toNat)
    case atStart => exact ⟨0, rfl, rfl, rfl, rfl, rfl, rfl, rfl, rfl, rfl, Nat.zero_le _, rfl⟩
    case round =>
      obtain ⟨k, rfl, rfl, rfl, rfl, rfl, rfl, rfl, rfl, rfl, hk, rfl⟩ := hrel
      by_cases hkd : k < D.length
      · obtain ⟨e1, e2, e3⟩ := H.out.at_k k hkd
        have e4 := valD_step D k hkd
        have e5 := valD_lt D (k + 1) (by have := H.out.le; omega) (fun j hj => (H.out.dig j hj).2)
        have e19 := H.out.le
        have hks : k + 0 < s.size := by have := HZ.out; omega
        obtain ⟨v, hv0⟩ : ∃ v, valD (D.take k) = v := ⟨_, rfl⟩
        obtain ⟨v', hv1⟩ : ∃ v', valD (D.take (k + 1)) = v' := ⟨_, rfl⟩
        rw [hv0, hv1] at e4
        rw [hv1] at e5
        rw [hv0]
        have e6 : (s[k]).toNat = D[k].toNat := congrArg UInt8.toNat e1
        have ez : k = 0 → (s[k]).toNat ≠ 48 := fun hk0 => by subst hk0; have := H0.out; exact this _
        obtain ⟨c, hc⟩ : ∃ c, s[k] = c := ⟨_, rfl⟩
        rw [← e6, hc] at e2 e3 e4
        rw [hc] at ez
        have g1 : (48 : Int) ≤ (c.toNat : Int) := by omega
        have g2 : (c.toNat : Int) ≤ 57 := by omega
        have g3 : ((k : Nat) : Int) < (s.size : Int) := by omega
        have g4 : ((c.toNat : Int) == 95) = false := by rw [beq_eq_false_iff_ne]; omega
        have g5 : ((c.toNat : Int) == 46) = false := by rw [beq_eq_false_iff_ne]; omega
        have g6 : ((k : Nat) : Int) < 19 := by omega
        clear e1 e6 hv0
        have g7 : (v' : Int) = (v : Int) * 10 + ((c.toNat : Int) - 48) := by omega
        have g8 : (v' : Int) < 10000000000000000000 := by omega
        have hbt := bool_true
        have hcase : (((c.toNat : Int) == 48) = true ∧ ((k : Int) == 0) = false) ∨ ((c.toNat : Int) == 48) = false := by
          by_cases hc48 : c.toNat = 48
          · refine Or.inl ⟨by rw [beq_iff_eq]; omega, ?_⟩
            rw [beq_eq_false_iff_ne]
            intro hk0
            exact ez (by omega) hc48
          · exact Or.inr (by rw [beq_eq_false_iff_ne]; omega)
        have HV1 := Lib.hid hv1
        clear e2 e3 e4 e5 ez hv1
        rcases hcase with ⟨hc1, hc2⟩ | hc1
        all_goals
          go_wp2_with fail
          exact ⟨⟨k + 1, by rw [HV1.out]; exact congrArg (Value.int .u64) g7.symm, rfl, by go_num, rfl, rfl, by simp, by go_num, by go_num, rfl, by omega, trivial⟩, by simp [RowKit.intOf]; omega⟩
      · obtain rfl : k = D.length := by omega
        have hks : s.size = D.length := by have := HZ.out; omega
        rw [List.take_length]
        have hv1 := HP.out
        obtain ⟨v, hv0⟩ : ∃ v, valD D = v := ⟨_, rfl⟩
        rw [hv0] at hv1 ⊢
        have g0 : ((v : Int) == 0) = false := by rw [beq_eq_false_iff_ne]; omega
        have g3 : ¬ ((D.length : Nat) : Int) < (s.size : Int) := by omega
        have g4 : decide (0 < D.length) = true := decide_eq_true (by have := H.out.pos; omega)
        have g5 : (s.size : Int) = (D.length : Int) := by omega
        have HV0 := Lib.hid hv0
        have HG5 := Lib.hid g5
        have g6 : ((v : Int) != 0) = true := by rw [bne_iff_ne]; omega
        clear hv0 hks
        go_wp2_with fail
        exact bodyPost_ret (v := .tuple #[.int .u64 (v : Int), .int .i64 0, .bool false, .bool false, .bool false, .int .i64 (D.length : Int), .bool true]) (by simp [results, Tryz.results73, go_sem]; try rfl) rfl ⟨by rw [HV0.out, HG5.out], Below.refl _ _⟩
end Go.Proofs.YtdbbmknjldapbaaGreatDoor
