/-
  strconv.ParseFloat over a whole number of 19 to 39 digits: the nearest float.
-/
import Derived.Test.YtdbbmknjldapbaaGreatDoorAg
import Derived.Test.YtdbbmknjldapbaaGreatDoorSpec
import Derived.RegionTactic
namespace Go.Proofs.YtdbbmknjldapbaaGreatDoor
set_option linter.unusedVariables false
set_option linter.unusedSimpArgs false
open Go.RowKit Go.Lib Go.Sort

theorem NumW.digs {s : ByteArray} {i0 : Nat} {D : List UInt8} (h : NumW s i0 D) : Digs D := fun b hb => by
  obtain ⟨i, hi, rfl⟩ := List.mem_iff_getElem.1 hb
  exact h.dig i hi
/-- What the 19 first digits say of the whole. -/
theorem kept (D : List UInt8) (hd : Digs D) (hl : 19 ≤ D.length) (h0 : ∀ h : 0 < D.length, D[0].toNat ≠ 48) :
    1000000000000000000 ≤ valD (D.take 19) ∧ valD (D.take 19) < 10000000000000000000 ∧ valD (D.take 19) * 10 ^ (D.length - 19) ≤ valD D ∧ valD D ≤ (valD (D.take 19) + 1) * 10 ^ (D.length - 19) ∧ (trD D D.length = false → valD D = valD (D.take 19) * 10 ^ (D.length - 19)) := by
  have hl2 : (D.take 19).length = 19 := by rw [List.length_take]; omega
  have hd2 : Digs (D.take 19) := fun b hb => hd b (List.mem_of_mem_take hb)
  have e := valD_append (D.take 19) (D.drop 19)
  rw [List.take_append_drop, List.length_drop] at e
  have hr := valD_lt_pow (D.drop 19) (fun b hb => hd b (List.mem_of_mem_drop hb))
  rw [List.length_drop] at hr
  have h1 := valD_ge_pow (D.take 19) hd2 (by omega) (by rw [List.getElem_take]; exact h0 (by omega))
  have h2 := valD_lt_pow (D.take 19) hd2
  rw [hl2] at h1 h2
  refine ⟨h1, h2, by rw [e]; exact Nat.le_add_right _ _, ?_, fun ht => ?_⟩
  · rw [e, Nat.add_mul, Nat.one_mul]
    exact Nat.add_le_add_left (Nat.le_of_lt hr) _
  · rw [trD_all] at ht
    have hz : D.drop 19 = List.replicate (D.length - 19) 48 := by
      rw [List.eq_replicate_iff]
      refine ⟨List.length_drop, fun b hb => ?_⟩
      have := List.any_eq_false.1 ht b hb
      simpa using this
    rw [e, hz, valD_zeros]
    rfl
theorem pre_of (f : Nat → UInt8) (D : List UInt8) (h : ∀ (i : Nat) (h : i < D.length), f i = D[i]) : pre f D.length = D := by
  apply List.ext_getElem
  · rw [pre_length]
  · intro i h1 h2
    rw [pre_get, h i h2]
theorem numF_of (f : Nat → UInt8) (D : List UInt8) (hp : 0 < D.length) (hd : ∀ (k : Nat) (h : k < D.length), 48 ≤ D[k].toNat ∧ D[k].toNat ≤ 57) (h0 : ∀ h : 0 < D.length, D[0].toNat ≠ 48) (h : ∀ (i : Nat) (h : i < D.length), f i = D[i]) : NumF f D.length D.length (valD D) 0 :=
  ⟨hp, fun i hi => by rw [h i hi]; exact hd i hi, by rw [h 0 hp]; exact h0 hp, by rw [pre_of f D h, Nat.pow_zero, Nat.mul_one]⟩
theorem atof_big_pos (s : ByteArray) (D : List UInt8) (h : NumW s 0 D) (h0 : ∀ h : 0 < D.length, D[0].toNat ≠ 48) (hx : valD D < 2 ^ 128) {P L : Addr} {T1 T53 : ByteArray} (w : World) (hT : TabQ P L T1 T53 w) :
    Calls Tryz.prog 60 #[.string s] w fun e w' => e = .returned (.tuple #[.float .f64 (0 + rung (valD D)), .int .i64 (s.size : Int), .nilIface]) ∧ Below w.heap.size w w' := by
  obtain ⟨k1, k2, k3, k4, k5⟩ := kept D h.digs h.pos h0
  have hsz := h.size
  have hpos := h.pos
  have hle := h.le
  have a0 := h.at_ 0 (by omega) (by omega)
  have d0 := h.dig 0 (by omega)
  have HS : ∀ w, Calls Tryz.prog 72 #[.string s] w fun e w' => e = .returned (.tuple #[.float .f64 0, .int .i64 0, .bool false]) ∧ Below w.heap.size w w' :=
    fun w => spec_pos s (by omega) (by rw [← a0] at d0; exact d0.1) (by rw [← a0] at d0; exact d0.2) w
  have HR := fun w => readw_pos s D h h0 w
  rw [show (D.length : Int) - 19 = ((D.length - 19 : Nat) : Int) by omega] at HR
  cases ht : trD D D.length with
  | false =>
    rw [ht] at HR
    rw [k5 ht]
    exact atof_all_pos s (valD (D.take 19)) (D.length - 19) _ HS HR k1 k2 (by omega) w hT
  | true =>
    rw [ht] at HR
    exact atof_cut_pos s (valD (D.take 19)) (D.length - 19) (valD D) _ HS HR k1 k2 (by omega) rfl k3 k4 hx (fun b w hD => (set_pos s D h h0 b _ _ _ w hD).mono (by
      rintro e w' ⟨he, f, hf, hDc⟩
      exact ⟨he, f, D.length, hle, numF_of f D (by omega) h.dig h0 hf, hDc⟩)) w hT
theorem atof_big_neg (s : ByteArray) (D : List UInt8) (h : NumW s 1 D) (h45 : ∀ (h : 0 < s.size), s[0].toNat = 45) (h0 : ∀ h : 0 < D.length, D[0].toNat ≠ 48) (hx : valD D < 2 ^ 128) {P L : Addr} {T1 T53 : ByteArray} (w : World) (hT : TabQ P L T1 T53 w) :
    Calls Tryz.prog 60 #[.string s] w fun e w' => e = .returned (.tuple #[.float .f64 (9223372036854775808 + rung (valD D)), .int .i64 (s.size : Int), .nilIface]) ∧ Below w.heap.size w w' := by
  obtain ⟨k1, k2, k3, k4, k5⟩ := kept D h.digs h.pos h0
  have hsz := h.size
  have hpos := h.pos
  have hle := h.le
  have a0 := h.at_ 0 (by omega) (by omega)
  have d0 := h.dig 0 (by omega)
  have HS : ∀ w, Calls Tryz.prog 72 #[.string s] w fun e w' => e = .returned (.tuple #[.float .f64 0, .int .i64 0, .bool false]) ∧ Below w.heap.size w w' :=
    fun w => spec_neg s (by omega) (h45 (by omega)) (by rw [← a0] at d0; exact d0.1) (by rw [← a0] at d0; exact d0.2) w
  have HR := fun w => readw_neg s D h h45 h0 w
  rw [show (D.length : Int) - 19 = ((D.length - 19 : Nat) : Int) by omega] at HR
  cases ht : trD D D.length with
  | false =>
    rw [ht] at HR
    rw [k5 ht]
    exact atof_all_neg s (valD (D.take 19)) (D.length - 19) _ HS HR k1 k2 (by omega) w hT
  | true =>
    rw [ht] at HR
    exact atof_cut_neg s (valD (D.take 19)) (D.length - 19) (valD D) _ HS HR k1 k2 (by omega) rfl k3 k4 hx (fun b w hD => (set_neg s D h h45 h0 b _ _ _ w hD).mono (by
      rintro e w' ⟨he, f, hf, hDc⟩
      exact ⟨he, f, D.length, hle, numF_of f D (by omega) h.dig h0 hf, hDc⟩)) w hT
set_option maxRecDepth 100000 in
set_option maxHeartbeats 1600000 in
theorem parse_big (s : ByteArray) (F : Nat) {P L : Addr} {T1 T53 : ByteArray} (HA0 : ∀ w, TabQ P L T1 T53 w → Calls Tryz.prog 60 #[.string s] w fun e w' => e = .returned (.tuple #[.float .f64 F, .int .i64 (s.size : Int), .nilIface]) ∧ Below w.heap.size w w') (w : World) (hT : TabQ P L T1 T53 w) :
    Calls Tryz.prog 24 #[.string s, .int .i64 64] w fun e w' => e = .returned (.tuple #[.float .f64 F, .nilIface]) ∧ Below w.heap.size w w' := by
  have HA := Lib.hid HA0
  have HT := Lib.hid hT
  clear HA0 hT
  go_enter Tryz.func24, Tryz.ntmps24
  go_wp2_with (first | (go_at_call 60; refine (HA.out _ HT.out).mono ?_; rintro e w1 ⟨rfl, hb1⟩; have HB1 := Lib.hid hb1; clear hb1) | go_in)
  go_ret2
  exact ⟨rfl, HB1.out⟩
end Go.Proofs.YtdbbmknjldapbaaGreatDoor
