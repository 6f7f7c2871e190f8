/-
  A natural number's decimal text (package bigall, nat.itoa), walked.
-/
import Derived.Test.YtdbbmknjldapbaaGreatDoorIb
import Derived.Defers
namespace Go.Proofs.YtdbbmknjldapbaaGreatDoor
set_option linter.unusedVariables false
set_option linter.unusedSimpArgs false
open Go.RowKit Go.Lib

theorem getStack_any (w : World) : Calls Tryz.prog 67 #[] w fun e w' => e = .returned (.pointer (some ⟨w.heap.size, 0, none⟩)) ∧ (∃ o : Obj, w' = w.alloc o) ∧ w'.cell? ⟨w.heap.size, 0, none⟩ = some (.pointer none) := by
  go_enter Tryz.func67, Tryz.ntmps67
  go_wp2_with fail
  go_ret
  exact ⟨rfl, ⟨_, rfl⟩, by go_simp⟩
theorem free_any (u : FrameMode) (b : Nat) (w : World) (hc : w.cell? ⟨b, 0, none⟩ = some (.pointer none)) : CallsD Tryz.prog 68 #[.pointer (some ⟨b, 0, none⟩)] u w fun e u' w' => u' = u ∧ (e = .returned (.tuple #[]) ∧ w' = w) := by
  go_enter_d Tryz.func68, Tryz.ntmps68
  go_wp2_with fail
  go_end0
  exact ⟨rfl, rfl⟩
theorem mk_nat11 (w : World) : (Instr.makeSlice 29 (.int .i64 1) (.int .i64 1)).run Tryz.prog w = .ok (.slice (some ⟨w.heap.size, 0, none⟩) 1 1) (w.alloc (.cells #[.int .u64 0] 53)) :=
  run_mk 29 53 (.int .u64 0) 8 Tryz.underlying29 (by kernel_rfl) rfl 1 1 (by omega) (by omega) (by omega) w
theorem mk_nat26 (w : World) : (Instr.makeSlice 29 (.int .i64 2) (.int .i64 6)).run Tryz.prog w = .ok (.slice (some ⟨w.heap.size, 0, none⟩) 2 6) (w.alloc (.cells #[.int .u64 0, .int .u64 0, .int .u64 0, .int .u64 0, .int .u64 0, .int .u64 0] 53)) :=
  run_mk 29 53 (.int .u64 0) 8 Tryz.underlying29 (by kernel_rfl) rfl 2 6 (by omega) (by omega) (by omega) w
theorem word_size : (Tryz.prog.info? 53).map (·.size) = some 1 := by kernel_rfl
theorem natMake1 (w : World) :
    Calls Tryz.prog 29 #[.slice none 0 0, .int .i64 1] w fun e w' => e = .returned (.slice (some ⟨w.heap.size, 0, none⟩) 1 1) ∧ w' = w.alloc (.cells #[.int .u64 0] 53) := by
  have mk := mk_nat11
  go_enter Tryz.func29, Tryz.ntmps29
  go_wp2
  go_ret
  exact ⟨rfl, rfl⟩
theorem natMake2 (w : World) :
    Calls Tryz.prog 29 #[.slice none 0 0, .int .i64 2] w fun e w' => e = .returned (.slice (some ⟨w.heap.size, 0, none⟩) 2 6) ∧ w' = w.alloc (.cells #[.int .u64 0, .int .u64 0, .int .u64 0, .int .u64 0, .int .u64 0, .int .u64 0] 53) := by
  have mk := mk_nat26
  go_enter Tryz.func29, Tryz.ntmps29
  go_wp2
  go_ret
  exact ⟨rfl, rfl⟩
/-- The words as values. -/
def wordsL (Q : Nat) : List Value := if Q < 18446744073709551616 then [.int .u64 ((Q % 18446744073709551616 : Nat) : Int)] else [.int .u64 ((Q % 18446744073709551616 : Nat) : Int), .int .u64 ((Q / 18446744073709551616 : Nat) : Int)]
theorem QAt.slice {w : World} {G c Q : Nat} (h : QAt w G c Q) (hQ : Q ≠ 0) (hG : G < w.heap.size) : SliceOf w (.slice (some ⟨G, 0, none⟩) (nw Q) c) (wordsL Q) := by
  have h0 := h.c0 hQ
  by_cases hM : Q < 18446744073709551616
  · have e1 : wordsL Q = [.int .u64 ((Q % 18446744073709551616 : Nat) : Int)] := by unfold wordsL; rw [if_pos hM]
    have e2 : nw Q = 1 := by unfold nw; rw [if_neg hQ, if_pos hM]
    rw [e1, e2]
    refine Or.inr ⟨by simp, G, 0, c, rfl, hG, fun j u hj => ?_⟩
    match j, hj with
    | 0, hj => simp at hj; subst hj; exact h0
    | j + 1, hj => simp at hj
  · have h1 := (h.c1 (by omega)).2
    have e1 : wordsL Q = [.int .u64 ((Q % 18446744073709551616 : Nat) : Int), .int .u64 ((Q / 18446744073709551616 : Nat) : Int)] := by unfold wordsL; rw [if_neg hM]
    have e2 : nw Q = 2 := by unfold nw; rw [if_neg hQ, if_neg hM]
    rw [e1, e2]
    refine Or.inr ⟨by simp, G, 0, c, rfl, hG, fun j u hj => ?_⟩
    match j, hj with
    | 0, hj => simp at hj; subst hj; exact h0
    | 1, hj => simp at hj; subst hj; exact h1
    | j + 2, hj => simp at hj
theorem QAt.alloc {w : World} {G c Q : Nat} (h : QAt w G c Q) (hG : G < w.heap.size) (o : Obj) : QAt (w.alloc o) G c Q :=
  h.on (S := fun _ => False) ((Only.refl _ w).alloc o) (fun h => h) hG
theorem QAt.ofRow {w : World} {G c Q : Nat} {cs : List Value} (hc : 1 ≤ c) (hc2 : 18446744073709551616 ≤ Q → 2 ≤ c) (hQ : Q < 340282366920938463463374607431768211456) (hr : Row w G 53 (wordsL Q ++ cs)) : QAt w G c Q := by
  refine ⟨fun _ => ?_, fun hge => ⟨hc2 hge, ?_⟩, fun j => hr.free j, hc, hQ⟩
  · have : 0 < (wordsL Q ++ cs).length := by unfold wordsL; split <;> simp
    rw [hr.cell 0 this]
    unfold wordsL
    split <;> rfl
  · have hg : ¬ Q < 18446744073709551616 := by omega
    have e1 : wordsL Q = [.int .u64 ((Q % 18446744073709551616 : Nat) : Int), .int .u64 ((Q / 18446744073709551616 : Nat) : Int)] := by unfold wordsL; rw [if_neg hg]
    rw [e1] at hr
    exact hr.cell 1 (by simp)
theorem natSet_any (G c Q : Nat) (hQ : Q ≠ 0) (w : World) (h : QAt w G c Q) (hG : G < w.heap.size) :
    Calls Tryz.prog 32 #[.slice none 0 0, .slice (some ⟨G, 0, none⟩) (nw Q) c] w fun e w' => (∃ c2, e = .returned (.slice (some ⟨w.heap.size, 0, none⟩) (nw Q) c2) ∧ QAt w' w.heap.size c2 Q) ∧ Below w.heap.size w w' ∧ w.heap.size < w'.heap.size := by
  have hlt := h.lt
  have hone : ∀ v ∈ wordsL Q, v.oneCell' = true := fun v hv => by unfold wordsL at hv; split at hv <;> simp at hv <;> rcases hv with rfl | rfl <;> rfl
  by_cases hM : Q < 18446744073709551616
  · have e2 : nw Q = 1 := by unfold nw; rw [if_neg hQ, if_pos hM]
    have e1 : (wordsL Q).length = 1 := by unfold wordsL; rw [if_pos hM]; rfl
    have HM := Lib.hid natMake1
    have hR : Row (w.alloc (.cells #[.int .u64 0] 53)) w.heap.size 53 [.int .u64 0] := Row.alloc w _ [.int .u64 0]
    have hS := (h.alloc hG (.cells #[.int .u64 0] 53)).slice hQ (by simp; omega)
    rw [e2] at hS ⊢
    obtain ⟨w2, hrun, hR2, hO⟩ := copy_run (P := Tryz.prog) 29 29 3 53 Tryz.underlying29 word_size w.heap.size 0 1 1 1 c _ (wordsL Q) [.int .u64 0] 53 e1 (Nat.le_refl _) (by simp) hone _ hR hS
    have HB := Lib.hid (show Below w.heap.size w w2 from Below.trans (show Below w.heap.size w (w.alloc (.cells #[.int .u64 0] 53)) by go_grown) (hO.below (by simp) (fun k hk => Nat.le_of_eq hk.symm)))
    have hsz : Hid (w.heap.size < w2.heap.size) := Lib.hid (Nat.lt_of_lt_of_le (by simp) hO.size)
    have hQ2 : Hid (QAt w2 w.heap.size 1 Q) := Lib.hid (QAt.ofRow (cs := []) (by decide) (fun hge => absurd hM (by omega)) hlt (by
      have : splice [Value.int .u64 0] 0 (wordsL Q) = wordsL Q ++ [] := by simp [splice, e1]
      rw [this] at hR2
      exact hR2))
    clear hO hR2 hR hS h
    go_enter Tryz.func32, Tryz.ntmps32
    go_wp2_with fail
    refine (HM.out _).mono ?_
    rintro e w1 ⟨rfl, rfl⟩
    go_wp2_with fail
    go_ret
    exact ⟨⟨1, rfl, hQ2.out⟩, HB.out, hsz.out⟩
  · have e2 : nw Q = 2 := by unfold nw; rw [if_neg hQ, if_neg hM]
    have e1 : (wordsL Q).length = 2 := by unfold wordsL; rw [if_neg hM]; rfl
    have HM := Lib.hid natMake2
    have hR : Row (w.alloc (.cells #[.int .u64 0, .int .u64 0, .int .u64 0, .int .u64 0, .int .u64 0, .int .u64 0] 53)) w.heap.size 53 [.int .u64 0, .int .u64 0, .int .u64 0, .int .u64 0, .int .u64 0, .int .u64 0] := Row.alloc w _ _
    have hS := (h.alloc hG (.cells #[.int .u64 0, .int .u64 0, .int .u64 0, .int .u64 0, .int .u64 0, .int .u64 0] 53)).slice hQ (by simp; omega)
    rw [e2] at hS ⊢
    obtain ⟨w2, hrun, hR2, hO⟩ := copy_run (P := Tryz.prog) 29 29 3 53 Tryz.underlying29 word_size w.heap.size 0 2 6 2 c _ (wordsL Q) [.int .u64 0, .int .u64 0, .int .u64 0, .int .u64 0, .int .u64 0, .int .u64 0] 53 e1 (Nat.le_refl _) (by simp) hone _ hR hS
    have HB := Lib.hid (show Below w.heap.size w w2 from Below.trans (show Below w.heap.size w (w.alloc (.cells #[.int .u64 0, .int .u64 0, .int .u64 0, .int .u64 0, .int .u64 0, .int .u64 0] 53)) by go_grown) (hO.below (by simp) (fun k hk => Nat.le_of_eq hk.symm)))
    have hsz : Hid (w.heap.size < w2.heap.size) := Lib.hid (Nat.lt_of_lt_of_le (by simp) hO.size)
    have hQ2 : Hid (QAt w2 w.heap.size 6 Q) := Lib.hid (QAt.ofRow (cs := [.int .u64 0, .int .u64 0, .int .u64 0, .int .u64 0]) (by decide) (fun _ => by decide) hlt (by
      have : splice [Value.int .u64 0, .int .u64 0, .int .u64 0, .int .u64 0, .int .u64 0, .int .u64 0] 0 (wordsL Q) = wordsL Q ++ [.int .u64 0, .int .u64 0, .int .u64 0, .int .u64 0] := by simp [splice, e1]
      rw [this] at hR2
      exact hR2))
    clear hO hR2 hR hS h
    go_enter Tryz.func32, Tryz.ntmps32
    go_wp2_with fail
    refine (HM.out _).mono ?_
    rintro e w1 ⟨rfl, rfl⟩
    go_wp2_with fail
    go_ret
    exact ⟨⟨6, rfl, hQ2.out⟩, HB.out, hsz.out⟩
end Go.Proofs.YtdbbmknjldapbaaGreatDoor
/-
  A natural number's decimal text (package bigall, nat.itoa), walked.
-/
namespace Go.Proofs.YtdbbmknjldapbaaGreatDoor
set_option linter.unusedVariables false
set_option linter.unusedSimpArgs false
open Go.RowKit Go.Lib

theorem mk_bytes (n : Nat) (hn : n ≤ 1000) (w : World) : (Instr.makeSlice 74 (.int .i64 (n : Int)) (.int .i64 (n : Int))).run Tryz.prog w = .ok (.slice (some ⟨w.heap.size, 0, none⟩) n n) (w.alloc (.cells (Array.replicate n (.int .u8 0)) 5)) :=
  run_mk 74 5 (.int .u8 0) 1 Tryz.underlying74 (by kernel_rfl) rfl n n (by omega) (by omega) (by omega) w
theorem bitLen_any (G c Q B : Nat) (hB0 : 64 ≤ B) (hB1 : B ≤ 128) (h0 : 2 ^ (B - 1) ≤ Q) (h1 : Q < 2 ^ B) (w : World) (h : QAt w G c Q) :
    Calls Tryz.prog 64 #[.slice (some ⟨G, 0, none⟩) (nw Q) c] w fun e w' => e = .returned (.int .i64 (B : Int)) ∧ w' = w := by
  have hQ : Q ≠ 0 := by have := Nat.two_pow_pos (B - 1); omega
  by_cases hM : Q < 18446744073709551616
  · have e2 : nw Q = 0 + 1 := by unfold nw; rw [if_neg hQ, if_pos hM]
    have hB : B = 64 := by
      refine Decidable.byContradiction fun hne => ?_
      have : 2 ^ 64 ≤ 2 ^ (B - 1) := Nat.pow_le_pow_right (by decide) (by omega)
      omega
    subst hB
    rw [e2]
    have c0 := h.c0 hQ
    rw [Nat.mod_eq_of_lt hM] at c0
    exact bitLen_top G c 0 Q 64 (by decide) (by decide) (by decide) h0 h1 w c0
  · have e2 : nw Q = 1 + 1 := by unfold nw; rw [if_neg hQ, if_neg hM]
    have c1 := (h.c1 (by omega)).2
    have hB : 65 ≤ B := by
      refine Decidable.byContradiction fun hlt => ?_
      have : 2 ^ B ≤ 2 ^ 64 := Nat.pow_le_pow_right (by decide) (by omega)
      omega
    have g0 : 2 ^ (B - 64 - 1) ≤ Q / 18446744073709551616 := by
      rw [Nat.le_div_iff_mul_le (by decide), show 18446744073709551616 = 2 ^ 64 by decide, ← Nat.pow_add, show B - 64 - 1 + 64 = B - 1 by omega]
      exact h0
    have g1 : Q / 18446744073709551616 < 2 ^ (B - 64) := by
      rw [Nat.div_lt_iff_lt_mul (by decide), show 18446744073709551616 = 2 ^ 64 by decide, ← Nat.pow_add, show B - 64 + 64 = B by omega]
      exact h1
    rw [e2]
    have := bitLen_top G c 1 (Q / 18446744073709551616) (B - 64) (by decide) (by omega) (by omega) g0 g1 w c1
    rw [show 1 * 64 + (B - 64) = B by omega] at this
    exact this
/-- A text in a block's tail. -/
structure Tail (w : World) (v : Value) (T : List UInt8) : Prop where
  at_ : ∃ (S o c : Nat) (L : List UInt8), v = .slice (some ⟨S, o, none⟩) T.length c ∧ Row w S 5 (bc L) ∧ L.drop o = T ∧ o < L.length
/-- A numeral without zeros ahead. -/
structure Numeral (D : List UInt8) (x : Nat) : Prop where
  digs : Digs D
  pos : 0 < D.length
  head : ∀ h : 0 < D.length, D[0].toNat ≠ 48
  val : valD D = x
theorem zeros_ahead (L : List UInt8) (i : Nat) (hi : i ≤ L.length) (hz : ∀ (j : Nat) (h : j < L.length), j < i → L[j].toNat = 48) : valD (L.drop i) = valD L := by
  have e : L.take i = List.replicate i 48 := by
    rw [List.eq_replicate_iff]
    refine ⟨by rw [List.length_take]; omega, fun b hb => ?_⟩
    obtain ⟨j, hj, rfl⟩ := List.mem_iff_getElem.1 hb
    rw [List.length_take] at hj
    rw [List.getElem_take]
    exact UInt8.toNat_inj.1 (hz j (by omega) (by omega))
  have h := valD_append (L.take i) (L.drop i)
  rw [List.take_append_drop, e, valD_zeros, Nat.zero_mul, Nat.zero_add] at h
  exact h.symm
theorem numeral_tail {L : List UInt8} {Q i : Nat} (hd : Digs L) (hv : valD L = Q) (hi : i < L.length) (hz : ∀ (j : Nat) (h : j < L.length), j < i → L[j].toNat = 48) (hn : L[i].toNat ≠ 48) : Numeral (L.drop i) Q :=
  ⟨fun b hb => hd b (List.mem_of_mem_drop hb), by rw [List.length_drop]; omega, fun h => by rw [List.getElem_drop]; exact hn, by rw [zeros_ahead L i (by omega) hz]; exact hv⟩
set_option maxRecDepth 100000 in
set_option maxHeartbeats 3200000 in
theorem itoa_pos (G c Q B : Nat) (hB0 : 64 ≤ B) (hB1 : B ≤ 128) (h0 : 2 ^ (B - 1) ≤ Q) (h1 : Q < 2 ^ B) (w : World) (h : QAt w G c Q) (hG : G < w.heap.size) (h8 : w.cell? ⟨6, 0, none⟩ = some (.int .i64 8)) :
    Calls Tryz.prog 54 #[.slice (some ⟨G, 0, none⟩) (nw Q) c, .bool false, .int .i64 10] w fun e w' => (∃ v T, e = .returned v ∧ Tail w' v T ∧ Numeral T Q) ∧ Below w.heap.size w w' := by
  obtain ⟨r, e1, e2, e3, e4⟩ := est_at B hB0 hB1
  have hQ : Q ≠ 0 := by have := Nat.two_pow_pos (B - 1); omega
  have HBL := Lib.hid (fun (w : World) (h : QAt w G c Q) => bitLen_any G c Q B hB0 hB1 h0 h1 w h)
  have HQ10 : Hid (Q < 10 ^ (estN B + 1)) := Lib.hid (by omega)
  have HLT := Lib.hid hQ
  have HLG := Lib.hid log2_ten'
  have f10 : floatOfInt .f64 10 = 4621819117588971520 := by kernel_rfl
  have a1 : ∀ wx : World, (binOp .quo 23 (.float .f64 (floatOfInt .f64 (B : Int))) (.float .f64 4614662735865160561)).run Tryz.prog wx = .ok (.float .f64 r) wx := fun wx => run_float_arith wx _ _ _ _ _ _ e1
  have a2 : ∀ wx : World, (convert 23 3 (.float .f64 r)).run Tryz.prog wx = .ok (.int .i64 (estN B : Int)) wx := fun wx => run_convert_float_int wx _ _ _ _ _ _ (by rw [Tryz.underlying23]; rfl) Tryz.underlying3 e2
  have hn0 : 0 < nw Q := by unfold nw; rw [if_neg hQ]; split <;> omega
  have hn1 : ((nw Q : Int) == 0) = false := by rw [beq_eq_false_iff_ne]; omega
  have hn2 : nw Q ≤ 2 := by unfold nw; split; · omega
                            split <;> omega
  have hq : ¬ Q = 0 := hQ
  have HA := Lib.hid h
  have HG := Lib.hid hG
  have H8 := Lib.hid h8
  have HN2 := Lib.hid hn2
  have HE4 := Lib.hid e4
  obtain ⟨N, hN⟩ : ∃ N, estN B = N := ⟨_, rfl⟩
  rw [hN] at a2 e4 HQ10 HE4
  have hNI : (N : Int) ≤ 38 := by omega
  clear h0 h1 hB0 hB1 e1 e2 e3 h hG h8 hn2 hN hQ hq hn0
  have mk : ∀ w : World, (Instr.makeSlice 74 (.int .i64 ((N : Int) + 1)) (.int .i64 ((N : Int) + 1))).run Tryz.prog w = .ok (.slice (some ⟨w.heap.size, 0, none⟩) (N + 1) (N + 1)) (w.alloc (.cells (Array.replicate (N + 1) (.int .u8 0)) 5)) := fun w => by
    have := mk_bytes (N + 1) (by omega) w
    rw [show ((N + 1 : Nat) : Int) = ((N : Int) + 1) by omega] at this
    exact this
  have bb : (10 == bits .and .u64 10 (IntKind.u64.wrap (-10))) = false := by decide
  clear e4
  go_enter_defers Tryz.func54, Tryz.ntmps54
  go_wp2_with fail
  refine (HBL.out _ HA.out).mono ?_
  rintro e w1 ⟨rfl, rfl⟩
  go_wp2_with fail
  refine (HLG.out _).mono ?_
  rintro e w1 ⟨rfl, rfl⟩
  go_wp2_with fail
  have hrow : Row (w1.alloc (.cells (Array.replicate (N + 1) (.int .u8 0)) 5)) w1.heap.size 5 (bc (List.replicate (N + 1) 0)) := by
    have := Row.alloc w1 5 (bc (List.replicate (N + 1) 0))
    rw [show (bc (List.replicate (N + 1) 0)).toArray = Array.replicate (N + 1) (Value.int .u8 0) by unfold bc; rw [List.map_replicate, List.toArray_replicate]; rfl] at this
    exact this
  have hba : Below w1.heap.size w1 (w1.alloc (.cells (Array.replicate (N + 1) (.int .u8 0)) 5)) := by go_grown
  have hqa := HA.out.alloc HG.out (.cells (Array.replicate (N + 1) (.int .u8 0)) 5)
  have hsa : (w1.alloc (.cells (Array.replicate (N + 1) (.int .u8 0)) 5)).heap.size = w1.heap.size + 1 := by simp
  have HBA := Lib.hid hba
  have HQA := Lib.hid hqa
  have HSA := Lib.hid hsa
  have HRow := Lib.hid hrow
  clear hrow hba hqa hsa mk bb a1 a2
  generalize w1.alloc (.cells (Array.replicate (N + 1) (.int .u8 0)) 5) = wA at *
  refine (getStack_any _).mono ?_
  rintro e w2 ⟨rfl, ⟨o, ho⟩, hst⟩
  obtain ⟨b2, hb2⟩ : ∃ b2, wA.heap.size = b2 := ⟨_, rfl⟩
  rw [hb2] at hst HSA ⊢
  have HBS : Hid (Below wA.heap.size wA w2) := Lib.hid (by rw [ho]; go_grown)
  have HS2 : Hid (w2.heap.size = b2 + 1) := Lib.hid (by rw [ho]; simp [hb2])
  have HST := Lib.hid hst
  have HB2' := Lib.hid hb2
  have HW2 := Lib.hid (HBA.out.trans (below_of HBS.out (by rw [hb2, HSA.out]; omega)))
  have h8 := HW2.out.cell (p := ⟨6, 0, none⟩) (lt_of_cell' H8.out)
  rw [H8.out] at h8
  have HQ2 := Lib.hid (HQA.out.on (S := fun _ => False) (Only.ofBelow HBS.out) (fun h => h) (by have := HG.out; have := HSA.out; omega))
  have HR2 := Lib.hid (HRow.out.on HBS.out)
  have HD := Lib.hid (fun (stk : Value) => divisors_nil stk (nw Q) HN2.out w2 h8)
  clear ho hst hb2 h8
  go_wp2_with fail
  refine (maxPow_ten _).mono ?_
  rintro e w3 ⟨rfl, rfl⟩
  go_wp2_with fail
  refine (HD.out _).mono ?_
  rintro e w4 ⟨rfl, rfl⟩
  clear HD
  go_wp2_with fail
  refine (natSet_any G c Q HLT.out _ HQ2.out (by have := HG.out; have := HSA.out; have := HS2.out; omega)).mono ?_
  rintro e w5 ⟨⟨c2, rfl, hq5⟩, hb5, hs5⟩
  obtain ⟨S, hS⟩ : ∃ S, w1.heap.size = S := ⟨_, rfl⟩
  obtain ⟨G2, hG2⟩ : ∃ G2, w4.heap.size = G2 := ⟨_, rfl⟩
  rw [hG2] at hq5 hb5 hs5 HS2 ⊢
  rw [hS] at HBA HRow HSA HW2 HR2 ⊢
  have HR5 := Lib.hid (HR2.out.on (by rw [hG2]; exact hb5))
  have HST5 := Lib.hid ((hb5.cell (p := ⟨b2, 0, none⟩) (by have := HS2.out; dsimp only; omega)).trans HST.out)
  have HB5 := Lib.hid (Below.trans HW2.out (hb5.mono (by have := HSA.out; have := HS2.out; omega)))
  have HQ5 := Lib.hid hq5
  have HS5 := Lib.hid hs5
  have HSS := Lib.hid hS
  clear hq5 hb5 hS hG2 hs5
  have HCV := Lib.hid (fun (stk : Value) => conv_any G2 c2 S Q (N + 1) stk (HQ10.out) (by have := HE4.out; omega) (by have := HSA.out; have := HS2.out; omega) w5 HQ5.out HR5.out)
  go_wp2_with fail
  refine (HCV.out _).mono ?_
  rintro e w6 ⟨rfl, hC⟩
  obtain ⟨L, hL, hDd⟩ := hC.row
  have hval := Dd.val _ _ _ hDd
  rw [Nat.mod_eq_of_lt (HQ10.out)] at hval
  have HO6 := Lib.hid hC.only
  have HL := Lib.hid hL
  have HDg := Lib.hid hDd.digs
  have HLen := Lib.hid hDd.len
  have HV := Lib.hid hval
  clear hC hL hDd hval HCV
  go_wp2_with fail
  go_loopw [7] (fun vi wx => ∃ i : Nat, vi = .int .i64 (i : Int) ∧ w6 = wx ∧ Hid (i < L.length) ∧ Hid (∀ (j : Nat) (h : j < L.length), j < i → L[j].toNat = 48)) (fun vi _ => L.length - (RowKit.intOf vi).toNat)
  case atStart => exact ⟨0, rfl, rfl, Lib.hid (by have := HLen.out; omega), Lib.hid (fun j _ h => absurd h (by omega))⟩
  case round =>
    obtain ⟨i, rfl, rfl, HI, HZ⟩ := hrel
    have hi : i < L.length := HI.out
    have c0 := HL.out.cell i (by rw [bc_length]; exact hi)
    have f0 := HL.out.free i
    have e0 : (bc L)[i]'(by rw [bc_length]; exact hi) = .int .u8 ((L[i].toNat : Nat) : Int) := by simp [bc]
    rw [e0] at c0
    have hlI : (i : Int) < (N : Int) + 1 := by have := HLen.out; omega
    obtain ⟨d, hd⟩ : ∃ d, L[i].toNat = d := ⟨_, rfl⟩
    rw [hd] at c0
    have HD := Lib.hid hd
    clear hd e0
    by_cases h48 : d = 48
    · have g1 : ((d : Int) == 48) = true := by rw [beq_iff_eq]; omega
      have hnext : i + 1 < L.length := by
        refine Decidable.byContradiction fun hge => ?_
        have hz := zeros_ahead L (i + 1) (by omega) (fun j hj hji => by
          by_cases e : j = i
          · subst e; rw [HD.out, h48]
          · exact HZ.out j hj (by omega))
        rw [List.drop_eq_nil_of_le (by omega), HV.out] at hz
        exact HLT.out hz.symm
      have HN := Lib.hid hnext
      have H48 := Lib.hid h48
      clear hnext h48
      go_wp2_with fail
      exact ⟨⟨i + 1, by go_num, by first | rfl | trivial, HN, Lib.hid (fun j hj hji => by
        by_cases e : j = i
        · subst e; rw [HD.out, H48.out]
        · exact HZ.out j hj (by omega))⟩, by simp [RowKit.intOf]; omega⟩
    · have g1 : ((d : Int) == 48) = false := by rw [beq_eq_false_iff_ne]; omega
      have H48 := Lib.hid h48
      clear h48
      have hst6 := (HO6.out.cell (p := ⟨b2, 0, none⟩) (by have := HS2.out; have := HS5.out; dsimp only; omega) (by have := HS2.out; have := HSA.out; dsimp only; omega)).trans HST5.out
      have HB6 := Lib.hid (HB5.out.trans (HO6.out.below (by have := HB5.out.size; have := HSS.out; omega) (fun k hk => by have := HS2.out; have := HSA.out; omega)))
      have HST6 := Lib.hid hst6
      have HNum : Hid (Numeral (L.drop i) Q) := Lib.hid (numeral_tail HDg.out HV.out hi HZ.out (by rw [HD.out]; exact H48.out))
      have HTail : Hid (Tail w6 (.slice (some ⟨S, i, none⟩) (N + 1 - i) (N + 1 - i)) (L.drop i)) := Lib.hid ⟨S, i, N + 1 - i, L, by rw [List.length_drop, HLen.out], HL.out, rfl, hi⟩
      clear hst6
      go_wp2_with fail
      refine leaves_cons (f := 68) (args := #[.pointer (some ⟨b2, 0, none⟩)]) (by simp) (by simp [go_sem]) ?_
      refine (free_any _ b2 _ HST6.out).mono ?_
      rintro e u' w'' ⟨rfl, rfl, rfl⟩
      exact ⟨_, results_tmp rfl _ _ _, ⟨.slice (some ⟨S, i, none⟩) (N + 1 - i) (N + 1 - i), L.drop i, rfl, HTail.out, HNum.out⟩, by rw [HSS.out]; exact HB6.out⟩
set_option maxRecDepth 100000 in
set_option maxHeartbeats 3200000 in
theorem itoa_neg (G c Q B : Nat) (hB0 : 64 ≤ B) (hB1 : B ≤ 128) (h0 : 2 ^ (B - 1) ≤ Q) (h1 : Q < 2 ^ B) (w : World) (h : QAt w G c Q) (hG : G < w.heap.size) (h8 : w.cell? ⟨6, 0, none⟩ = some (.int .i64 8)) :
    Calls Tryz.prog 54 #[.slice (some ⟨G, 0, none⟩) (nw Q) c, .bool true, .int .i64 10] w fun e w' => (∃ v T, e = .returned v ∧ Tail w' v (45 :: T) ∧ Numeral T Q) ∧ Below w.heap.size w w' := by
  obtain ⟨r, e1, e2, e3, e4⟩ := est_at B hB0 hB1
  have hQ : Q ≠ 0 := by have := Nat.two_pow_pos (B - 1); omega
  have HBL := Lib.hid (fun (w : World) (h : QAt w G c Q) => bitLen_any G c Q B hB0 hB1 h0 h1 w h)
  have HQ10 : Hid (Q < 10 ^ (estN B + 1)) := Lib.hid (by omega)
  have HLT := Lib.hid hQ
  have HLG := Lib.hid log2_ten'
  have f10 : floatOfInt .f64 10 = 4621819117588971520 := by kernel_rfl
  have a1 : ∀ wx : World, (binOp .quo 23 (.float .f64 (floatOfInt .f64 (B : Int))) (.float .f64 4614662735865160561)).run Tryz.prog wx = .ok (.float .f64 r) wx := fun wx => run_float_arith wx _ _ _ _ _ _ e1
  have a2 : ∀ wx : World, (convert 23 3 (.float .f64 r)).run Tryz.prog wx = .ok (.int .i64 (estN B : Int)) wx := fun wx => run_convert_float_int wx _ _ _ _ _ _ (by rw [Tryz.underlying23]; rfl) Tryz.underlying3 e2
  have hn0 : 0 < nw Q := by unfold nw; rw [if_neg hQ]; split <;> omega
  have hn1 : ((nw Q : Int) == 0) = false := by rw [beq_eq_false_iff_ne]; omega
  have hn2 : nw Q ≤ 2 := by unfold nw; split; · omega
                            split <;> omega
  have hq : ¬ Q = 0 := hQ
  have HA := Lib.hid h
  have HG := Lib.hid hG
  have H8 := Lib.hid h8
  have HN2 := Lib.hid hn2
  have HE4 := Lib.hid e4
  obtain ⟨N, hN⟩ : ∃ N, estN B = N := ⟨_, rfl⟩
  rw [hN] at a2 e4 HQ10 HE4
  have hNI : (N : Int) ≤ 38 := by omega
  clear h0 h1 hB0 hB1 e1 e2 e3 h hG h8 hn2 hN hQ hq hn0
  have mk : ∀ w : World, (Instr.makeSlice 74 (.int .i64 ((N : Int) + 1 + 1)) (.int .i64 ((N : Int) + 1 + 1))).run Tryz.prog w = .ok (.slice (some ⟨w.heap.size, 0, none⟩) (N + 2) (N + 2)) (w.alloc (.cells (Array.replicate (N + 2) (.int .u8 0)) 5)) := fun w => by
    have := mk_bytes (N + 2) (by omega) w
    rw [show ((N + 2 : Nat) : Int) = ((N : Int) + 1 + 1) by omega] at this
    exact this
  have bb : (10 == bits .and .u64 10 (IntKind.u64.wrap (-10))) = false := by decide
  clear e4
  go_enter_defers Tryz.func54, Tryz.ntmps54
  go_wp2_with fail
  refine (HBL.out _ HA.out).mono ?_
  rintro e w1 ⟨rfl, rfl⟩
  go_wp2_with fail
  refine (HLG.out _).mono ?_
  rintro e w1 ⟨rfl, rfl⟩
  go_wp2_with fail
  have hrow : Row (w1.alloc (.cells (Array.replicate (N + 2) (.int .u8 0)) 5)) w1.heap.size 5 (bc (List.replicate (N + 2) 0)) := by
    have := Row.alloc w1 5 (bc (List.replicate (N + 2) 0))
    rw [show (bc (List.replicate (N + 2) 0)).toArray = Array.replicate (N + 2) (Value.int .u8 0) by unfold bc; rw [List.map_replicate, List.toArray_replicate]; rfl] at this
    exact this
  have hba : Below w1.heap.size w1 (w1.alloc (.cells (Array.replicate (N + 2) (.int .u8 0)) 5)) := by go_grown
  have hqa := HA.out.alloc HG.out (.cells (Array.replicate (N + 2) (.int .u8 0)) 5)
  have hsa : (w1.alloc (.cells (Array.replicate (N + 2) (.int .u8 0)) 5)).heap.size = w1.heap.size + 1 := by simp
  have HBA := Lib.hid hba
  have HQA := Lib.hid hqa
  have HSA := Lib.hid hsa
  have HRow := Lib.hid hrow
  clear hrow hba hqa hsa mk bb a1 a2
  generalize w1.alloc (.cells (Array.replicate (N + 2) (.int .u8 0)) 5) = wA at *
  refine (getStack_any _).mono ?_
  rintro e w2 ⟨rfl, ⟨o, ho⟩, hst⟩
  obtain ⟨b2, hb2⟩ : ∃ b2, wA.heap.size = b2 := ⟨_, rfl⟩
  rw [hb2] at hst HSA ⊢
  have HBS : Hid (Below wA.heap.size wA w2) := Lib.hid (by rw [ho]; go_grown)
  have HS2 : Hid (w2.heap.size = b2 + 1) := Lib.hid (by rw [ho]; simp [hb2])
  have HST := Lib.hid hst
  have HB2' := Lib.hid hb2
  have HW2 := Lib.hid (HBA.out.trans (below_of HBS.out (by rw [hb2, HSA.out]; omega)))
  have h8 := HW2.out.cell (p := ⟨6, 0, none⟩) (lt_of_cell' H8.out)
  rw [H8.out] at h8
  have HQ2 := Lib.hid (HQA.out.on (S := fun _ => False) (Only.ofBelow HBS.out) (fun h => h) (by have := HG.out; have := HSA.out; omega))
  have HR2 := Lib.hid (HRow.out.on HBS.out)
  have HD := Lib.hid (fun (stk : Value) => divisors_nil stk (nw Q) HN2.out w2 h8)
  clear ho hst hb2 h8
  go_wp2_with fail
  refine (maxPow_ten _).mono ?_
  rintro e w3 ⟨rfl, rfl⟩
  go_wp2_with fail
  refine (HD.out _).mono ?_
  rintro e w4 ⟨rfl, rfl⟩
  clear HD
  go_wp2_with fail
  refine (natSet_any G c Q HLT.out _ HQ2.out (by have := HG.out; have := HSA.out; have := HS2.out; omega)).mono ?_
  rintro e w5 ⟨⟨c2, rfl, hq5⟩, hb5, hs5⟩
  obtain ⟨S, hS⟩ : ∃ S, w1.heap.size = S := ⟨_, rfl⟩
  obtain ⟨G2, hG2⟩ : ∃ G2, w4.heap.size = G2 := ⟨_, rfl⟩
  rw [hG2] at hq5 hb5 hs5 HS2 ⊢
  rw [hS] at HBA HRow HSA HW2 HR2 ⊢
  have HR5 := Lib.hid (HR2.out.on (by rw [hG2]; exact hb5))
  have HST5 := Lib.hid ((hb5.cell (p := ⟨b2, 0, none⟩) (by have := HS2.out; dsimp only; omega)).trans HST.out)
  have HB5 := Lib.hid (Below.trans HW2.out (hb5.mono (by have := HSA.out; have := HS2.out; omega)))
  have HQ5 := Lib.hid hq5
  have HS5 := Lib.hid hs5
  have HSS := Lib.hid hS
  clear hq5 hb5 hS hG2 hs5
  have HCV := Lib.hid (fun (stk : Value) => conv_any G2 c2 S Q (N + 2) stk (Nat.lt_of_lt_of_le HQ10.out (Nat.pow_le_pow_right (by decide) (by omega))) (by have := HE4.out; omega) (by have := HSA.out; have := HS2.out; omega) w5 HQ5.out HR5.out)
  go_wp2_with fail
  refine (HCV.out _).mono ?_
  rintro e w6 ⟨rfl, hC⟩
  obtain ⟨L, hL, hDd⟩ := hC.row
  have hval := Dd.val _ _ _ hDd
  rw [Nat.mod_eq_of_lt (Nat.lt_of_lt_of_le HQ10.out (Nat.pow_le_pow_right (by decide) (by omega)))] at hval
  have HO6 := Lib.hid hC.only
  have HL := Lib.hid hL
  have HDg := Lib.hid hDd.digs
  have HLen := Lib.hid hDd.len
  have HV := Lib.hid hval
  have HF : Hid (∀ h : 0 < L.length, L[0].toNat = 48) := Lib.hid (fun h => by
    have hd := hDd.dig (N + 1) (by omega)
    rw [show N + 2 - 1 - (N + 1) = 0 by omega, List.getElem?_eq_getElem h, Nat.div_eq_of_lt HQ10.out] at hd
    rw [Option.some.inj hd]
    rfl)
  clear hC hL hDd hval HCV
  go_wp2_with fail
  go_loopw [7] (fun vi wx => ∃ i : Nat, vi = .int .i64 (i : Int) ∧ w6 = wx ∧ Hid (i < L.length) ∧ Hid (∀ (j : Nat) (h : j < L.length), j < i → L[j].toNat = 48)) (fun vi _ => L.length - (RowKit.intOf vi).toNat)
  case atStart => exact ⟨0, rfl, rfl, Lib.hid (by have := HLen.out; omega), Lib.hid (fun j _ h => absurd h (by omega))⟩
  case round =>
    obtain ⟨i, rfl, rfl, HI, HZ⟩ := hrel
    have hi : i < L.length := HI.out
    have c0 := HL.out.cell i (by rw [bc_length]; exact hi)
    have f0 := HL.out.free i
    have e0 : (bc L)[i]'(by rw [bc_length]; exact hi) = .int .u8 ((L[i].toNat : Nat) : Int) := by simp [bc]
    rw [e0] at c0
    have hlI : (i : Int) < (N : Int) + 2 := by have := HLen.out; omega
    obtain ⟨d, hd⟩ : ∃ d, L[i].toNat = d := ⟨_, rfl⟩
    rw [hd] at c0
    have HD := Lib.hid hd
    clear hd e0
    by_cases h48 : d = 48
    · have g1 : ((d : Int) == 48) = true := by rw [beq_iff_eq]; omega
      have hnext : i + 1 < L.length := by
        refine Decidable.byContradiction fun hge => ?_
        have hz := zeros_ahead L (i + 1) (by omega) (fun j hj hji => by
          by_cases e : j = i
          · subst e; rw [HD.out, h48]
          · exact HZ.out j hj (by omega))
        rw [List.drop_eq_nil_of_le (by omega), HV.out] at hz
        exact HLT.out hz.symm
      have HN := Lib.hid hnext
      have H48 := Lib.hid h48
      clear hnext h48
      go_wp2_with fail
      exact ⟨⟨i + 1, by go_num, by first | rfl | trivial, HN, Lib.hid (fun j hj hji => by
        by_cases e : j = i
        · subst e; rw [HD.out, H48.out]
        · exact HZ.out j hj (by omega))⟩, by simp [RowKit.intOf]; omega⟩
    · have g1 : ((d : Int) == 48) = false := by rw [beq_eq_false_iff_ne]; omega
      have H48 := Lib.hid h48
      clear h48
      have hi1 : i ≠ 0 := by
        rintro rfl
        exact H48.out (by rw [← HD.out]; exact HF.out hi)
      obtain ⟨i', rfl⟩ : ∃ i', i = i' + 1 := ⟨i - 1, by omega⟩
      have hst6 := (HO6.out.cell (p := ⟨b2, 0, none⟩) (by have := HS2.out; have := HS5.out; dsimp only; omega) (by have := HS2.out; have := HSA.out; dsimp only; omega)).trans HST5.out
      have HO7 := Lib.hid (HO6.out.setCell (p := ⟨S, i', none⟩) (Or.inr rfl) (.int .u8 45))
      have HB6 := Lib.hid (HB5.out.trans (HO7.out.below (by have := HB5.out.size; have := HSS.out; omega) (fun k hk => by have := HS2.out; have := HSA.out; omega)))
      have HST6 : Hid ((w6.setCell ⟨S, i', none⟩ (.int .u8 45)).cell? ⟨b2, 0, none⟩ = some (.pointer none)) := Lib.hid (by
        rw [World.cell?_setCell_other _ _ _ _ (by have := HSA.out; simp; try omega)]
        exact hst6)
      have HNum : Hid (Numeral (L.drop (i' + 1)) Q) := Lib.hid (numeral_tail HDg.out HV.out hi HZ.out (by rw [HD.out]; exact H48.out))
      have HTail : Hid (Tail (w6.setCell ⟨S, i', none⟩ (.int .u8 45)) (.slice (some ⟨S, i', none⟩) (N + 2 - i') (N + 2 - i')) (45 :: L.drop (i' + 1))) := Lib.hid ⟨S, i', N + 2 - i', L.set i' 45, by rw [List.length_cons, List.length_drop, HLen.out, show N + 2 - (i' + 1) + 1 = N + 2 - i' by have := HLen.out; omega], by rw [bc_set]; exact HL.out.set _ _, by
        rw [List.drop_eq_getElem_cons (by rw [List.length_set]; omega), List.getElem_set_self, List.drop_set_of_lt (by omega)], by rw [List.length_set]; omega⟩
      have c1 := HL.out.cell i' (by rw [bc_length]; omega)
      have f1 := HL.out.free i'
      rw [Int.natCast_add, Int.natCast_one] at *
      have hlI2 : (i' : Int) < (N : Int) + 2 := by omega
      clear hst6 hi1
      go_wp2_with fail
      refine leaves_cons (f := 68) (args := #[.pointer (some ⟨b2, 0, none⟩)]) (by simp) (by simp [go_sem]) ?_
      refine (free_any _ b2 _ HST6.out).mono ?_
      rintro e u' w'' ⟨rfl, rfl, rfl⟩
      exact ⟨_, results_tmp rfl _ _ _, ⟨.slice (some ⟨S, i', none⟩) (N + 2 - i') (N + 2 - i'), L.drop (i' + 1), rfl, HTail.out, HNum.out⟩, by rw [HSS.out]; exact HB6.out⟩
end Go.Proofs.YtdbbmknjldapbaaGreatDoor
