/-
  A natural number written in decimal into a slice of bytes (package bigall, convertWords), walked.
-/
import Derived.Test.YtdbbmknjldapbaaGreatDoorQa
import Derived.Test.YtdbbmknjldapbaaGreatDoorSlc
namespace Go.Proofs.YtdbbmknjldapbaaGreatDoor
set_option linter.unusedVariables false
set_option linter.unusedSimpArgs false
open Go.RowKit Go.Lib

/-- The state of the writing: k digits of x stand at the end of block S. -/
structure Cst (w0 w : World) (G S x N k : Nat) : Prop where
  only : Only (fun j => j = G ∨ j = S) w0 w
  row : ∃ L, Row w S 5 (bc L) ∧ Dd x N k L
theorem Cst.drewN {w0 w : World} {G S x N k : Nat} (h : Cst w0 w G S x N k) (n : Nat) : Cst w0 (w.drewN n) G S x N k := ⟨h.only.drewN n, h.row⟩
theorem bc_set (L : List UInt8) (i : Nat) (c : UInt8) : bc (L.set i c) = (bc L).set i (.int .u8 (c.toNat : Int)) := by
  unfold bc
  rw [List.map_set]
theorem Cst.put {w0 w : World} {G S x N k : Nat} (h : Cst w0 w G S x N k) (hk : k < N) (c : UInt8) (hc : c = UInt8.ofNat (48 + x / 10 ^ k % 10)) : Cst w0 (w.setCell ⟨S, N - 1 - k, none⟩ (.int .u8 (c.toNat : Int))) G S x N (k + 1) := by
  obtain ⟨L, h1, h2⟩ := h.row
  refine ⟨h.only.setCell (Or.inr rfl) _, L.set (N - 1 - k) c, ?_, h2.step hk c hc⟩
  rw [bc_set]
  exact h1.set _ _
theorem Cst.cell {w0 w : World} {G S x N k : Nat} (h : Cst w0 w G S x N k) (i : Nat) (hi : i < N) : ∃ v, w.cell? ⟨S, i, none⟩ = some v := by
  obtain ⟨L, h1, h2⟩ := h.row
  exact ⟨_, h1.cell i (by rw [bc_length, h2.len]; exact hi)⟩
theorem Cst.free {w0 w : World} {G S x N k : Nat} (h : Cst w0 w G S x N k) (i : Nat) : w.frozen? ⟨S, i, none⟩ = false := by
  obtain ⟨L, h1, h2⟩ := h.row
  exact h1.free i
theorem Cst.next {w0 w w' : World} {G S x N k : Nat} (h : Cst w0 w G S x N k) (ho : Only (fun j => j = G) w w') (hn : S ≠ G) : Cst w0 w' G S x N k := by
  obtain ⟨L, h1, h2⟩ := h.row
  exact ⟨h.only.trans (ho.mono (fun j hj => Or.inl hj)), L, (ho.block S h1.lt hn).trans h1, h2⟩
theorem QAt.set {w : World} {G c Q S i : Nat} (h : QAt w G c Q) (hn : S ≠ G) (v : Value) : QAt (w.setCell ⟨S, i, none⟩ v) G c Q :=
  ⟨fun hq => by rw [World.cell?_setCell_other _ _ _ _ (by have hn' : G ≠ S := fun e => hn e.symm; simp [hn'])]; exact h.c0 hq, fun hq => ⟨(h.c1 hq).1, by rw [World.cell?_setCell_other _ _ _ _ (by have hn' : G ≠ S := fun e => hn e.symm; simp [hn'])]; exact (h.c1 hq).2⟩,
    fun j => by have := h.free j; go_simp, h.cap, h.lt⟩
theorem QAt.drewN {w : World} {G c Q : Nat} (h : QAt w G c Q) (n : Nat) : QAt (w.drewN n) G c Q := ⟨h.c0, h.c1, h.free, h.cap, h.lt⟩
set_option maxRecDepth 100000 in
set_option maxHeartbeats 3200000 in
theorem conv_any (G c S x N : Nat) (stk : Value) (hN : x < 10 ^ N) (hN1 : N ≤ 1000) (hn : S ≠ G) (w : World) (hQ : QAt w G c x) (hS : Row w S 5 (bc (List.replicate N 0))) :
    Calls Tryz.prog 71 #[.slice (some ⟨G, 0, none⟩) (nw x) c, stk, .slice (some ⟨S, 0, none⟩) N N, .int .u64 10, .int .i64 19, .int .u64 10000000000000000000, .slice none 0 0] w fun e w' => e = .returned (.tuple #[]) ∧ Cst w w' G S x N N := by
  have HQ := Lib.hid hQ
  have HS := Lib.hid hS
  have HN := Lib.hid hN
  have HNE := Lib.hid hn
  clear hN hQ hS hn
  go_enter Tryz.func71, Tryz.ntmps71
  go_wp2_with fail
  go_loopw [0, 19, 20] (fun vq vi vr wr => ∃ (K k Q i : Nat), vq = .slice (some ⟨G, 0, none⟩) (nw Q) c ∧ vi = .int .i64 (i : Int) ∧ Hid (i + k = N) ∧ Hid (k = min K N) ∧ Hid (Q = x / 10 ^ K) ∧ (∃ r : Int, vr = .int .u64 r) ∧ Cst w wr G S x N k ∧ QAt wr G c Q) (fun _ vi _ _ => (RowKit.intOf vi).toNat)
  case atStart => exact ⟨0, 0, x, N, rfl, rfl, Lib.hid (by omega), Lib.hid (by omega), Lib.hid (by simp), ⟨0, rfl⟩, ⟨Only.refl _ _, _, HS.out, by simp, fun j hj => absurd hj (by omega)⟩, HQ.out⟩
  case round =>
    obtain ⟨K, k, Q, i, rfl, rfl, HI, HK, HX, ⟨r0, rfl⟩, hC, hQ⟩ := hrel
    have HC := Lib.hid hC
    have HQQ := Lib.hid hQ
    clear hC hQ
    by_cases hQ0 : Q = 0
    · have hx0 : x / 10 ^ k = 0 := by
        have h1 := HK.out
        have h2 := HX.out
        have h3 := HN.out
        by_cases hKN : K ≤ N
        · rw [show k = K by omega]; omega
        · rw [show k = N by omega]; exact Nat.div_eq_of_lt h3
      have HX0 := Lib.hid hx0
      have hnw : nw Q = 0 := by unfold nw; rw [if_pos hQ0]
      rw [hnw]
      clear hx0 hQ0
      go_wp2_with fail
      go_loopw [19] (fun vi wx => ∃ (i k : Nat), vi = .int .i64 (i : Int) ∧ Hid (i + k = N) ∧ Hid (x / 10 ^ k = 0) ∧ Cst w wx G S x N k) (fun vi _ => (RowKit.intOf vi).toNat)
      case atStart => exact ⟨i, k, rfl, HI, HX0, HC.out⟩
      case round =>
        obtain ⟨i, k, rfl, HI2, HX2, hC⟩ := hrel
        have HC := Lib.hid hC
        clear hC
        by_cases hi0 : 0 < i
        · obtain ⟨i', rfl⟩ : ∃ i', i = i' + 1 := ⟨i - 1, by omega⟩
          have hiI : (i' : Int) ≤ 999 := by have := HI2.out; omega
          have hli : (i' : Int) < (N : Int) := by have := HI2.out; omega
          obtain ⟨v0, c0⟩ := HC.out.cell i' (by have := HI2.out; omega)
          have f0 := HC.out.free i'
          rw [Int.natCast_add, Int.natCast_one]
          clear hi0
          go_wp2_with fail
          have hput := HC.out.put (by have := HI2.out; omega) (UInt8.ofNat 48) (by rw [HX2.out])
          rw [show N - 1 - k = i' by have := HI2.out; omega, show (((UInt8.ofNat 48).toNat : Nat) : Int) = 48 from rfl] at hput
          exact ⟨⟨i', k + 1, rfl, Lib.hid (by have := HI2.out; omega), Lib.hid (by rw [Nat.pow_succ, ← Nat.div_div_eq_div_mul, HX2.out]), hput⟩, by simp [RowKit.intOf]⟩
        · obtain rfl : i = 0 := by omega
          go_wp2_with fail
          go_end0
          have hk := HI2.out
          rw [Nat.zero_add] at hk
          exact ⟨rfl, by rw [← hk]; rw [hk]; have := HC.out; rw [hk] at this; exact this⟩
    · have hnw : 0 < nw Q := by unfold nw; rw [if_neg hQ0]; split <;> omega
      have hiI : (i : Int) ≤ 1000 := by have := HI.out; omega
      go_wp2_with fail
      refine (divW_any G c Q hQ0 wr HQQ.out).mono ?_
      rintro e w1 ⟨rfl, hq1, ho1⟩
      have HQ1 := Lib.hid hq1
      have HC1 := Lib.hid (HC.out.next ho1 HNE.out)
      clear hq1 ho1
      obtain ⟨Q1, hQ1⟩ : ∃ Q1, Q / 10000000000000000000 = Q1 := ⟨_, rfl⟩
      obtain ⟨R, hR⟩ : ∃ R, Q % 10000000000000000000 = R := ⟨_, rfl⟩
      rw [hQ1] at HQ1 ⊢
      rw [hR]
      have HQ1' := Lib.hid hQ1
      have HR := Lib.hid hR
      have HRM : Hid (R < 10000000000000000000) := Lib.hid (by omega)
      clear hQ1 hR hnw
      go_wp2_with fail
      go_loopw [19, 20, 21] (fun vi vr vj wx => ∃ (j i r : Nat), vi = .int .i64 (i : Int) ∧ vr = .int .u64 (r : Int) ∧ vj = .int .i64 (j : Int) ∧ Hid (r = R / 10 ^ j) ∧ Hid (i + (k + j) = N) ∧ j ≤ 19 ∧ Cst w wx G S x N (k + j) ∧ QAt wx G c Q1) (fun _ _ vj _ => 19 - (RowKit.intOf vj).toNat)
      case atStart => exact ⟨0, i, R, rfl, rfl, rfl, Lib.hid (by simp), Lib.hid (by have := HI.out; omega), by omega, HC1.out, HQ1.out⟩
      case round =>
        obtain ⟨j, i, r, rfl, rfl, rfl, Hr, HI2, hj, hC, hQ⟩ := hrel
        have HC := Lib.hid hC
        have HQQ := Lib.hid hQ
        clear hC hQ
        by_cases hcont : j < 19 ∧ 0 < i
        · obtain ⟨hj19, hi0⟩ := hcont
          obtain ⟨i', rfl⟩ : ∃ i', i = i' + 1 := ⟨i - 1, by omega⟩
          have hiI : (i' : Int) ≤ 999 := by have := HI2.out; omega
          obtain ⟨t, ht⟩ : ∃ t, r / 10 = t := ⟨_, rfl⟩
          obtain ⟨d, hd⟩ : ∃ d, r % 10 = d := ⟨_, rfl⟩
          have hrM : r < 10000000000000000000 := by rw [Hr.out]; exact Nat.lt_of_le_of_lt (Nat.div_le_self _ _) HRM.out
          have e1 : (r : Int).tdiv 10 = (t : Int) := by rw [Int.tdiv_eq_ediv_of_nonneg (by omega)]; omega
          have e2 : (r : Int) / 10 = (t : Int) := by omega
          have e3 : IntKind.u64.wrap ((t : Int) * 10) = (t : Int) * 10 := by rw [IntKind.wrap_u64]; omega
          have e4 : (r : Int) - (t : Int) * 10 = (d : Int) := by omega
          have e5 : IntKind.u64.wrap (t : Int) = (t : Int) := by rw [IntKind.wrap_u64]; omega
          have e6 : IntKind.u8.wrap (d : Int) = (d : Int) := by rw [IntKind.wrap_u8]; omega
          have e7 : (d : Int) ≤ 9 := by omega
          have e8 : IntKind.u64.wrap (d : Int) = (d : Int) := by rw [IntKind.wrap_u64]; omega
          have g1 : (j : Int) < 19 := by omega
          obtain ⟨v0, c0⟩ := HC.out.cell i' (by have := HI2.out; omega)
          have f0 := HC.out.free i'
          have HT := Lib.hid ht
          have HDd := Lib.hid hd
          rw [Int.natCast_add, Int.natCast_one]
          have hli : (i' : Int) < (N : Int) := by have := HI2.out; omega
          clear ht hd hrM hi0
          go_wp2_with fail
          have hdig : x / 10 ^ (k + j) % 10 = d := by
            have hkK : k = K := by
              have h1 := HK.out
              have h2 := HX.out
              have h3 := HN.out
              by_cases hKN : K ≤ N
              · omega
              · exfalso
                have : x / 10 ^ K = 0 := Nat.div_eq_of_lt (Nat.lt_of_lt_of_le h3 (Nat.pow_le_pow_right (by decide) (by omega)))
                omega
            rw [hkK, ← digit_in x K j hj19, ← HX.out, HR.out, ← Hr.out]
            exact HDd.out
          have hput := HC.out.put (by have := HI2.out; omega) (UInt8.ofNat (48 + d)) (by rw [hdig])
          rw [show N - 1 - (k + j) = i' by have := HI2.out; omega, show (((UInt8.ofNat (48 + d)).toNat : Nat) : Int) = 48 + (d : Int) by rw [UInt8.toNat_ofNat']; omega] at hput
          exact ⟨⟨j + 1, i', t, rfl, rfl, by go_num, Lib.hid (by rw [← HT.out, Hr.out, Nat.div_div_eq_div_mul, ← Nat.pow_succ]), Lib.hid (by have := HI2.out; omega), by omega, hput, HQQ.out.set HNE.out _⟩, by simp [RowKit.intOf]; omega⟩
        · have HE : Hid (k + j = min (K + 19) N ∧ k < k + j) := Lib.hid (by
            have h1 := HK.out
            have h2 := HX.out
            have h3 := HN.out
            have h4 := HI2.out
            have hKN : K < N := by
              refine Decidable.byContradiction fun hge => ?_
              have : x / 10 ^ K = 0 := Nat.div_eq_of_lt (Nat.lt_of_lt_of_le h3 (Nat.pow_le_pow_right (by decide) (by omega)))
              omega
            omega)
          have HX1 : Hid (Q1 = x / 10 ^ (K + 19)) := Lib.hid (by rw [← HQ1'.out, HX.out, Nat.div_div_eq_div_mul, Nat.pow_add])
          by_cases hj19 : j < 19
          · obtain rfl : i = 0 := by omega
            have g1 : (j : Int) < 19 := by omega
            go_wp2_with fail
            go_roundw
            case rel => exact ⟨K + 19, k + j, Q1, 0, rfl, rfl, HI2, Lib.hid HE.out.1, HX1, ⟨_, rfl⟩, HC.out, HQQ.out⟩
            case measure => have := HE.out; have := HI2.out; have := HI.out; simp [RowKit.intOf]; omega
          · have g1 : ¬ (j : Int) < 19 := by omega
            go_wp2_with fail
            go_roundw
            case rel => exact ⟨K + 19, k + j, Q1, i, rfl, rfl, HI2, Lib.hid HE.out.1, HX1, ⟨_, rfl⟩, HC.out, HQQ.out⟩
            case measure => have := HE.out; have := HI2.out; have := HI.out; simp [RowKit.intOf]; omega
end Go.Proofs.YtdbbmknjldapbaaGreatDoor
