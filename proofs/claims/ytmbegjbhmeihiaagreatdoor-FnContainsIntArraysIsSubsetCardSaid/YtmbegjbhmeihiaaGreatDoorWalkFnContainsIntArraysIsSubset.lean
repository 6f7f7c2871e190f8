/-
  The walk of the law FnContainsIntArraysIsSubset.
-/
import Derived.Test.YtmbegjbhmeihiaaGreatDoorCtn
import Derived.Test.YtmbegjbhmeihiaaGreatDoorCpy
import Derived.Deep.DeepCutAuto
namespace Go.Proofs.YtmbegjbhmeihiaaGreatDoor
set_option linter.unusedVariables false
set_option linter.unusedSimpArgs false
open Go.RowKit Go.Lib

set_option maxHeartbeats 800000 in
theorem bytes_FnContainsIntArraysIsSubset (a1 a2 : Option Addr) (n1 c1 n2 c2 : Nat) (h1 : n1 ≤ 9223372036854775807) (h2 : n2 ≤ 9223372036854775807) (w : World) :
    Calls Tryz.prog 11 #[.slice a1 n1 c1, .slice a2 n2 c2] w fun e w' => (∃ b, e = .returned (.bool b)) ∧ Below w.heap.size w w' := by
  go_enter Tryz.func11, Tryz.ntmps11
  go_wp2
  repeat (any_goals go_region; any_goals go_wp2)
  all_goals (go_ret; exact ⟨⟨_, rfl⟩, by go_grown⟩)
theorem intSize : (Tryz.prog.info? 3).map (·.size) = some 1 := by kernel_rfl
theorem isInts_one (l : List Int) : ∀ u ∈ isInts l, u.oneCell' = true := by
  intro u hu
  simp only [isInts, List.mem_map] at hu
  obtain ⟨b, _, rfl⟩ := hu
  rfl
theorem splice_all (xs ys : List Value) (h : xs.length = ys.length) : splice xs 0 ys = ys := by
  unfold splice
  simp [← h]
/-- What copy leaves of a fresh block. -/
theorem copy_ints (n c : Nat) (ad : Addr) (zs : List Int) (hn : zs.length = n) (w0 : World) (hS : SliceOf w0 (.slice (some ad) n c) (isInts zs)) :
    ∃ w2, (Builtin.copy_ #[25, 25] 3 #[.slice (some ⟨w0.heap.size, 0, none⟩) n n, .slice (some ad) n c]).run Tryz.prog (w0.alloc (.cells (Array.replicate n (.int .i64 0)) 3)) = .ok (.int .i64 (n : Int)) w2 ∧ SliceOf w2 (.slice (some ⟨w0.heap.size, 0, none⟩) n n) (isInts zs) ∧ Below w0.heap.size w0 w2 := by
  have hb : Below w0.heap.size w0 (w0.alloc (.cells (Array.replicate n (.int .i64 0)) 3)) := by go_grown
  have hR := Row.alloc w0 3 (List.replicate n (.int .i64 0))
  rw [List.toArray_replicate] at hR
  obtain ⟨w2, h1, h2, h3⟩ := copy_run (P := Tryz.prog) 25 25 3 3 Tryz.underlying25 intSize w0.heap.size 0 n n n c (some ad) (isInts zs) (List.replicate n (.int .i64 0)) 3 (by rw [isInts_len, hn]) (Nat.le_refl _) (by simp) (isInts_one zs) _ hR (hS.on hb)
  rw [splice_all _ _ (by rw [isInts_len, hn]; simp)] at h2
  refine ⟨w2, h1, ?_, hb.trans (h3.below hb.size (fun k hk => by rw [hk]; exact Nat.le_refl _))⟩
  have := h2.slice n
  rwa [isInts_len, hn] at this
set_option maxRecDepth 100000 in
set_option maxHeartbeats 3200000 in
theorem walk_main (a1 a2 : Option Addr) (nl nr c1 c2 : Nat) (l r : List Int) (W : World) (hl : l.length = nl) (hr : r.length = nr) (hnl : nl ≤ 4096) (hnr : nr ≤ 4096) (hL : SliceOf W (.slice a1 nl c1) (isInts l)) (hR : SliceOf W (.slice a2 nr c2) (isInts r)) :
    Calls Tryz.prog 4 #[.slice a1 nl c1, .slice a2 nr c2] W fun e w' => e = .returned (.bool true) ∧ Below W.heap.size W w' := by
  have HZ := Lib.hid (bytes_FnContainsIntArraysIsSubset a1 a2 nl c1 nr c2 (by omega) (by omega) W)
  have mk1 := mk_ints nl (by omega)
  have mk2 := mk_ints nr (by omega)
  have HL := Lib.hid hL
  have HR := Lib.hid hR
  have HN1 := Lib.hid hl
  have HN2 := Lib.hid hr
  clear hL hR hl hr
  go_enter Tryz.func4, Tryz.ntmps4
  go_wp2_with fail
  refine HZ.out.mono ?_
  rintro e w0 ⟨⟨bb, rfl⟩, hb0⟩
  cases bb
  · go_wp2_with fail
    go_ret
    exact ⟨rfl, hb0⟩
  have HB0 := Lib.hid hb0
  have HL0 := Lib.hid (HL.out.on hb0)
  have HR0 := Lib.hid (HR.out.on hb0)
  clear hb0 HZ
  go_upto_if 25 with fail
  go_cut [0] (fun s0 wx => ∃ a c, s0 = .slice a nl c ∧ Hid (SliceOf wx (.slice a nl c) (isInts l)) ∧ Hid (Below w0.heap.size w0 wx))
  case first =>
    rcases a1 with _ | ad1
    · go_wp2_with fail
      go_meet
      exact ⟨none, c1, rfl, HL0, Lib.hid (Below.refl _ _)⟩
    · obtain ⟨w2, hc, hs, hbw⟩ := copy_ints nl c1 ad1 l HN1.out w0 HL0.out
      have HS := Lib.hid hs
      have HW := Lib.hid hbw
      clear hs hbw
      go_wp2_with fail
      go_meet
      exact ⟨_, _, rfl, HS, HW⟩
  case rest =>
    obtain ⟨a, c, rfl, HSL, HW1⟩ := hcut
    obtain ⟨we, hwe⟩ : ∃ x, x = wc := ⟨_, rfl⟩
    subst hwe
    go_upto_if 34 with fail
    have HR1 := Lib.hid (HR0.out.on HW1.out)
    go_cut [1] (fun s1 wx => ∃ a' c', s1 = .slice a' nr c' ∧ Hid (SliceOf wx (.slice a' nr c') (isInts r)) ∧ Hid (Below we.heap.size we wx))
    case first =>
      rcases a2 with _ | ad2
      · go_wp2_with fail
        go_meet
        exact ⟨none, c2, rfl, HR1, Lib.hid (Below.refl _ _)⟩
      · obtain ⟨w2, hc, hs, hbw⟩ := copy_ints nr c2 ad2 r HN2.out we HR1.out
        have HS := Lib.hid hs
        have HW := Lib.hid hbw
        clear hs hbw
        go_wp2_with fail
        go_meet
        exact ⟨_, _, rfl, HS, HW⟩
    case rest =>
      obtain ⟨a', c', rfl, HSR, HW2⟩ := hcut
      obtain ⟨wd, hwd⟩ : ∃ x, x = wc := ⟨_, rfl⟩
      subst hwd
      have HB2 := Lib.hid (HB0.out.trans ((below_of HW1.out HB0.out.size).trans (below_of HW2.out (by have := HB0.out.size; have := HW1.out.size; omega))))
      have HSL2 := Lib.hid (HSL.out.on HW2.out)
      have HSO := Lib.hid (sorted_any _ l nl HN1.out hnl wd HSL2.out)
      clear mk1 mk2 HW1 HW2 HSL HR1 HR0 HL0 HB0 HL HR
      go_wp2_with fail
      refine HSO.out.mono ?_
      rintro e w3 ⟨⟨ys, rfl, hasc, hmem, hyl, hrow⟩, hb3⟩
      have HB3 := Lib.hid (HB2.out.trans (below_of hb3 HB2.out.size))
      have HSL3 := Lib.hid (HSL2.out.on hb3)
      have HSR3 := Lib.hid (HSR.out.on hb3)
      have HM := Lib.hid (fun (x : Int) (wx : World) (hb : Below w3.heap.size w3 wx) => member_any wd.heap.size nl nl ys x hasc hyl hnl wx (hrow.on hb))
      have HMEM := Lib.hid hmem
      clear hasc hmem hyl hrow hb3 HSO
      go_wp2_with fail
      go_loopw [8, 9] (fun vb vi wr => ∃ (k : Nat) (b : Bool), vi = .int .i64 (k : Int) ∧ vb = .bool b ∧ k ≤ nr ∧ Hid (b = true ↔ ∀ j (h : j < r.length), j < k → r[j] ∈ l) ∧ Hid (Below w3.heap.size w3 wr)) (fun _ vi _ => nr - (RowKit.intOf vi).toNat)
      case atStart => exact ⟨0, true, rfl, rfl, Nat.zero_le _, Lib.hid ⟨fun _ j _ h => absurd h (Nat.not_lt_zero _), fun _ => rfl⟩, Lib.hid (Below.refl _ _)⟩
      case round =>
        obtain ⟨k, b, rfl, rfl, hk, HIF, HBr⟩ := hrel
        have hsr := HSR3.out.on HBr.out
        by_cases hkn : k < nr
        · have hkz : k < r.length := by rw [HN2.out]; exact hkn
          obtain ⟨a9, c9, hv9, hat⟩ := hsr.form
          rw [isInts_len, HN2.out] at hv9 hat
          obtain ⟨b9, o9, hb9, hlt9, hcell⟩ := hat (by omega)
          injection hv9 with hv9 _ hc9
          subst hc9
          subst hv9
          subst hb9
          have c1 := hcell k _ (isInts_get r k hkz)
          generalize hy : r[k] = y at c1
          have HY := Lib.hid hy
          have HMY := Lib.hid (HM.out y wr HBr.out)
          clear hy hcell hat hsr
          go_wp2_with fail
          refine HMY.out.mono ?_
          rintro e w4 ⟨⟨x, rfl, hx⟩, hb4'⟩
          have HB4 := Lib.hid (HBr.out.trans (below_of hb4' HBr.out.size))
          have HX := Lib.hid (hx.trans (HMEM.out y))
          clear hb4' hx HMY
          cases x
          · have HIF2 : Hid (false = true ↔ ∀ j (h : j < r.length), j < k + 1 → r[j] ∈ l) := Lib.hid ⟨fun h => absurd h (by decide), fun h => by
              have h1 := h k hkz (by omega)
              rw [HY.out] at h1
              exact absurd (HX.out.2 h1) (by decide)⟩
            go_wp2_with fail
            go_roundw
            case rel => exact ⟨k + 1, false, by go_num, rfl, by omega, HIF2, HB4⟩
            case measure => simp [RowKit.intOf]; omega
          · have HIF2 : Hid (b = true ↔ ∀ j (h : j < r.length), j < k + 1 → r[j] ∈ l) := Lib.hid ⟨fun h j hj hjk => by
              rcases Nat.lt_or_ge j k with h1 | h1
              · exact HIF.out.1 h j hj h1
              · obtain rfl : j = k := by omega
                rw [HY.out]
                exact HX.out.1 rfl, fun h => HIF.out.2 (fun j hj hjk => h j hj (by omega))⟩
            go_wp2_with fail
            go_roundw
            case rel => exact ⟨k + 1, b, by go_num, rfl, by omega, HIF2, HB4⟩
            case measure => simp [RowKit.intOf]; omega
        · obtain rfl : k = nr := by omega
          have HZZ := Lib.hid (zzcontains _ _ l r nl k HN1.out HN2.out (by omega) (by omega) wr (HSL3.out.on HBr.out) hsr)
          have HBX := Lib.hid (HB3.out.trans (below_of HBr.out HB3.out.size))
          have HIF2 : Hid (b = true ↔ ∀ y ∈ r, y ∈ l) := Lib.hid (HIF.out.trans ⟨fun h y hy => by
            obtain ⟨j, hj, rfl⟩ := List.getElem_of_mem hy
            exact h j hj (by rw [HN2.out] at hj; exact hj), fun h j hj _ => h _ (List.getElem_mem hj)⟩)
          clear hsr HIF HBr HSR3 HSL3 HM
          go_wp2_with fail
          refine HZZ.out.mono ?_
          rintro e w4 ⟨⟨x, rfl, hx⟩, hb4'⟩
          have HB4 := Lib.hid (HBX.out.trans (below_of hb4' HBX.out.size))
          have hbx : b = x := by
            rcases Bool.eq_false_or_eq_true b with h | h <;> rcases Bool.eq_false_or_eq_true x with h' | h'
            · rw [h, h']
            · exact absurd (hx.2 (HIF2.out.1 h)) (by rw [h']; decide)
            · exact absurd (HIF2.out.2 (hx.1 h')) (by rw [h]; decide)
            · rw [h, h']
          subst hbx
          clear hb4' hx HZZ HIF2
          cases b
          all_goals go_wp2_with fail
          all_goals (try (go_region; go_wp2_with fail))
          all_goals (go_ret; exact ⟨rfl, by first | exact HB4.out | exact HB4.out.drew⟩)
set_option maxRecDepth 100000 in
set_option maxHeartbeats 1600000 in
theorem walk_FnContainsIntArraysIsSubset (v1 : Value) (l : List Int) (v2 : Value) (r : List Int) (W : World) (hL : SliceOf W v1 (l.map (Value.int .i64))) (b1 : ∀ n ∈ l, (Lit.int .i64 n).wf = true) (m1 : l.length ≤ maxLen) (hR : SliceOf W v2 (r.map (Value.int .i64))) (b2 : ∀ n ∈ r, (Lit.int .i64 n).wf = true) (m2 : r.length ≤ maxLen) (hD : Tabs W) :
    Calls Tryz.prog 4 #[v1, v2] W fun e w' => e = .returned (.bool true) ∧ Below W.heap.size W w' := by
  have hL' : SliceOf W v1 (isInts l) := hL
  have hR' : SliceOf W v2 (isInts r) := hR
  clear hD b1 b2 hL hR
  obtain ⟨a1, c1, rfl, _⟩ := hL'.form
  obtain ⟨a2, c2, rfl, _⟩ := hR'.form
  rw [isInts_len] at hL' hR' ⊢
  rw [isInts_len]
  unfold maxLen at m1 m2
  obtain ⟨nl, hl⟩ : ∃ n, l.length = n := ⟨_, rfl⟩
  obtain ⟨nr, hr⟩ : ∃ n, r.length = n := ⟨_, rfl⟩
  rw [hl] at m1 hL' ⊢
  rw [hr] at m2 hR' ⊢
  by_cases g1 : 4096 < nl
  · have q1 : (4096 : Int) < (nl : Int) := by omega
    have HZ := Lib.hid (bytes_FnContainsIntArraysIsSubset a1 a2 nl c1 nr c2 (by omega) (by omega) W)
    clear hL' hR' hl hr
    go_enter Tryz.func4, Tryz.ntmps4
    go_wp2_with fail
    refine HZ.out.mono ?_
    rintro e w0 ⟨⟨bb, rfl⟩, hb0⟩
    cases bb
    all_goals (go_wp2_with fail; go_ret; exact ⟨rfl, hb0⟩)
  by_cases g2 : 4096 < nr
  · have q1 : (4096 : Int) < (nr : Int) := by omega
    have q2 : ¬ (4096 : Int) < (nl : Int) := by omega
    have HZ := Lib.hid (bytes_FnContainsIntArraysIsSubset a1 a2 nl c1 nr c2 (by omega) (by omega) W)
    clear hL' hR' hl hr
    go_enter Tryz.func4, Tryz.ntmps4
    go_wp2_with fail
    refine HZ.out.mono ?_
    rintro e w0 ⟨⟨bb, rfl⟩, hb0⟩
    cases bb
    all_goals (go_wp2_with fail; go_ret; exact ⟨rfl, hb0⟩)
  exact walk_main a1 a2 nl nr c1 c2 l r W hl hr (by omega) (by omega) hL' hR'
end Go.Proofs.YtmbegjbhmeihiaaGreatDoor
