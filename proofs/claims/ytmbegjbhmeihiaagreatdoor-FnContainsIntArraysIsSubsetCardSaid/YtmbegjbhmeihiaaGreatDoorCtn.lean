/-
  funcContains at two ints and at two arrays of ints, walked.
-/
import Derived.Test.YtmbegjbhmeihiaaGreatDoorSrt2
import Derived.Test.YtmbegjbhmeihiaaGreatDoorAs
import Derived.Test.YtmbegjbhmeihiaaGreatDoorSays
import Derived.WalkSpells
import Derived.Handy
import Derived.Lib.Hide
import Derived.Deep.LoopGhost
namespace Go.Proofs.YtmbegjbhmeihiaaGreatDoor
set_option linter.unusedVariables false
set_option linter.unusedSimpArgs false
open Go.RowKit Go.Lib

theorem asArrInt (v : Value) (w : World) : (Instr.typeAssert (.iface 47 v) 20 3 true).run Tryz.prog w = .ok (.tuple #[.int .i64 0, .bool false]) w := by kernel_rfl
theorem asArrFloat (v : Value) (w : World) : (Instr.typeAssert (.iface 47 v) 20 33 true).run Tryz.prog w = .ok (.tuple #[.float .f64 0, .bool false]) w := by kernel_rfl
theorem asArrBig (v : Value) (w : World) : (Instr.typeAssert (.iface 47 v) 20 57 true).run Tryz.prog w = .ok (.tuple #[.pointer none, .bool false]) w := by kernel_rfl
theorem asArrNum (v : Value) (w : World) : (Instr.typeAssert (.iface 47 v) 20 86 true).run Tryz.prog w = .ok (.tuple #[.string ByteArray.empty, .bool false]) w := by kernel_rfl
theorem asArrStr (v : Value) (w : World) : (Instr.typeAssert (.iface 47 v) 20 9 true).run Tryz.prog w = .ok (.tuple #[.string ByteArray.empty, .bool false]) w := by kernel_rfl
theorem asArrArrC (v : Value) (w : World) : (Instr.typeAssert (.iface 47 v) 20 47 true).run Tryz.prog w = .ok (.tuple #[v, .bool true]) w := by kernel_rfl

set_option maxRecDepth 100000 in
set_option maxHeartbeats 1600000 in
theorem contains_int (l r : Int) (w : World) :
    Calls Tryz.prog 24 #[.iface 3 (.int .i64 l), .iface 3 (.int .i64 r)] w fun e w' => e = .returned (.iface 4 (.bool (l == r))) ∧ Below w.heap.size w w' := by
  have as1 := asIntNum
  have as2 := asIntInt
  go_enter Tryz.func24, Tryz.ntmps24
  go_wp2
  go_ret
  exact ⟨rfl, by go_grown⟩

theorem eq_true (b : Bool) (w : World) : (binOp .eql 20 (.iface 4 (.bool b)) (.iface 4 (.bool true))).run Tryz.prog w = .ok (.bool b) w := by
  cases b <;> kernel_rfl
/-- The list as a slice of interface values. -/
def anyInts (l : List Int) : List Value := l.map fun z => .iface 3 (.int .i64 z)
theorem anyInts_get (l : List Int) (j : Nat) (h : j < l.length) : (anyInts l)[j]? = some (.iface 3 (.int .i64 l[j])) := by
  simp [anyInts, h]
theorem anyInts_len (l : List Int) : (anyInts l).length = l.length := by simp [anyInts]

set_option maxRecDepth 100000 in
set_option maxHeartbeats 3200000 in
theorem closure_arr (bl br nl nr cl cr : Nat) (ls rs : List Int) (hl : ls.length = nl) (hr : rs.length = nr) (hnl : nl ≤ 1048576) (hnr : nr ≤ 1048576) (w : World) (hL : Row w bl 20 (anyInts ls)) (hR : Row w br 20 (anyInts rs)) :
    Calls Tryz.prog 38 #[.slice (some ⟨bl, 0, none⟩) nl cl, .slice (some ⟨br, 0, none⟩) nr cr] w fun e w' => (∃ b : Bool, e = .returned (.iface 4 (.bool b)) ∧ (b = true ↔ ∀ y ∈ rs, y ∈ ls)) ∧ Below w.heap.size w w' := by
  have HL := Lib.hid hL
  have HR := Lib.hid hR
  have Hl := Lib.hid hl
  have Hr := Lib.hid hr
  have HI := Lib.hid contains_int
  have eqt := eq_true
  clear hL hR hl hr
  go_enter Tryz.func38, Tryz.ntmps38
  go_wp2_with fail
  go_step3
  go_wp2_with fail
  go_step3
  go_wp2_with fail
  go_loopw [11] (fun vi wr => ∃ k : Nat, vi = .int .i64 (k : Int) ∧ k ≤ nr ∧ Hid (∀ j (h : j < rs.length), j < k → rs[j] ∈ ls) ∧ Hid (Below w.heap.size w wr)) (fun vi _ => nr - (RowKit.intOf vi).toNat)
  case atStart => exact ⟨0, rfl, Nat.zero_le _, Lib.hid (fun j _ h => absurd h (Nat.not_lt_zero _)), Lib.hid (Below.refl _ _)⟩
  case round =>
    obtain ⟨k, rfl, hk, HALL, HB⟩ := hrel
    by_cases hkn : k < nr
    · have hkr : k < rs.length := by rw [Hr.out]; exact hkn
      have c1 : wr.cell? ⟨br, k, none⟩ = some (.iface 3 (.int .i64 rs[k])) := by
        have h1 := (HR.out.on HB.out).cell k (by rw [anyInts_len]; exact hkr)
        rw [h1]
        simp [anyInts]
      generalize hy : rs[k] = y at c1
      have HY := Lib.hid hy
      clear hy
      go_wp2_with fail
      go_loopw [17] (fun vj wj => ∃ m : Nat, vj = .int .i64 (m : Int) ∧ m ≤ nl ∧ Hid (∀ j (h : j < ls.length), j < m → ls[j] ≠ y) ∧ Hid (Below w.heap.size w wj)) (fun vj _ => nl - (RowKit.intOf vj).toNat)
      case atStart => exact ⟨0, rfl, Nat.zero_le _, Lib.hid (fun j _ h => absurd h (Nat.not_lt_zero _)), HB⟩
      case round =>
        obtain ⟨m, rfl, hm, HNO, HBj⟩ := hrel
        by_cases hml : m < nl
        · have hmr : m < ls.length := by rw [Hl.out]; exact hml
          have c2 : wr.cell? ⟨bl, m, none⟩ = some (.iface 3 (.int .i64 ls[m])) := by
            have h1 := (HL.out.on HBj.out).cell m (by rw [anyInts_len]; exact hmr)
            rw [h1]
            simp [anyInts]
          generalize hz : ls[m] = z at c2
          have HZ := Lib.hid hz
          clear hz
          by_cases hzy : z = y
          · have q1 : (z == y) = true := by rw [beq_iff_eq]; exact hzy
            have HI1 := Lib.hid (fun w => HI.out z y w)
            rw [q1] at HI1
            have HMEM : Hid (rs[k] ∈ ls) := Lib.hid (by rw [HY.out, ← hzy, ← HZ.out]; exact List.getElem_mem hmr)
            clear hzy
            go_wp2_with fail
            refine (HI1.out _).mono ?_
            rintro e w1 ⟨rfl, hb1'⟩
            have HB1 := Lib.hid (HBj.out.trans (below_of hb1' HBj.out.size))
            clear hb1'
            go_wp2_with fail
            go_roundw
            case rel => exact ⟨k + 1, by go_num, by omega, Lib.hid (fun j hj hjk => by
              rcases Nat.lt_or_ge j k with h | h
              · exact HALL.out j hj h
              · obtain rfl : j = k := by omega
                exact HMEM.out), HB1⟩
            case measure => simp [RowKit.intOf]; omega
          · have q1 : (z == y) = false := by rw [beq_eq_false_iff_ne]; exact hzy
            have HI1 := Lib.hid (fun w => HI.out z y w)
            rw [q1] at HI1
            have HNE : Hid (ls[m] ≠ y) := Lib.hid (by rw [HZ.out]; exact hzy)
            clear hzy
            go_wp2_with fail
            refine (HI1.out _).mono ?_
            rintro e w1 ⟨rfl, hb1'⟩
            have HB1 := Lib.hid (HBj.out.trans (below_of hb1' HBj.out.size))
            clear hb1'
            go_wp2_with fail
            go_roundw
            case rel => exact ⟨m + 1, by go_num, by omega, Lib.hid (fun j hj hjm => by
              rcases Nat.lt_or_ge j m with h | h
              · exact HNO.out j hj h
              · obtain rfl : j = m := by omega
                exact HNE.out), HB1⟩
            case measure => simp [RowKit.intOf]; omega
        · have HX : Hid (¬ ∀ y ∈ rs, y ∈ ls) := Lib.hid (fun h => by
            have h1 := h rs[k] (List.getElem_mem hkr)
            obtain ⟨j, hj, hje⟩ := List.getElem_of_mem h1
            exact HNO.out j hj (by rw [Hl.out] at hj; omega) (by rw [hje, HY.out]))
          go_wp2_with fail
          try rw [Exit.noGoto_ret]
          go_ret
          first
            | exact ⟨⟨false, rfl, fun h => absurd h (by decide), fun h => absurd h HX.out⟩, HBj.out⟩
            | exact ⟨Or.inl ⟨rfl, HX.out⟩, HBj.out⟩
    · have HX : Hid (∀ y ∈ rs, y ∈ ls) := Lib.hid (fun y hy => by
        obtain ⟨j, hj, hje⟩ := List.getElem_of_mem hy
        rw [← hje]
        exact HALL.out j hj (by rw [Hr.out] at hj; omega))
      go_wp2_with fail
      try rw [Exit.noGoto_ret]
      go_ret
      first
        | exact ⟨⟨true, rfl, fun _ => HX.out, fun _ => rfl⟩, HB.out⟩
        | exact ⟨Or.inr ⟨rfl, HX.out⟩, HB.out⟩
set_option maxRecDepth 100000 in
set_option maxHeartbeats 1600000 in
theorem contains_arr (bl br nl nr cl cr : Nat) (ls rs : List Int) (hl : ls.length = nl) (hr : rs.length = nr) (hnl : nl ≤ 1048576) (hnr : nr ≤ 1048576) (w : World) (hL : Row w bl 20 (anyInts ls)) (hR : Row w br 20 (anyInts rs)) :
    Calls Tryz.prog 24 #[.iface 47 (.slice (some ⟨bl, 0, none⟩) nl cl), .iface 47 (.slice (some ⟨br, 0, none⟩) nr cr)] w fun e w' => (∃ b : Bool, e = .returned (.iface 4 (.bool b)) ∧ (b = true ↔ ∀ y ∈ rs, y ∈ ls)) ∧ Below w.heap.size w w' := by
  have as1 := asArrNum
  have as2 := asArrInt
  have as3 := asArrFloat
  have as4 := asArrBig
  have as5 := asArrStr
  have as6 := asArrArrC
  have HC := Lib.hid (fun (w1 : World) (hb : Below w.heap.size w w1) => closure_arr bl br nl nr cl cr ls rs hl hr hnl hnr w1 (hL.on hb) (hR.on hb))
  clear hl hr hL hR
  go_enter Tryz.func24, Tryz.ntmps24
  go_wp2_with (first
    | (go_at_call 38; refine (HC.out _ ?_).mono ?_; go_grown; rintro e w1 ⟨⟨b, rfl, hb⟩, hb1⟩)
    | go_in)
  go_ret
  exact ⟨⟨_, rfl, hb⟩, by first | exact hb1 | exact below_of hb1 (by simp)⟩
theorem mk_anys (n : Nat) (hn : n ≤ 1048576) (w : World) : (Instr.makeSlice 47 (.int .i64 (n : Int)) (.int .i64 (n : Int))).run Tryz.prog w = .ok (.slice (some ⟨w.heap.size, 0, none⟩) n n) (w.alloc (.cells (Array.replicate n .nilIface) 20)) :=
  run_mk 47 20 .nilIface 16 Tryz.underlying47 (by kernel_rfl) rfl n n (by omega) (by omega) (by omega) w
theorem asBoolC (v : Value) (w : World) : (Instr.typeAssert (.iface 4 v) 20 4 true).run Tryz.prog w = .ok (.tuple #[v, .bool true]) w := by kernel_rfl
theorem anyInts_get' (zs : List Int) (k : Nat) (h : k < (anyInts zs).length) : (anyInts zs)[k] = .iface 3 (.int .i64 (zs[k]'(by simpa [anyInts] using h))) := by simp [anyInts]
set_option maxRecDepth 100000 in
set_option maxHeartbeats 3200000 in
theorem zzcontains (v1 v2 : Value) (ls rs : List Int) (nl nr : Nat) (hl : ls.length = nl) (hr : rs.length = nr) (hnl : nl ≤ 1048576) (hnr : nr ≤ 1048576) (w : World) (hL : SliceOf w v1 (isInts ls)) (hR : SliceOf w v2 (isInts rs)) :
    Calls Tryz.prog 14 #[v1, v2] w fun e w' => (∃ b : Bool, e = .returned (.tuple #[.bool b, .bool true]) ∧ (b = true ↔ ∀ y ∈ rs, y ∈ ls)) ∧ Below w.heap.size w w' := by
  obtain ⟨a1, c1, rfl, hat1⟩ := hL.form
  obtain ⟨a2, c2, rfl, hat2⟩ := hR.form
  rw [isInts_len, hl] at hat1 ⊢
  rw [isInts_len, hr] at hat2 ⊢
  have HA1 := Lib.hid hat1
  have HA2 := Lib.hid hat2
  have HN1 := Lib.hid hl
  have HN2 := Lib.hid hr
  have mk1 := mk_anys nl hnl
  have mk2 := mk_anys nr hnr
  have as1 := asBoolC
  clear hat1 hat2 hl hr hL hR
  go_enter Tryz.func14, Tryz.ntmps14
  go_wp2_with fail
  have hF0 : Fill (w.alloc (.cells (Array.replicate nl .nilIface) 20)) (w.alloc (.cells (Array.replicate nl .nilIface) 20)) w.heap.size 20 (anyInts ls) .nilIface 0 := by
    refine Fill.start ?_
    rw [anyInts_len, HN1.out]
    have := Row.alloc w 20 (List.replicate nl .nilIface)
    rwa [List.toArray_replicate] at this
  have HB0 := Lib.hid (show Below w.heap.size w (w.alloc (.cells (Array.replicate nl .nilIface) 20)) by go_grown)
  have HF0 := Lib.hid hF0
  clear hF0 mk1
  generalize hW0 : w.alloc (.cells (Array.replicate nl .nilIface) 20) = W0 at HF0 HB0 ⊢
  clear hW0
  go_loopw [19] (fun vi wr => ∃ k : Nat, vi = .int .i64 (k : Int) ∧ k ≤ nl ∧ Hid (Fill W0 wr w.heap.size 20 (anyInts ls) .nilIface k)) (fun vi _ => nl - (RowKit.intOf vi).toNat)
  case atStart => exact ⟨0, rfl, Nat.zero_le _, HF0⟩
  case round =>
    obtain ⟨k, rfl, hk, HF⟩ := hrel
    by_cases hkn : k < nl
    · obtain ⟨b, o, rfl, hb, hc⟩ := HA1.out (by omega)
      have hkz : k < ls.length := by rw [HN1.out]; exact hkn
      have c1 : wr.cell? ⟨b, o + k, none⟩ = some (.int .i64 ls[k]) := (HF.out.old (p := ⟨b, o + k, none⟩) (by have := HB0.out.size; show b < _; omega) (by show b ≠ _; omega)).trans ((HB0.out.cell (p := ⟨b, o + k, none⟩) hb).trans (hc k _ (isInts_get ls k hkz)))
      obtain ⟨y, c2⟩ := HF.out.cell k (by rw [anyInts_len]; exact hkz)
      have f2 := HF.out.free k
      have HS := Lib.hid (HF.out.step (by rw [anyInts_len]; exact hkz) (.iface 3 (.int .i64 ls[k])) (anyInts_get' ls k _))
      clear hc
      go_wp2_with fail
      go_roundw
      case rel => exact ⟨k + 1, by go_num, by omega, HS⟩
      case measure => simp [RowKit.intOf]; omega
    · obtain rfl : k = nl := by omega
      have HR1 := Lib.hid (HF.out.done (by rw [anyInts_len, HN1.out]))
      have HBr := Lib.hid (HF.out.below (Nat.le_refl _) HB0.out)
      clear HF
      go_wp2_with fail
      have hB1 : w.heap.size < wr.heap.size := HR1.out.lt
      have hF0 : Fill (wr.alloc (.cells (Array.replicate nr .nilIface) 20)) (wr.alloc (.cells (Array.replicate nr .nilIface) 20)) wr.heap.size 20 (anyInts rs) .nilIface 0 := by
        refine Fill.start ?_
        rw [anyInts_len, HN2.out]
        have := Row.alloc wr 20 (List.replicate nr .nilIface)
        rwa [List.toArray_replicate] at this
      have hBb : Below wr.heap.size wr (wr.alloc (.cells (Array.replicate nr .nilIface) 20)) := by go_grown
      have HB2 := Lib.hid (HBr.out.trans (below_of hBb HBr.out.size))
      have HR2 := Lib.hid (HR1.out.on hBb)
      have HF2 := Lib.hid hF0
      have hsz2 : wr.heap.size < (wr.alloc (.cells (Array.replicate nr .nilIface) 20)).heap.size := by simp
      clear hF0 mk2 hBb HR1 HBr
      generalize hW1 : wr.alloc (.cells (Array.replicate nr .nilIface) 20) = W1 at HF2 HB2 HR2 hsz2 ⊢
      clear hW1
      generalize hB2e : wr.heap.size = B2 at *
      clear hB2e
      go_loopw [35] (fun vi wx => ∃ q : Nat, vi = .int .i64 (q : Int) ∧ q ≤ nr ∧ Hid (Fill W1 wx B2 20 (anyInts rs) .nilIface q)) (fun vi _ => nr - (RowKit.intOf vi).toNat)
      case atStart => exact ⟨0, rfl, Nat.zero_le _, HF2⟩
      case round =>
        obtain ⟨q, rfl, hq, HF⟩ := hrel
        by_cases hqn : q < nr
        · obtain ⟨b, o, rfl, hb, hc⟩ := HA2.out (by omega)
          have hqz : q < rs.length := by rw [HN2.out]; exact hqn
          have c1 : wr.cell? ⟨b, o + q, none⟩ = some (.int .i64 rs[q]) := (HF.out.old (p := ⟨b, o + q, none⟩) (by show b < _; omega) (by show b ≠ _; omega)).trans ((HB2.out.cell (p := ⟨b, o + q, none⟩) hb).trans (hc q _ (isInts_get rs q hqz)))
          obtain ⟨y, c2⟩ := HF.out.cell q (by rw [anyInts_len]; exact hqz)
          have f2 := HF.out.free q
          have HS := Lib.hid (HF.out.step (by rw [anyInts_len]; exact hqz) (.iface 3 (.int .i64 rs[q])) (anyInts_get' rs q _))
          clear hc
          go_wp2_with fail
          go_roundw
          case rel => exact ⟨q + 1, by go_num, by omega, HS⟩
          case measure => simp [RowKit.intOf]; omega
        · obtain rfl : q = nr := by omega
          have hRr := HF.out.done (by rw [anyInts_len, HN2.out])
          have hRl : Row wr w.heap.size 20 (anyInts ls) := (HF.out.only.block w.heap.size (by omega) (by omega)).trans HR2.out
          have hbx := HB2.out.trans (HF.out.only.below HB2.out.size (fun z hz => by rw [hz]; omega))
          have HC := Lib.hid (contains_arr w.heap.size B2 k q k q ls rs HN1.out HN2.out (by omega) (by omega) wr hRl hRr)
          have HBX := Lib.hid hbx
          clear hRr hRl hbx HF HR2 HB2 HF2
          go_wp2_with fail
          refine HC.out.mono ?_
          rintro e w9 ⟨⟨r, rfl, hr⟩, hb9⟩
          have HB9 := Lib.hid (HBX.out.trans (below_of hb9 HBX.out.size))
          clear hb9
          go_wp2_with fail
          go_ret2
          exact ⟨⟨r, rfl, hr⟩, HB9.out⟩
end Go.Proofs.YtmbegjbhmeihiaaGreatDoor
