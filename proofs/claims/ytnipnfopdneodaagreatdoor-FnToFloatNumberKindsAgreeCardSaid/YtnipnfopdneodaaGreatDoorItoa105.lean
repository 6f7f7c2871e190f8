/-
  The decimal writer of the laws' package n001_105.zzItoa, walked: it writes the decimal numeral.
-/
import Derived.Test.YtnipnfopdneodaaGreatDoorDig
import Derived.Test.YtnipnfopdneodaaGreatDoorSays
import Derived.WalkSpells
import Derived.Handy
import Derived.Lib.Hide
import Derived.Lib.ItoaMem
import Derived.Laws.IdiomStrings
namespace Go.Proofs.YtnipnfopdneodaaGreatDoor
set_option linter.unusedVariables false
set_option linter.unusedSimpArgs false
open Go.RowKit Go.Lib Go.Sort

theorem tail105 (w' : World) (bb m : Nat) (hm : m < 24) : (Instr.sliceAt 34 (.pointer (some ⟨bb, 0, none⟩)) (some (.int .i64 (m : Int))) none none).run Tryz.prog w' = .ok (.slice (some ⟨bb, m, none⟩) (24 - m) (24 - m)) w' := by
  have hal : Tryz.prog.arrayLen 34 = 24 := by simp [Program.arrayLen, Tryz.underlying34]
  rw [run_sliceAt_array_l w' 34 ⟨bb, 0, none⟩ (by simp [Program.arrayLen, Program.elem, Tryz.underlying34]) .i64 (m : Int) (by omega) (by rw [hal]; omega), hal]
  have hm' : ¬ 24 = m := by omega
  go_simp
theorem text105 {w0 w' : World} {bb m : Nat} {D : List UInt8} (h : Dig w0 w' bb 34 m D) (l : Nat) (hl : D.length = l) (hp : 1 ≤ D.length) :
    (Instr.sliceAt 34 (.pointer (some ⟨bb, 0, none⟩)) (some (.int .i64 (m : Int))) none none).run Tryz.prog w' = .ok (.slice (some ⟨bb, m, none⟩) l l) w' ∧
    (convert 35 9 (.slice (some ⟨bb, m, none⟩) l l)).run Tryz.prog w' = .ok (.string ⟨D.toArray⟩) w' := by
  have hlen := h.len
  subst hl
  refine ⟨?_, run_convert_bytes_back w' 35 9 5 ⟨bb, m, none⟩ _ D Tryz.underlying35 Tryz.underlying5 Tryz.underlying9 (fun j hj => h.reads j hj)⟩
  rw [tail105 w' bb m (by omega), show 24 - m = D.length by omega]
theorem start105 (w : World) : Dig (w.alloc (.cells zeros24 34)) (w.alloc (.cells zeros24 34)) w.heap.size 34 24 [] :=
  Dig.start (cur := List.replicate 24 (.int .u8 0)) (by show (w.heap.push _)[w.heap.size]? = _; simp; rfl) rfl
theorem zero105 : itoa 0 = [48] := by
  show decDigits 0 = [48]
  rw [decDigits, dif_pos (by omega)]
  rfl

set_option maxRecDepth 100000 in
set_option maxHeartbeats 1600000 in
theorem itoa105_any (i : Int) (h0 : -9223372036854775808 ≤ i) (h1 : i ≤ 9223372036854775807) (w : World) : Calls Tryz.prog 7 #[.int .i64 i] w (Says w (itoa i)) := by
  by_cases hz : i = 0
  · subst hz
    rw [zero105]
    go_enter Tryz.func7, Tryz.ntmps7
    go_wp2
    go_ret
    exact ⟨rfl, by go_grown⟩
  · by_cases hneg : i < 0
    · obtain ⟨u, rfl⟩ : ∃ u : Nat, i = -(u : Int) := ⟨i.natAbs, by omega⟩
      have hu1 : 1 ≤ u := by omega
      rw [itoa_neg u hu1]
      have hwr : IntKind.u64.wrap (-IntKind.u64.wrap (-(u : Int))) = (u : Int) := by rw [IntKind.wrap_u64, IntKind.wrap_u64]; omega
      have hu0 : ((u : Int) == 0) = false := by rw [beq_eq_false_iff_ne]; omega
      have hu64 : u < 18446744073709551616 := by omega
      have hdl := decDigits_length_le u hu64
      have hdp := decDigits_pos u
      have hlow : Below w.heap.size w (w.alloc (.cells zeros24 34)) := by go_grown
      have HW := Lib.hid hlow
      have HD0 := Lib.hid (start105 w)
      clear hlow
      go_enter Tryz.func7, Tryz.ntmps7
      go_wp2_with fail
      go_loopw [4, 6] (fun vu vi wr => ∃ (x m : Nat) (D : List UInt8), vu = .int .u64 (x : Int) ∧ vi = .int .i64 (m : Int) ∧ x < 18446744073709551616 ∧ numLeft x ++ D = decDigits u ∧ Hid (Dig (w.alloc (.cells zeros24 34)) wr w.heap.size 34 m D)) (fun vu _ _ => (RowKit.intOf vu).toNat)
      case atStart => exact ⟨u, 24, [], by go_num, rfl, hu64, by rw [numLeft_pos (by omega), List.append_nil], HD0⟩
      case round =>
        obtain ⟨x, m, D, rfl, rfl, hx64, hx, HD⟩ := hrel
        have hlen := HD.out.len
        by_cases hx0 : x = 0
        · subst hx0
          rw [numLeft_zero, List.nil_append] at hx
          subst hx
          obtain ⟨m, rfl⟩ : ∃ m', m = m' + 1 := ⟨m - 1, by omega⟩
          obtain ⟨y, cy⟩ := HD.out.cell m (by omega)
          have fy := HD.out.free m
          have hS : Dig (w.alloc (.cells zeros24 34)) (wr.setCell ⟨w.heap.size, m, none⟩ (.int .u8 45)) w.heap.size 34 m (45 :: decDigits u) := HD.out.step 45
          obtain ⟨l, hl⟩ : ∃ l, (45 :: decDigits u : List UInt8).length = l := ⟨_, rfl⟩
          obtain ⟨t1, t2⟩ := text105 hS l hl (by simp)
          have HB := Lib.hid (hS.below HW.out)
          clear hS HD HW HD0 hl
          go_wp2_with fail
          go_ret
          exact ⟨rfl, HB.out⟩
        · have q : (0 : Int) < (x : Int) := by omega
          have hl1 := numLeft_length x hx0
          have hll := congrArg List.length hx
          rw [List.length_append] at hll
          obtain ⟨m, rfl⟩ : ∃ m', m = m' + 1 := ⟨m - 1, by omega⟩
          obtain ⟨y, cy⟩ := HD.out.cell m (by omega)
          have fy := HD.out.free m
          obtain ⟨d, hd⟩ : ∃ d, UInt8.ofNat (48 + x % 10) = d := ⟨_, rfl⟩
          have hdz := digit_toNat x
          rw [hd] at hdz
          have hS : Dig (w.alloc (.cells zeros24 34)) (wr.setCell ⟨w.heap.size, m, none⟩ (.int .u8 (48 + (x : Int) % 10))) w.heap.size 34 m (d :: D) := by
            have z := HD.out.step d
            rw [hdz] at z
            exact z
          have hx2 := numLeft_cons hx0 hx
          rw [hd] at hx2
          have HS := Lib.hid hS
          clear hS HD hx hd
          go_wp2_with fail
          go_roundw
          case rel => exact ⟨x / 10, m, d :: D, by go_num, by go_num, by omega, hx2, HS⟩
          case measure => simp [RowKit.intOf]; omega
    · obtain ⟨u, rfl⟩ : ∃ u : Nat, i = u := ⟨i.toNat, by omega⟩
      have hu1 : 1 ≤ u := by omega
      rw [itoa_nonneg u]
      have hu64 : u < 18446744073709551616 := by omega
      have hdl := decDigits_length_le u hu64
      have hdp := decDigits_pos u
      have hlow : Below w.heap.size w (w.alloc (.cells zeros24 34)) := by go_grown
      have HW := Lib.hid hlow
      have HD0 := Lib.hid (start105 w)
      clear hlow
      go_enter Tryz.func7, Tryz.ntmps7
      go_wp2_with fail
      go_loopw [4, 6] (fun vu vi wr => ∃ (x m : Nat) (D : List UInt8), vu = .int .u64 (x : Int) ∧ vi = .int .i64 (m : Int) ∧ x < 18446744073709551616 ∧ numLeft x ++ D = decDigits u ∧ Hid (Dig (w.alloc (.cells zeros24 34)) wr w.heap.size 34 m D)) (fun vu _ _ => (RowKit.intOf vu).toNat)
      case atStart => exact ⟨u, 24, [], by go_num, rfl, hu64, by rw [numLeft_pos (by omega), List.append_nil], HD0⟩
      case round =>
        obtain ⟨x, m, D, rfl, rfl, hx64, hx, HD⟩ := hrel
        have hlen := HD.out.len
        by_cases hx0 : x = 0
        · subst hx0
          rw [numLeft_zero, List.nil_append] at hx
          subst hx
          obtain ⟨l, hl⟩ : ∃ l, (decDigits u : List UInt8).length = l := ⟨_, rfl⟩
          obtain ⟨t1, t2⟩ := text105 HD.out l hl hdp
          have HB := Lib.hid (HD.out.below HW.out)
          clear HD HW HD0 hl
          go_wp2_with fail
          go_ret
          exact ⟨rfl, HB.out⟩
        · have q : (0 : Int) < (x : Int) := by omega
          have hl1 := numLeft_length x hx0
          have hll := congrArg List.length hx
          rw [List.length_append] at hll
          obtain ⟨m, rfl⟩ : ∃ m', m = m' + 1 := ⟨m - 1, by omega⟩
          obtain ⟨y, cy⟩ := HD.out.cell m (by omega)
          have fy := HD.out.free m
          obtain ⟨d, hd⟩ : ∃ d, UInt8.ofNat (48 + x % 10) = d := ⟨_, rfl⟩
          have hdz := digit_toNat x
          rw [hd] at hdz
          have hS : Dig (w.alloc (.cells zeros24 34)) (wr.setCell ⟨w.heap.size, m, none⟩ (.int .u8 (48 + (x : Int) % 10))) w.heap.size 34 m (d :: D) := by
            have z := HD.out.step d
            rw [hdz] at z
            exact z
          have hx2 := numLeft_cons hx0 hx
          rw [hd] at hx2
          have HS := Lib.hid hS
          clear hS HD hx hd
          go_wp2_with fail
          go_roundw
          case rel => exact ⟨x / 10, m, d :: D, by go_num, by go_num, by omega, hx2, HS⟩
          case measure => simp [RowKit.intOf]; omega
end Go.Proofs.YtnipnfopdneodaaGreatDoor
