/-
  The decimal writer of the laws' package n001_108 (zzAppendItoa), walked: it appends the decimal numeral where there is room.
-/
import Derived.Test.YtmbegjbhmeihiaaGreatFmtDig
import Derived.Test.YtmbegjbhmeihiaaGreatFmtSays
import Derived.OwnWalk
import Derived.WalkSpells
import Derived.Handy
import Derived.Lib.Hide
import Derived.Lib.ItoaMem
namespace Go.Proofs.YtmbegjbhmeihiaaGreatFmt
set_option linter.unusedVariables false
set_option linter.unusedSimpArgs false
open Go.RowKit Go.Lib Go.Sort

theorem u8Info : (Tryz.prog.info? 5).map (fun i => (i.zero, i.size, i.bytes)) = some (some (.int .u8 0), 1, 1) := by kernel_rfl
theorem start108 (w : World) : Dig (w.alloc (.cells zeros24 29)) (w.alloc (.cells zeros24 29)) w.heap.size 29 24 [] :=
  Dig.start (cur := List.replicate 24 (.int .u8 0)) (by show (w.heap.push _)[w.heap.size]? = _; simp; rfl) rfl
theorem zero108 : itoa 0 = [48] := by
  show decDigits 0 = [48]
  rw [decDigits, dif_pos (by omega)]
  rfl
/-- A buffer of the call's own: block g, of capacity cap, holds T. -/
abbrev Buf (R g cap : Nat) (T : List UInt8) (w : World) : Prop := w.ownsRow R 5 1 (.slice (some ⟨g, 0, none⟩) T.length cap) T.length (bc T)
theorem buf_lt {R g cap : Nat} {T : List UInt8} {w : World} (h : Buf R g cap T w) : R ≤ g ∧ g < w.heap.size := h.lt g rfl
theorem buf_only {S : Nat → Prop} {R g cap : Nat} {T : List UInt8} {w w' : World} (h : Buf R g cap T w) (hO : Only S w w') (hn : ¬ S g) : Buf R g cap T w' := by
  refine ⟨h.1, ?_⟩
  rcases h.2 with ⟨hv, _⟩ | ⟨g', cap', cur, hv, hR, hg, rest⟩
  · cases hv
  · injection hv with e1 e2 e3
    injection e1 with e1
    injection e1 with e1
    subst e1
    exact Or.inr ⟨g, cap', cur, by rw [e3], hR, (hO.block g (Array.getElem?_eq_some_iff.1 hg).1 hn).trans hg, rest⟩
theorem grown_only {w w' : World} {g : Nat} (h : w.grownBy w' (some g)) : Only (fun k => k = g) w w' :=
  ⟨h.os, h.tape, h.output, h.size, fun k hk hn => h.block k hk (fun e => hn (Option.some.inj e))⟩
/-- A buffer of digits that stands, whatever is appended to another block. -/
theorem Dig.on {w0 w w' : World} {bb : Nat} {t : TypeId} {m : Nat} {D : List UInt8} (h : Dig w0 w bb t m D) {g : Nat} (hO : Only (fun k => k = g) w w') (hne : bb ≠ g) : ∀ j (hj : j < D.length), w'.cell? ⟨bb, m + j, none⟩ = some (.int .u8 (D[j].toNat : Int)) := fun j hj => by
  obtain ⟨cur, h1, h2, h3⟩ := h.cur
  have hl : bb < w.heap.size := (Array.getElem?_eq_some_iff.1 h1).1
  rw [hO.cell hl hne]
  have := h.reads j hj
  rwa [Go.WideShapes.add_plain] at this

theorem only_new {S : Nat → Prop} {w W0 WS : World} (h0 : Only S w W0) (h : Only (fun k => k = w.heap.size) W0 WS) : Only S w WS :=
  ⟨h.os.trans h0.os, h.tape.trans h0.tape, h.output.trans h0.output, Nat.le_trans h0.size h.size, fun k hk hn => (h.block k (Nat.lt_of_lt_of_le hk h0.size) (Nat.ne_of_lt hk)).trans (h0.block k hk hn)⟩
set_option maxRecDepth 100000 in
set_option maxHeartbeats 3200000 in
theorem appItoa_any (i : Int) (h0 : -9223372036854775808 ≤ i) (h1 : i ≤ 9223372036854775807) (R g cap : Nat) (T : List UInt8) (w : World) (hB : Buf R g cap T w) (hroom : T.length + (itoa i).length ≤ cap) (hcap : cap ≤ 1048576) :
    Calls Tryz.prog 5 #[.slice (some ⟨g, 0, none⟩) T.length cap, .int .i64 i] w fun e w' => e = .returned (.slice (some ⟨g, 0, none⟩) (T ++ itoa i).length cap) ∧ Buf R g cap (T ++ itoa i) w' ∧ Only (fun k => k = g) w w' := by
  obtain ⟨i0, hi, hz0, hz1, hz2⟩ := info_parts u8Info
  have hgl := buf_lt hB
  by_cases hz : i = 0
  · subst hz
    rw [zero108] at hroom ⊢
    go_enter Tryz.func5, Tryz.ntmps5
    go_wp2_with (at_builtin; refine wpList_append_fits _ rfl _ _ 24 rfl R 5 i0 1 Tryz.underlying24 hi hz1 g _ cap _ rfl (hB.alloc _) ⟨w.heap.size, 0, none⟩ 1 1 [.int .u8 48] rfl rfl ?c1 ?c2 ?c3 ?_)
    case c1 =>
      intro j u hj
      cases j with
      | zero => simp at hj; subst hj; go_simp
      | succ j => simp at hj
    case c2 => intro u hu; simp at hu; subst hu; rfl
    case c3 => simpa using hroom
    intro w2 hown2 hgrow2
    have HO := Lib.hid (((Only.refl (fun k => k = g) w).alloc _).trans (grown_only hgrow2))
    have HW : Hid (Buf R g cap (T ++ [48]) w2) := Lib.hid (by unfold Buf; simpa [bc_append, bc] using hown2)
    clear hown2 hgrow2
    go_wp2
    go_ret
    exact ⟨by simp, HW.out, HO.out⟩
  · by_cases hneg : i < 0
    · obtain ⟨u, rfl⟩ : ∃ u : Nat, i = -(u : Int) := ⟨i.natAbs, by omega⟩
      have hu1 : 1 ≤ u := by omega
      rw [itoa_neg u hu1] at hroom ⊢
      have hu0 : (-(u : Int) == 0) = false := by rw [beq_eq_false_iff_ne]; omega
      have hd0 : decide (0 < u) = true := by rw [decide_eq_true_eq]; omega
      have hu64 : u < 18446744073709551616 := by omega
      have hdl := decDigits_length_le u hu64
      have hdp := decDigits_pos u
      have HD0 := Lib.hid (start108 w)
      have HBf := Lib.hid (World.ownsRow.alloc hB (.cells zeros24 29))
      have HOn : Hid (Only (fun k => k = g) w (w.alloc (.cells zeros24 29))) := Lib.hid ((Only.refl _ w).alloc _)
      clear hB
      go_enter Tryz.func5, Tryz.ntmps5
      go_wp2_with fail
      go_loopw [8, 6] (fun vi vu wr => ∃ (x m : Nat) (D : List UInt8), vu = .int .u64 (x : Int) ∧ vi = .int .i64 (m : Int) ∧ x < 18446744073709551616 ∧ numLeft x ++ D = decDigits u ∧ Hid (Dig (w.alloc (.cells zeros24 29)) wr w.heap.size 29 m D)) (fun _ vu _ => (RowKit.intOf vu).toNat)
      case atStart => exact ⟨u, 24, [], by go_num, rfl, hu64, by rw [numLeft_pos (by omega), List.append_nil], HD0⟩
      case round =>
        obtain ⟨x, m, D, rfl, rfl, hx64, hx, HD⟩ := hrel
        have hlen := HD.out.len
        by_cases hx0 : x = 0
        · subst hx0
          rw [numLeft_zero, List.nil_append] at hx
          subst hx
          rw [show ((0 : Nat) : Int) = 0 from rfl]
          obtain ⟨m, rfl⟩ : ∃ m', m = m' + 1 := ⟨m - 1, by omega⟩
          obtain ⟨y, cy⟩ := HD.out.cell m (by omega)
          have fy := HD.out.free m
          have hcast : ((m + 1 : Nat) : Int) = (m : Int) + 1 := by omega
          have hS : Dig (w.alloc (.cells zeros24 29)) (wr.setCell ⟨w.heap.size, m, none⟩ (.int .u8 45)) w.heap.size 29 m (45 :: decDigits u) := HD.out.step 45
          have hSl := hS.len
          have HBW : Hid (Buf R g cap T (wr.setCell ⟨w.heap.size, m, none⟩ (.int .u8 45))) := Lib.hid (buf_only HBf.out hS.only (by show ¬ g = _; omega))
          have HCL := Lib.hid (fun (wj : World) (ho : Only (fun k => k = g) (wr.setCell ⟨w.heap.size, m, none⟩ (.int .u8 45)) wj) => hS.on ho (by omega))
          have HFN := Lib.hid (fun (wj : World) (ho : Only (fun k => k = g) (wr.setCell ⟨w.heap.size, m, none⟩ (.int .u8 45)) wj) => (only_new HOn.out hS.only).trans ho)
          have HR2 := Lib.hid (Only.refl (fun k => k = g) (wr.setCell ⟨w.heap.size, m, none⟩ (.int .u8 45)))
          generalize hDe : (45 :: decDigits u) = E at hroom HCL hSl
          have HDE := Lib.hid hDe
          clear hDe hS HD HBf HD0 HOn
          rw [hcast]
          go_wp2_with fail
          generalize hWe : (wr.setCell ⟨w.heap.size, m, none⟩ (.int .u8 45)) = V at HBW HCL HFN HR2 ⊢
          clear hWe
          go_loopw [0, 9] (fun vb vj wj => ∃ j : Nat, m ≤ j ∧ j ≤ 24 ∧ vb = .slice (some ⟨g, 0, none⟩) (T ++ E.take (j - m)).length cap ∧ vj = .int .i64 (j : Int) ∧ Hid (Buf R g cap (T ++ E.take (j - m)) wj) ∧ Hid (Only (fun k => k = g) V wj)) (fun _ vj _ => 24 - (RowKit.intOf vj).toNat)
          case atStart => exact ⟨m, Nat.le_refl _, by omega, by simp, rfl, by simpa using HBW, HR2⟩
          case round =>
            obtain ⟨j, hj0, hj1, rfl, rfl, HK, HOj⟩ := hrel
            by_cases hj24 : j < 24
            · have hk : j - m < E.length := by omega
              have hcell := HCL.out wr HOj.out (j - m) hk
              rw [show m + (j - m) = j by omega] at hcell
              have hts : E.take (j + 1 - m) = E.take (j - m) ++ [E[j - m]] := by rw [show j + 1 - m = j - m + 1 by omega]; exact List.take_succ_eq_append_getElem hk
              obtain ⟨l, hl⟩ : ∃ l, (T ++ E.take (j - m)).length = l := ⟨_, rfl⟩
              have hl2 : l = T.length + (j - m) := by rw [← hl, List.length_append, List.length_take]; omega
              have hrl : l + 1 ≤ cap := by omega
              have HL2 := Lib.hid hl2
              clear hl2
              have hKK := HK.out
              unfold Buf at hKK
              have HTS := Lib.hid hts
              generalize E[j - m] = d at hcell hts HTS
              rw [hl] at hKK ⊢
              have q1 : (j : Int) < 24 := by omega
              have HL := Lib.hid hl
              clear hts hl
              go_wp2_with (at_builtin; refine wpList_append_fits _ rfl _ _ 24 rfl R 5 i0 1 Tryz.underlying24 hi hz1 g _ cap _ rfl (World.ownsRow.alloc hKK _) ⟨wr.heap.size, 0, none⟩ 1 1 [.int .u8 (d.toNat : Int)] rfl rfl ?c1 ?c2 ?c3 ?_)
              case c1 =>
                intro q v hq
                cases q with
                | zero => simp at hq; subst hq; go_simp
                | succ q => simp at hq
              case c2 => intro v hv; simp at hv; subst hv; rfl
              case c3 => exact hrl
              intro w2 hown2 hgrow2
              have HO2 := Lib.hid ((HOj.out.alloc (.cells #[.int .u8 (d.toNat : Int)] 5)).trans (grown_only hgrow2))
              have HW2 : Hid (Buf R g cap (T ++ E.take (j + 1 - m)) w2) := Lib.hid (by
                unfold Buf
                rw [HTS.out, ← List.append_assoc, List.length_append, HL.out, bc_append]
                simpa [bc] using hown2)
              have HLn : (T ++ E.take (j + 1 - m)).length = l + 1 := by rw [HTS.out, ← List.append_assoc, List.length_append, HL.out]; rfl
              have HLN := Lib.hid HLn
              clear hown2 hgrow2 HLn hKK HK HOj
              go_wp2
              go_roundw
              case rel => exact ⟨j + 1, by omega, by omega, by rw [HLN.out], by go_num, HW2, HO2⟩
              case measure => simp [RowKit.intOf]; omega
            · obtain rfl : j = 24 := by omega
              have he : E.take (24 - m) = E := List.take_of_length_le (by omega)
              rw [he] at HK ⊢
              have HK2 := Lib.hid HK.out
              obtain ⟨l, hl⟩ : ∃ l, (T ++ E).length = l := ⟨_, rfl⟩
              have HL := Lib.hid hl
              have hq1 : ¬ ((24 : Nat) : Int) < 24 := by omega
              have HOF := Lib.hid (HFN.out wr HOj.out)
              clear he hl HK HOj
              go_wp2
              go_ret
              obtain rfl := HDE.out
              exact ⟨by simp, HK2.out, HOF.out⟩
        · have q : (0 : Int) < (x : Int) := by omega
          have hl1 := numLeft_length x hx0
          have hll := congrArg List.length hx
          rw [List.length_append] at hll
          obtain ⟨m, rfl⟩ : ∃ m', m = m' + 1 := ⟨m - 1, by omega⟩
          obtain ⟨y, cy⟩ := HD.out.cell m (by omega)
          have fy := HD.out.free m
          obtain ⟨d, hd⟩ : ∃ d, UInt8.ofNat (48 + x % 10) = d := ⟨_, rfl⟩
          have hdz := digit_toNat x
          rw [hd] at hdz
          have hS : Dig (w.alloc (.cells zeros24 29)) (wr.setCell ⟨w.heap.size, m, none⟩ (.int .u8 (48 + (x : Int) % 10))) w.heap.size 29 m (d :: D) := by
            have z := HD.out.step d
            rw [hdz] at z
            exact z
          have hx2 := numLeft_cons hx0 hx
          rw [hd] at hx2
          have HS := Lib.hid hS
          clear hS HD hx hd
          go_wp2_with fail
          go_roundw
          case rel => exact ⟨x / 10, m, d :: D, by go_num, by go_num, by omega, hx2, HS⟩
          case measure => simp [RowKit.intOf]; omega
    · obtain ⟨u, rfl⟩ : ∃ u : Nat, i = (u : Int) := ⟨i.toNat, by omega⟩
      have hu1 : 1 ≤ u := by omega
      rw [itoa_nonneg u] at hroom ⊢
      have hu0 : ((u : Int) == 0) = false := by rw [beq_eq_false_iff_ne]; omega
      have hu64 : u < 18446744073709551616 := by omega
      have hdl := decDigits_length_le u hu64
      have hdp := decDigits_pos u
      have HD0 := Lib.hid (start108 w)
      have HBf := Lib.hid (World.ownsRow.alloc hB (.cells zeros24 29))
      have HOn : Hid (Only (fun k => k = g) w (w.alloc (.cells zeros24 29))) := Lib.hid ((Only.refl _ w).alloc _)
      clear hB
      go_enter Tryz.func5, Tryz.ntmps5
      go_wp2_with fail
      go_loopw [8, 6] (fun vi vu wr => ∃ (x m : Nat) (D : List UInt8), vu = .int .u64 (x : Int) ∧ vi = .int .i64 (m : Int) ∧ x < 18446744073709551616 ∧ numLeft x ++ D = decDigits u ∧ Hid (Dig (w.alloc (.cells zeros24 29)) wr w.heap.size 29 m D)) (fun _ vu _ => (RowKit.intOf vu).toNat)
      case atStart => exact ⟨u, 24, [], by go_num, rfl, hu64, by rw [numLeft_pos (by omega), List.append_nil], HD0⟩
      case round =>
        obtain ⟨x, m, D, rfl, rfl, hx64, hx, HD⟩ := hrel
        have hlen := HD.out.len
        by_cases hx0 : x = 0
        · subst hx0
          rw [numLeft_zero, List.nil_append] at hx
          subst hx
          rw [show ((0 : Nat) : Int) = 0 from rfl]
          have hS := HD.out
          have hSl := hS.len
          have HBW : Hid (Buf R g cap T wr) := Lib.hid (buf_only HBf.out hS.only (by show ¬ g = _; omega))
          have HCL := Lib.hid (fun (wj : World) (ho : Only (fun k => k = g) wr wj) => hS.on ho (by omega))
          have HFN := Lib.hid (fun (wj : World) (ho : Only (fun k => k = g) wr wj) => (only_new HOn.out hS.only).trans ho)
          have HR2 := Lib.hid (Only.refl (fun k => k = g) wr)
          generalize hDe : (decDigits u) = E at hroom HCL hSl
          have HDE := Lib.hid hDe
          clear hDe hS HD HBf HD0 HOn
          go_wp2_with fail
          generalize hWe : wr = V at HBW HCL HFN HR2 ⊢
          clear hWe
          go_loopw [0, 9] (fun vb vj wj => ∃ j : Nat, m ≤ j ∧ j ≤ 24 ∧ vb = .slice (some ⟨g, 0, none⟩) (T ++ E.take (j - m)).length cap ∧ vj = .int .i64 (j : Int) ∧ Hid (Buf R g cap (T ++ E.take (j - m)) wj) ∧ Hid (Only (fun k => k = g) V wj)) (fun _ vj _ => 24 - (RowKit.intOf vj).toNat)
          case atStart => exact ⟨m, Nat.le_refl _, by omega, by simp, rfl, by simpa using HBW, HR2⟩
          case round =>
            obtain ⟨j, hj0, hj1, rfl, rfl, HK, HOj⟩ := hrel
            by_cases hj24 : j < 24
            · have hk : j - m < E.length := by omega
              have hcell := HCL.out wr HOj.out (j - m) hk
              rw [show m + (j - m) = j by omega] at hcell
              have hts : E.take (j + 1 - m) = E.take (j - m) ++ [E[j - m]] := by rw [show j + 1 - m = j - m + 1 by omega]; exact List.take_succ_eq_append_getElem hk
              obtain ⟨l, hl⟩ : ∃ l, (T ++ E.take (j - m)).length = l := ⟨_, rfl⟩
              have hl2 : l = T.length + (j - m) := by rw [← hl, List.length_append, List.length_take]; omega
              have hrl : l + 1 ≤ cap := by omega
              have HL2 := Lib.hid hl2
              clear hl2
              have hKK := HK.out
              unfold Buf at hKK
              have HTS := Lib.hid hts
              generalize E[j - m] = d at hcell hts HTS
              rw [hl] at hKK ⊢
              have q1 : (j : Int) < 24 := by omega
              have HL := Lib.hid hl
              clear hts hl
              go_wp2_with (at_builtin; refine wpList_append_fits _ rfl _ _ 24 rfl R 5 i0 1 Tryz.underlying24 hi hz1 g _ cap _ rfl (World.ownsRow.alloc hKK _) ⟨wr.heap.size, 0, none⟩ 1 1 [.int .u8 (d.toNat : Int)] rfl rfl ?c1 ?c2 ?c3 ?_)
              case c1 =>
                intro q v hq
                cases q with
                | zero => simp at hq; subst hq; go_simp
                | succ q => simp at hq
              case c2 => intro v hv; simp at hv; subst hv; rfl
              case c3 => exact hrl
              intro w2 hown2 hgrow2
              have HO2 := Lib.hid ((HOj.out.alloc (.cells #[.int .u8 (d.toNat : Int)] 5)).trans (grown_only hgrow2))
              have HW2 : Hid (Buf R g cap (T ++ E.take (j + 1 - m)) w2) := Lib.hid (by
                unfold Buf
                rw [HTS.out, ← List.append_assoc, List.length_append, HL.out, bc_append]
                simpa [bc] using hown2)
              have HLn : (T ++ E.take (j + 1 - m)).length = l + 1 := by rw [HTS.out, ← List.append_assoc, List.length_append, HL.out]; rfl
              have HLN := Lib.hid HLn
              clear hown2 hgrow2 HLn hKK HK HOj
              go_wp2
              go_roundw
              case rel => exact ⟨j + 1, by omega, by omega, by rw [HLN.out], by go_num, HW2, HO2⟩
              case measure => simp [RowKit.intOf]; omega
            · obtain rfl : j = 24 := by omega
              have he : E.take (24 - m) = E := List.take_of_length_le (by omega)
              rw [he] at HK ⊢
              have HK2 := Lib.hid HK.out
              obtain ⟨l, hl⟩ : ∃ l, (T ++ E).length = l := ⟨_, rfl⟩
              have HL := Lib.hid hl
              have hq1 : ¬ ((24 : Nat) : Int) < 24 := by omega
              have HOF := Lib.hid (HFN.out wr HOj.out)
              clear he hl HK HOj
              go_wp2
              go_ret
              obtain rfl := HDE.out
              exact ⟨by simp, HK2.out, HOF.out⟩
        · have q : (0 : Int) < (x : Int) := by omega
          have hl1 := numLeft_length x hx0
          have hll := congrArg List.length hx
          rw [List.length_append] at hll
          obtain ⟨m, rfl⟩ : ∃ m', m = m' + 1 := ⟨m - 1, by omega⟩
          obtain ⟨y, cy⟩ := HD.out.cell m (by omega)
          have fy := HD.out.free m
          obtain ⟨d, hd⟩ : ∃ d, UInt8.ofNat (48 + x % 10) = d := ⟨_, rfl⟩
          have hdz := digit_toNat x
          rw [hd] at hdz
          have hS : Dig (w.alloc (.cells zeros24 29)) (wr.setCell ⟨w.heap.size, m, none⟩ (.int .u8 (48 + (x : Int) % 10))) w.heap.size 29 m (d :: D) := by
            have z := HD.out.step d
            rw [hdz] at z
            exact z
          have hx2 := numLeft_cons hx0 hx
          rw [hd] at hx2
          have HS := Lib.hid hS
          clear hS HD hx hd
          go_wp2_with fail
          go_roundw
          case rel => exact ⟨x / 10, m, d :: D, by go_num, by go_num, by omega, hx2, HS⟩
          case measure => simp [RowKit.intOf]; omega
end Go.Proofs.YtmbegjbhmeihiaaGreatFmt
