/-
  (*encoder).encodeString over the limited writer.
-/
import Derived.Test.YtcajagjgbalakaaGreatFmtEncode
import Derived.Test.YtcajagjgbalakaaGreatFmtEncText
import Derived.WalkSpells
import Derived.Test.YtcajagjgbalakaaGreatFmtRune
import Derived.Test.YtcajagjgbalakaaGreatFmtShelf
namespace Go.Proofs.YtcajagjgbalakaaGreatFmt
set_option linter.unusedVariables false
set_option linter.unusedSimpArgs false
open Go.RowKit Go.Lib Go.Sort

/-- Where the encoder stands between two writes. -/
structure At (w W : World) (be bw bb n : Nat) (P : List UInt8) : Prop where
  lw : LW W bw bb n P
  lt : P.length < n
  only : Only (fun k => k = bw ∨ k = bb) w W
  cell0 : W.cell? ⟨be, 0, none⟩ = some (.iface 35 (.pointer (some ⟨bw, 0, none⟩)))

theorem At.next {w W W2 : World} {be bw bb n : Nat} {P P2 : List UInt8} (h : At w W be bw bb n P) (hO : Only (fun k => k = bw ∨ k = bb) W W2) (hl : LW W2 bw bb n P2) (hlt : P2.length < n) (hbe : be < w.heap.size) (hne : bw ≠ be ∧ bb ≠ be) : At w W2 be bw bb n P2 :=
  ⟨hl, hlt, h.only.trans hO, (hO.cell (Nat.lt_of_lt_of_le hbe h.only.size) (by simp only [not_or]; exact ⟨fun e => hne.1 e.symm, fun e => hne.2 e.symm⟩)).trans h.cell0⟩
theorem At.nextD {w W W2 : World} {be bw bb n : Nat} {P P2 : List UInt8} (h : At w W be bw bb n P) (hO : Only (fun k => k = bw ∨ k = bb) W.drew W2) (hl : LW W2 bw bb n P2) (hlt : P2.length < n) (hbe : be < w.heap.size) (hne : bw ≠ be ∧ bb ≠ be) : At w W2 be bw bb n P2 :=
  h.next (((Only.refl _ W).drew).trans hO) hl hlt hbe hne

theorem ext_eq (s : ByteArray) (a k : Nat) : (s.extract a k).data.toList = (s.data.toList.drop a).take (k - a) := Lib.extract_data s a k
theorem slice_ext (s : ByteArray) (a k : Nat) (h1 : a ≤ k) (h2 : k ≤ s.size) (wx : World) : (Instr.slice 9 (.string s) (some (.int .i64 (a : Int))) (some (.int .i64 (k : Int))) none).run Tryz.prog wx = .ok (.string (s.extract a k)) wx := by
  have := run_slice_string (P := Tryz.prog) wx 9 s .i64 .i64 (a : Int) (k : Int) Tryz.underlying9 (by omega) (by omega) (by omega)
  simpa using this
theorem tail_eq (s : ByteArray) (a : Nat) : (s.extract a s.size).data.toList = s.data.toList.drop a := by
  rw [Lib.extract_data, List.take_of_length_le]
  rw [List.length_drop, Array.length_toList]
  exact Nat.le_refl _
theorem slice_tail (s : ByteArray) (a : Nat) (h1 : a ≤ s.size) (wx : World) : (Instr.slice 9 (.string s) (some (.int .i64 (a : Int))) none none).run Tryz.prog wx = .ok (.string (s.extract a s.size)) wx := by
  have := run_slice_string_l (P := Tryz.prog) wx 9 s Tryz.underlying9 .i64 (a : Int) (by omega) (by omega)
  simpa using this
theorem decodeGo_tail (s : ByteArray) (k : Nat) (hk : k < s.size) : Lib.decodeGo (s.extract k s.size) = Lib.decodeL (s.data.toList.drop k) := by
  have e : s.extract k s.size = ⟨(s.data.toList.drop k).toArray⟩ := by
    apply ByteArray.ext
    apply Array.toList_inj.1
    rw [tail_eq]
  have hne : ¬ (s.extract k s.size).size = 0 := by rw [ByteArray.size_extract]; omega
  unfold Lib.decodeGo Lib.decodeL
  rw [if_neg hne, e]
theorem decodeL_fits (l : List UInt8) (hne : l ≠ []) : (Lib.decodeL l).2 ≤ l.length := by
  have h1 := decodeL_width l
  have hp := List.length_pos_iff.2 hne
  by_cases h : 2 ≤ (Lib.decodeL l).2
  · exact (rune_head l h).2
  · omega
theorem full_exit {p : Prop} (h : p) : p := h

set_option maxRecDepth 100000 in
set_option maxHeartbeats 16000000 in
theorem encodeString_any (s : ByteArray) (hs : s.size ≤ 2097152) (w : World) (be bw bb n : Nat) (T : List UInt8) (hn : n ≤ 65536) (h : LW w bw bb n T) (hlt : T.length < n) (he : Enc w be bw) (hne : bw ≠ be ∧ bb ≠ be)
    (B : Nat) (hB : B ≤ bw ∧ B ≤ bb) (hBw : B ≤ w.heap.size) (hU : ∀ w', Below B w w' → Utf8Tabs 0 1 w') :
    Calls Tryz.prog 28 #[.pointer (some ⟨be, 0, none⟩), .string s] w (Wrote (fun k => k = bw ∨ k = bb) w bw bb n (T ++ quoted s.data.toList) (.tuple #[])) := by
  have c0 := he.cell0
  have hbe : be < w.heap.size := by
    obtain ⟨rest, hb, _⟩ := he.head
    rcases Nat.lt_or_ge be w.heap.size with h | h
    · exact h
    · rw [Array.getElem?_eq_none h] at hb; cases hb
  have A0 : At w w be bw bb n T := ⟨h, hlt, Only.refl _ _, c0⟩
  have HA := Lib.hid A0
  have HW := Lib.hid (writeByte_any 34 w bw bb n T hn h hlt)
  have hfull : T ++ quoted s.data.toList = (T ++ [34] ++ escL s.data.toList) ++ [34] := by simp [quoted]
  rw [hfull]
  clear h hfull A0 he
  go_enter Tryz.func28, Tryz.ntmps28
  go_wp2_with fail
  refine HW.out.mono ?_
  rintro e w1 ⟨hO, ⟨h1, rfl, h3⟩ | ⟨h1, ⟨u, pv, rfl⟩, h3⟩⟩
  · go_wp2_with fail
    have hsl : s.data.toList.length = s.size := by rw [Array.length_toList]; rfl
    have HU := Lib.hid hU
    have HB := Lib.hid hB
    have HA1 := Lib.hid (HA.out.next hO h3 h1 hbe hne)
    have hM := Mid.start s.data.toList (T ++ [34])
    have hkb : ∀ {k : Nat} (hk : k < s.size), s.data.toList[k]? = some s[k] := fun {k} hk => by
      rw [Array.getElem?_toList, Array.getElem?_eq_getElem hk]
      rfl
    clear hU hB hO HA HW h1 h3 c0
    go_loopw [5, 4] (fun vi va wr => ∃ (k a : Nat) (P : List UInt8), vi = .int .i64 k ∧ va = .int .i64 a ∧ Mid s.data.toList (T ++ [34] ++ escL s.data.toList) P a k ∧ Hid (At w wr be bw bb n P)) (fun vi _ _ => s.size - (RowKit.intOf vi).toNat)
    case atStart => exact ⟨0, 0, T ++ [34], rfl, rfl, hM, HA1⟩
    case round =>
      obtain ⟨k, a, P, rfl, rfl, mid, A0⟩ := hrel
      have hak := mid.ak
      have hkl := mid.kl
      have r0 := A0.out.cell0
      clear HA1 hM
      by_cases hk : k < s.size
      · have HK := Lib.hid (hkb hk)
        have hk' : k < s.data.toList.length := by omega
        by_cases h34 : s[k].toNat = 34
        · have hst : stepE (s.data.toList.drop k) = ([92, 34], 1) := step_at s.data.toList k s[k] (hkb hk) 34 (by rw [h34]; rfl) (by decide) (by decide)
          by_cases hpre : a < k
          · as_aux_lemma =>
              have hpi : (a : Int) < (k : Int) := by omega
              have hsl9 := slice_ext s a k hak (by omega)
              have mid' := mid.flush
              rw [← ext_eq s a k] at mid'
              have HX0 := Lib.hid (writeString_any (s.extract a k) (by simp only [ByteArray.size_extract]; omega) wr.drew bw bb n P hn (⟨A0.out.lw.head, A0.out.lw.buf, A0.out.lw.le, A0.out.lw.ne⟩ : LW wr.drew bw bb n P) A0.out.lt)
              go_wp2_with fail
              refine wp_region_still_tail 10 (by kernel_rfl) (by kernel_rfl) ?_
              change wpStill _ _ wr.drew _ _ _
              simp only [List.take_succ_cons, List.take_zero, List.drop_succ_cons, List.drop_zero]
              repeat still_step
              try refine wpStill_nil ?_
              change wpList _ _ _ _ _ wr.drew
              go_wp2_with fail
              refine HX0.out.mono ?_
              rintro e wp ⟨hO0, ⟨z1, rfl, z3⟩ | ⟨z1, ⟨u, pv, rfl⟩, z3⟩⟩
              case inr => exact full_exit ⟨rfl, wrote_full (A0.out.only.drew.trans hO0) mid'.pre z1 u pv z3⟩
              have A1 := Lib.hid (A0.out.nextD hO0 z3 z1 hbe hne)
              have r1 := A1.out.cell0
              clear HX0 A0 r0 hO0 z1 z3
              have HX1 := Lib.hid (writeString_any ⟨#[92, 34]⟩ (by decide) wp bw bb n (P ++ (s.extract a k).data.toList) hn A1.out.lw A1.out.lt)
              go_wp2_with fail
              refine HX1.out.mono ?_
              rintro e w5 ⟨hO1, ⟨z1, rfl, z3⟩ | ⟨z1, ⟨u, pv, rfl⟩, z3⟩⟩
              case inr => exact full_exit ⟨rfl, wrote_full (A1.out.only.trans hO1) (by have h := mid'.preEsc hk' ([92, 34]) ([92, 34]) ([]) hst (by simp); simpa only [List.append_assoc] using h) z1 u pv z3⟩
              have A2 := Lib.hid (A1.out.next hO1 z3 z1 hbe hne)
              have r2 := A2.out.cell0
              clear HX1 A1 r1 hO1 z1 z3
              have mid2 := mid'.esc hk' ([92, 34]) hst
              go_wp2_with fail
              go_roundw
              case rel => exact ⟨k + 1, k + 1, ((P ++ (s.extract a k).data.toList) ++ [92, 34]), by go_num, by go_num, (by simpa only [List.append_assoc, List.cons_append, List.nil_append] using mid2), A2⟩
              case measure => simp [RowKit.intOf]; omega
          · as_aux_lemma =>
              obtain rfl : a = k := by omega
              have HX0 := Lib.hid (writeString_any ⟨#[92, 34]⟩ (by decide) wr bw bb n P hn A0.out.lw A0.out.lt)
              go_wp2_with fail
              refine HX0.out.mono ?_
              rintro e w5 ⟨hO0, ⟨z1, rfl, z3⟩ | ⟨z1, ⟨u, pv, rfl⟩, z3⟩⟩
              case inr => exact full_exit ⟨rfl, wrote_full (A0.out.only.trans hO0) (by have h := mid.preEsc hk' ([92, 34]) ([92, 34]) ([]) hst (by simp); simpa only [List.append_assoc] using h) z1 u pv z3⟩
              have A1 := Lib.hid (A0.out.next hO0 z3 z1 hbe hne)
              have r1 := A1.out.cell0
              clear HX0 A0 r0 hO0 z1 z3
              have mid2 := mid.esc hk' ([92, 34]) hst
              go_wp2_with fail
              go_roundw
              case rel => exact ⟨a + 1, a + 1, (P ++ [92, 34]), by go_num, by go_num, (by simpa only [List.append_assoc, List.cons_append, List.nil_append] using mid2), A1⟩
              case measure => simp [RowKit.intOf]; omega
        by_cases h92 : s[k].toNat = 92
        · have hst : stepE (s.data.toList.drop k) = ([92, 92], 1) := step_at s.data.toList k s[k] (hkb hk) 92 (by rw [h92]; rfl) (by decide) (by decide)
          by_cases hpre : a < k
          · as_aux_lemma =>
              have hpi : (a : Int) < (k : Int) := by omega
              have hsl9 := slice_ext s a k hak (by omega)
              have mid' := mid.flush
              rw [← ext_eq s a k] at mid'
              have HX0 := Lib.hid (writeString_any (s.extract a k) (by simp only [ByteArray.size_extract]; omega) wr.drew bw bb n P hn (⟨A0.out.lw.head, A0.out.lw.buf, A0.out.lw.le, A0.out.lw.ne⟩ : LW wr.drew bw bb n P) A0.out.lt)
              go_wp2_with fail
              refine wp_region_still_tail 10 (by kernel_rfl) (by kernel_rfl) ?_
              change wpStill _ _ wr.drew _ _ _
              simp only [List.take_succ_cons, List.take_zero, List.drop_succ_cons, List.drop_zero]
              repeat still_step
              try refine wpStill_nil ?_
              change wpList _ _ _ _ _ wr.drew
              go_wp2_with fail
              refine HX0.out.mono ?_
              rintro e wp ⟨hO0, ⟨z1, rfl, z3⟩ | ⟨z1, ⟨u, pv, rfl⟩, z3⟩⟩
              case inr => exact full_exit ⟨rfl, wrote_full (A0.out.only.drew.trans hO0) mid'.pre z1 u pv z3⟩
              have A1 := Lib.hid (A0.out.nextD hO0 z3 z1 hbe hne)
              have r1 := A1.out.cell0
              clear HX0 A0 r0 hO0 z1 z3
              have HX1 := Lib.hid (writeString_any ⟨#[92, 92]⟩ (by decide) wp bw bb n (P ++ (s.extract a k).data.toList) hn A1.out.lw A1.out.lt)
              go_wp2_with fail
              refine HX1.out.mono ?_
              rintro e w5 ⟨hO1, ⟨z1, rfl, z3⟩ | ⟨z1, ⟨u, pv, rfl⟩, z3⟩⟩
              case inr => exact full_exit ⟨rfl, wrote_full (A1.out.only.trans hO1) (by have h := mid'.preEsc hk' ([92, 92]) ([92, 92]) ([]) hst (by simp); simpa only [List.append_assoc] using h) z1 u pv z3⟩
              have A2 := Lib.hid (A1.out.next hO1 z3 z1 hbe hne)
              have r2 := A2.out.cell0
              clear HX1 A1 r1 hO1 z1 z3
              have mid2 := mid'.esc hk' ([92, 92]) hst
              go_wp2_with fail
              go_roundw
              case rel => exact ⟨k + 1, k + 1, ((P ++ (s.extract a k).data.toList) ++ [92, 92]), by go_num, by go_num, (by simpa only [List.append_assoc, List.cons_append, List.nil_append] using mid2), A2⟩
              case measure => simp [RowKit.intOf]; omega
          · as_aux_lemma =>
              obtain rfl : a = k := by omega
              have HX0 := Lib.hid (writeString_any ⟨#[92, 92]⟩ (by decide) wr bw bb n P hn A0.out.lw A0.out.lt)
              go_wp2_with fail
              refine HX0.out.mono ?_
              rintro e w5 ⟨hO0, ⟨z1, rfl, z3⟩ | ⟨z1, ⟨u, pv, rfl⟩, z3⟩⟩
              case inr => exact full_exit ⟨rfl, wrote_full (A0.out.only.trans hO0) (by have h := mid.preEsc hk' ([92, 92]) ([92, 92]) ([]) hst (by simp); simpa only [List.append_assoc] using h) z1 u pv z3⟩
              have A1 := Lib.hid (A0.out.next hO0 z3 z1 hbe hne)
              have r1 := A1.out.cell0
              clear HX0 A0 r0 hO0 z1 z3
              have mid2 := mid.esc hk' ([92, 92]) hst
              go_wp2_with fail
              go_roundw
              case rel => exact ⟨a + 1, a + 1, (P ++ [92, 92]), by go_num, by go_num, (by simpa only [List.append_assoc, List.cons_append, List.nil_append] using mid2), A1⟩
              case measure => simp [RowKit.intOf]; omega
        by_cases h8 : s[k].toNat = 8
        · have hst : stepE (s.data.toList.drop k) = ([92, 98], 1) := step_at s.data.toList k s[k] (hkb hk) 8 (by rw [h8]; rfl) (by decide) (by decide)
          by_cases hpre : a < k
          · as_aux_lemma =>
              have hpi : (a : Int) < (k : Int) := by omega
              have hsl9 := slice_ext s a k hak (by omega)
              have mid' := mid.flush
              rw [← ext_eq s a k] at mid'
              have HX0 := Lib.hid (writeString_any (s.extract a k) (by simp only [ByteArray.size_extract]; omega) wr.drew bw bb n P hn (⟨A0.out.lw.head, A0.out.lw.buf, A0.out.lw.le, A0.out.lw.ne⟩ : LW wr.drew bw bb n P) A0.out.lt)
              go_wp2_with fail
              refine wp_region_still_tail 10 (by kernel_rfl) (by kernel_rfl) ?_
              change wpStill _ _ wr.drew _ _ _
              simp only [List.take_succ_cons, List.take_zero, List.drop_succ_cons, List.drop_zero]
              repeat still_step
              try refine wpStill_nil ?_
              change wpList _ _ _ _ _ wr.drew
              go_wp2_with fail
              refine HX0.out.mono ?_
              rintro e wp ⟨hO0, ⟨z1, rfl, z3⟩ | ⟨z1, ⟨u, pv, rfl⟩, z3⟩⟩
              case inr => exact full_exit ⟨rfl, wrote_full (A0.out.only.drew.trans hO0) mid'.pre z1 u pv z3⟩
              have A1 := Lib.hid (A0.out.nextD hO0 z3 z1 hbe hne)
              have r1 := A1.out.cell0
              clear HX0 A0 r0 hO0 z1 z3
              have HX1 := Lib.hid (writeString_any ⟨#[92, 98]⟩ (by decide) wp bw bb n (P ++ (s.extract a k).data.toList) hn A1.out.lw A1.out.lt)
              go_wp2_with fail
              refine HX1.out.mono ?_
              rintro e w5 ⟨hO1, ⟨z1, rfl, z3⟩ | ⟨z1, ⟨u, pv, rfl⟩, z3⟩⟩
              case inr => exact full_exit ⟨rfl, wrote_full (A1.out.only.trans hO1) (by have h := mid'.preEsc hk' ([92, 98]) ([92, 98]) ([]) hst (by simp); simpa only [List.append_assoc] using h) z1 u pv z3⟩
              have A2 := Lib.hid (A1.out.next hO1 z3 z1 hbe hne)
              have r2 := A2.out.cell0
              clear HX1 A1 r1 hO1 z1 z3
              have mid2 := mid'.esc hk' ([92, 98]) hst
              go_wp2_with fail
              go_roundw
              case rel => exact ⟨k + 1, k + 1, ((P ++ (s.extract a k).data.toList) ++ [92, 98]), by go_num, by go_num, (by simpa only [List.append_assoc, List.cons_append, List.nil_append] using mid2), A2⟩
              case measure => simp [RowKit.intOf]; omega
          · as_aux_lemma =>
              obtain rfl : a = k := by omega
              have HX0 := Lib.hid (writeString_any ⟨#[92, 98]⟩ (by decide) wr bw bb n P hn A0.out.lw A0.out.lt)
              go_wp2_with fail
              refine HX0.out.mono ?_
              rintro e w5 ⟨hO0, ⟨z1, rfl, z3⟩ | ⟨z1, ⟨u, pv, rfl⟩, z3⟩⟩
              case inr => exact full_exit ⟨rfl, wrote_full (A0.out.only.trans hO0) (by have h := mid.preEsc hk' ([92, 98]) ([92, 98]) ([]) hst (by simp); simpa only [List.append_assoc] using h) z1 u pv z3⟩
              have A1 := Lib.hid (A0.out.next hO0 z3 z1 hbe hne)
              have r1 := A1.out.cell0
              clear HX0 A0 r0 hO0 z1 z3
              have mid2 := mid.esc hk' ([92, 98]) hst
              go_wp2_with fail
              go_roundw
              case rel => exact ⟨a + 1, a + 1, (P ++ [92, 98]), by go_num, by go_num, (by simpa only [List.append_assoc, List.cons_append, List.nil_append] using mid2), A1⟩
              case measure => simp [RowKit.intOf]; omega
        by_cases h12 : s[k].toNat = 12
        · have hst : stepE (s.data.toList.drop k) = ([92, 102], 1) := step_at s.data.toList k s[k] (hkb hk) 12 (by rw [h12]; rfl) (by decide) (by decide)
          by_cases hpre : a < k
          · as_aux_lemma =>
              have hpi : (a : Int) < (k : Int) := by omega
              have hsl9 := slice_ext s a k hak (by omega)
              have mid' := mid.flush
              rw [← ext_eq s a k] at mid'
              have HX0 := Lib.hid (writeString_any (s.extract a k) (by simp only [ByteArray.size_extract]; omega) wr.drew bw bb n P hn (⟨A0.out.lw.head, A0.out.lw.buf, A0.out.lw.le, A0.out.lw.ne⟩ : LW wr.drew bw bb n P) A0.out.lt)
              go_wp2_with fail
              refine wp_region_still_tail 10 (by kernel_rfl) (by kernel_rfl) ?_
              change wpStill _ _ wr.drew _ _ _
              simp only [List.take_succ_cons, List.take_zero, List.drop_succ_cons, List.drop_zero]
              repeat still_step
              try refine wpStill_nil ?_
              change wpList _ _ _ _ _ wr.drew
              go_wp2_with fail
              refine HX0.out.mono ?_
              rintro e wp ⟨hO0, ⟨z1, rfl, z3⟩ | ⟨z1, ⟨u, pv, rfl⟩, z3⟩⟩
              case inr => exact full_exit ⟨rfl, wrote_full (A0.out.only.drew.trans hO0) mid'.pre z1 u pv z3⟩
              have A1 := Lib.hid (A0.out.nextD hO0 z3 z1 hbe hne)
              have r1 := A1.out.cell0
              clear HX0 A0 r0 hO0 z1 z3
              have HX1 := Lib.hid (writeString_any ⟨#[92, 102]⟩ (by decide) wp bw bb n (P ++ (s.extract a k).data.toList) hn A1.out.lw A1.out.lt)
              go_wp2_with fail
              refine HX1.out.mono ?_
              rintro e w5 ⟨hO1, ⟨z1, rfl, z3⟩ | ⟨z1, ⟨u, pv, rfl⟩, z3⟩⟩
              case inr => exact full_exit ⟨rfl, wrote_full (A1.out.only.trans hO1) (by have h := mid'.preEsc hk' ([92, 102]) ([92, 102]) ([]) hst (by simp); simpa only [List.append_assoc] using h) z1 u pv z3⟩
              have A2 := Lib.hid (A1.out.next hO1 z3 z1 hbe hne)
              have r2 := A2.out.cell0
              clear HX1 A1 r1 hO1 z1 z3
              have mid2 := mid'.esc hk' ([92, 102]) hst
              go_wp2_with fail
              go_roundw
              case rel => exact ⟨k + 1, k + 1, ((P ++ (s.extract a k).data.toList) ++ [92, 102]), by go_num, by go_num, (by simpa only [List.append_assoc, List.cons_append, List.nil_append] using mid2), A2⟩
              case measure => simp [RowKit.intOf]; omega
          · as_aux_lemma =>
              obtain rfl : a = k := by omega
              have HX0 := Lib.hid (writeString_any ⟨#[92, 102]⟩ (by decide) wr bw bb n P hn A0.out.lw A0.out.lt)
              go_wp2_with fail
              refine HX0.out.mono ?_
              rintro e w5 ⟨hO0, ⟨z1, rfl, z3⟩ | ⟨z1, ⟨u, pv, rfl⟩, z3⟩⟩
              case inr => exact full_exit ⟨rfl, wrote_full (A0.out.only.trans hO0) (by have h := mid.preEsc hk' ([92, 102]) ([92, 102]) ([]) hst (by simp); simpa only [List.append_assoc] using h) z1 u pv z3⟩
              have A1 := Lib.hid (A0.out.next hO0 z3 z1 hbe hne)
              have r1 := A1.out.cell0
              clear HX0 A0 r0 hO0 z1 z3
              have mid2 := mid.esc hk' ([92, 102]) hst
              go_wp2_with fail
              go_roundw
              case rel => exact ⟨a + 1, a + 1, (P ++ [92, 102]), by go_num, by go_num, (by simpa only [List.append_assoc, List.cons_append, List.nil_append] using mid2), A1⟩
              case measure => simp [RowKit.intOf]; omega
        by_cases h10 : s[k].toNat = 10
        · have hst : stepE (s.data.toList.drop k) = ([92, 110], 1) := step_at s.data.toList k s[k] (hkb hk) 10 (by rw [h10]; rfl) (by decide) (by decide)
          by_cases hpre : a < k
          · as_aux_lemma =>
              have hpi : (a : Int) < (k : Int) := by omega
              have hsl9 := slice_ext s a k hak (by omega)
              have mid' := mid.flush
              rw [← ext_eq s a k] at mid'
              have HX0 := Lib.hid (writeString_any (s.extract a k) (by simp only [ByteArray.size_extract]; omega) wr.drew bw bb n P hn (⟨A0.out.lw.head, A0.out.lw.buf, A0.out.lw.le, A0.out.lw.ne⟩ : LW wr.drew bw bb n P) A0.out.lt)
              go_wp2_with fail
              refine wp_region_still_tail 10 (by kernel_rfl) (by kernel_rfl) ?_
              change wpStill _ _ wr.drew _ _ _
              simp only [List.take_succ_cons, List.take_zero, List.drop_succ_cons, List.drop_zero]
              repeat still_step
              try refine wpStill_nil ?_
              change wpList _ _ _ _ _ wr.drew
              go_wp2_with fail
              refine HX0.out.mono ?_
              rintro e wp ⟨hO0, ⟨z1, rfl, z3⟩ | ⟨z1, ⟨u, pv, rfl⟩, z3⟩⟩
              case inr => exact full_exit ⟨rfl, wrote_full (A0.out.only.drew.trans hO0) mid'.pre z1 u pv z3⟩
              have A1 := Lib.hid (A0.out.nextD hO0 z3 z1 hbe hne)
              have r1 := A1.out.cell0
              clear HX0 A0 r0 hO0 z1 z3
              have HX1 := Lib.hid (writeString_any ⟨#[92, 110]⟩ (by decide) wp bw bb n (P ++ (s.extract a k).data.toList) hn A1.out.lw A1.out.lt)
              go_wp2_with fail
              refine HX1.out.mono ?_
              rintro e w5 ⟨hO1, ⟨z1, rfl, z3⟩ | ⟨z1, ⟨u, pv, rfl⟩, z3⟩⟩
              case inr => exact full_exit ⟨rfl, wrote_full (A1.out.only.trans hO1) (by have h := mid'.preEsc hk' ([92, 110]) ([92, 110]) ([]) hst (by simp); simpa only [List.append_assoc] using h) z1 u pv z3⟩
              have A2 := Lib.hid (A1.out.next hO1 z3 z1 hbe hne)
              have r2 := A2.out.cell0
              clear HX1 A1 r1 hO1 z1 z3
              have mid2 := mid'.esc hk' ([92, 110]) hst
              go_wp2_with fail
              go_roundw
              case rel => exact ⟨k + 1, k + 1, ((P ++ (s.extract a k).data.toList) ++ [92, 110]), by go_num, by go_num, (by simpa only [List.append_assoc, List.cons_append, List.nil_append] using mid2), A2⟩
              case measure => simp [RowKit.intOf]; omega
          · as_aux_lemma =>
              obtain rfl : a = k := by omega
              have HX0 := Lib.hid (writeString_any ⟨#[92, 110]⟩ (by decide) wr bw bb n P hn A0.out.lw A0.out.lt)
              go_wp2_with fail
              refine HX0.out.mono ?_
              rintro e w5 ⟨hO0, ⟨z1, rfl, z3⟩ | ⟨z1, ⟨u, pv, rfl⟩, z3⟩⟩
              case inr => exact full_exit ⟨rfl, wrote_full (A0.out.only.trans hO0) (by have h := mid.preEsc hk' ([92, 110]) ([92, 110]) ([]) hst (by simp); simpa only [List.append_assoc] using h) z1 u pv z3⟩
              have A1 := Lib.hid (A0.out.next hO0 z3 z1 hbe hne)
              have r1 := A1.out.cell0
              clear HX0 A0 r0 hO0 z1 z3
              have mid2 := mid.esc hk' ([92, 110]) hst
              go_wp2_with fail
              go_roundw
              case rel => exact ⟨a + 1, a + 1, (P ++ [92, 110]), by go_num, by go_num, (by simpa only [List.append_assoc, List.cons_append, List.nil_append] using mid2), A1⟩
              case measure => simp [RowKit.intOf]; omega
        by_cases h13 : s[k].toNat = 13
        · have hst : stepE (s.data.toList.drop k) = ([92, 114], 1) := step_at s.data.toList k s[k] (hkb hk) 13 (by rw [h13]; rfl) (by decide) (by decide)
          by_cases hpre : a < k
          · as_aux_lemma =>
              have hpi : (a : Int) < (k : Int) := by omega
              have hsl9 := slice_ext s a k hak (by omega)
              have mid' := mid.flush
              rw [← ext_eq s a k] at mid'
              have HX0 := Lib.hid (writeString_any (s.extract a k) (by simp only [ByteArray.size_extract]; omega) wr.drew bw bb n P hn (⟨A0.out.lw.head, A0.out.lw.buf, A0.out.lw.le, A0.out.lw.ne⟩ : LW wr.drew bw bb n P) A0.out.lt)
              go_wp2_with fail
              refine wp_region_still_tail 10 (by kernel_rfl) (by kernel_rfl) ?_
              change wpStill _ _ wr.drew _ _ _
              simp only [List.take_succ_cons, List.take_zero, List.drop_succ_cons, List.drop_zero]
              repeat still_step
              try refine wpStill_nil ?_
              change wpList _ _ _ _ _ wr.drew
              go_wp2_with fail
              refine HX0.out.mono ?_
              rintro e wp ⟨hO0, ⟨z1, rfl, z3⟩ | ⟨z1, ⟨u, pv, rfl⟩, z3⟩⟩
              case inr => exact full_exit ⟨rfl, wrote_full (A0.out.only.drew.trans hO0) mid'.pre z1 u pv z3⟩
              have A1 := Lib.hid (A0.out.nextD hO0 z3 z1 hbe hne)
              have r1 := A1.out.cell0
              clear HX0 A0 r0 hO0 z1 z3
              have HX1 := Lib.hid (writeString_any ⟨#[92, 114]⟩ (by decide) wp bw bb n (P ++ (s.extract a k).data.toList) hn A1.out.lw A1.out.lt)
              go_wp2_with fail
              refine HX1.out.mono ?_
              rintro e w5 ⟨hO1, ⟨z1, rfl, z3⟩ | ⟨z1, ⟨u, pv, rfl⟩, z3⟩⟩
              case inr => exact full_exit ⟨rfl, wrote_full (A1.out.only.trans hO1) (by have h := mid'.preEsc hk' ([92, 114]) ([92, 114]) ([]) hst (by simp); simpa only [List.append_assoc] using h) z1 u pv z3⟩
              have A2 := Lib.hid (A1.out.next hO1 z3 z1 hbe hne)
              have r2 := A2.out.cell0
              clear HX1 A1 r1 hO1 z1 z3
              have mid2 := mid'.esc hk' ([92, 114]) hst
              go_wp2_with fail
              go_roundw
              case rel => exact ⟨k + 1, k + 1, ((P ++ (s.extract a k).data.toList) ++ [92, 114]), by go_num, by go_num, (by simpa only [List.append_assoc, List.cons_append, List.nil_append] using mid2), A2⟩
              case measure => simp [RowKit.intOf]; omega
          · as_aux_lemma =>
              obtain rfl : a = k := by omega
              have HX0 := Lib.hid (writeString_any ⟨#[92, 114]⟩ (by decide) wr bw bb n P hn A0.out.lw A0.out.lt)
              go_wp2_with fail
              refine HX0.out.mono ?_
              rintro e w5 ⟨hO0, ⟨z1, rfl, z3⟩ | ⟨z1, ⟨u, pv, rfl⟩, z3⟩⟩
              case inr => exact full_exit ⟨rfl, wrote_full (A0.out.only.trans hO0) (by have h := mid.preEsc hk' ([92, 114]) ([92, 114]) ([]) hst (by simp); simpa only [List.append_assoc] using h) z1 u pv z3⟩
              have A1 := Lib.hid (A0.out.next hO0 z3 z1 hbe hne)
              have r1 := A1.out.cell0
              clear HX0 A0 r0 hO0 z1 z3
              have mid2 := mid.esc hk' ([92, 114]) hst
              go_wp2_with fail
              go_roundw
              case rel => exact ⟨a + 1, a + 1, (P ++ [92, 114]), by go_num, by go_num, (by simpa only [List.append_assoc, List.cons_append, List.nil_append] using mid2), A1⟩
              case measure => simp [RowKit.intOf]; omega
        by_cases h9 : s[k].toNat = 9
        · have hst : stepE (s.data.toList.drop k) = ([92, 116], 1) := step_at s.data.toList k s[k] (hkb hk) 9 (by rw [h9]; rfl) (by decide) (by decide)
          by_cases hpre : a < k
          · as_aux_lemma =>
              have hpi : (a : Int) < (k : Int) := by omega
              have hsl9 := slice_ext s a k hak (by omega)
              have mid' := mid.flush
              rw [← ext_eq s a k] at mid'
              have HX0 := Lib.hid (writeString_any (s.extract a k) (by simp only [ByteArray.size_extract]; omega) wr.drew bw bb n P hn (⟨A0.out.lw.head, A0.out.lw.buf, A0.out.lw.le, A0.out.lw.ne⟩ : LW wr.drew bw bb n P) A0.out.lt)
              go_wp2_with fail
              refine wp_region_still_tail 10 (by kernel_rfl) (by kernel_rfl) ?_
              change wpStill _ _ wr.drew _ _ _
              simp only [List.take_succ_cons, List.take_zero, List.drop_succ_cons, List.drop_zero]
              repeat still_step
              try refine wpStill_nil ?_
              change wpList _ _ _ _ _ wr.drew
              go_wp2_with fail
              refine HX0.out.mono ?_
              rintro e wp ⟨hO0, ⟨z1, rfl, z3⟩ | ⟨z1, ⟨u, pv, rfl⟩, z3⟩⟩
              case inr => exact full_exit ⟨rfl, wrote_full (A0.out.only.drew.trans hO0) mid'.pre z1 u pv z3⟩
              have A1 := Lib.hid (A0.out.nextD hO0 z3 z1 hbe hne)
              have r1 := A1.out.cell0
              clear HX0 A0 r0 hO0 z1 z3
              have HX1 := Lib.hid (writeString_any ⟨#[92, 116]⟩ (by decide) wp bw bb n (P ++ (s.extract a k).data.toList) hn A1.out.lw A1.out.lt)
              go_wp2_with fail
              refine HX1.out.mono ?_
              rintro e w5 ⟨hO1, ⟨z1, rfl, z3⟩ | ⟨z1, ⟨u, pv, rfl⟩, z3⟩⟩
              case inr => exact full_exit ⟨rfl, wrote_full (A1.out.only.trans hO1) (by have h := mid'.preEsc hk' ([92, 116]) ([92, 116]) ([]) hst (by simp); simpa only [List.append_assoc] using h) z1 u pv z3⟩
              have A2 := Lib.hid (A1.out.next hO1 z3 z1 hbe hne)
              have r2 := A2.out.cell0
              clear HX1 A1 r1 hO1 z1 z3
              have mid2 := mid'.esc hk' ([92, 116]) hst
              go_wp2_with fail
              go_roundw
              case rel => exact ⟨k + 1, k + 1, ((P ++ (s.extract a k).data.toList) ++ [92, 116]), by go_num, by go_num, (by simpa only [List.append_assoc, List.cons_append, List.nil_append] using mid2), A2⟩
              case measure => simp [RowKit.intOf]; omega
          · as_aux_lemma =>
              obtain rfl : a = k := by omega
              have HX0 := Lib.hid (writeString_any ⟨#[92, 116]⟩ (by decide) wr bw bb n P hn A0.out.lw A0.out.lt)
              go_wp2_with fail
              refine HX0.out.mono ?_
              rintro e w5 ⟨hO0, ⟨z1, rfl, z3⟩ | ⟨z1, ⟨u, pv, rfl⟩, z3⟩⟩
              case inr => exact full_exit ⟨rfl, wrote_full (A0.out.only.trans hO0) (by have h := mid.preEsc hk' ([92, 116]) ([92, 116]) ([]) hst (by simp); simpa only [List.append_assoc] using h) z1 u pv z3⟩
              have A1 := Lib.hid (A0.out.next hO0 z3 z1 hbe hne)
              have r1 := A1.out.cell0
              clear HX0 A0 r0 hO0 z1 z3
              have mid2 := mid.esc hk' ([92, 116]) hst
              go_wp2_with fail
              go_roundw
              case rel => exact ⟨a + 1, a + 1, (P ++ [92, 116]), by go_num, by go_num, (by simpa only [List.append_assoc, List.cons_append, List.nil_append] using mid2), A1⟩
              case measure => simp [RowKit.intOf]; omega
        by_cases h127 : s[k].toNat = 127
        · have hst : stepE (s.data.toList.drop k) = ([92, 117, 48, 48, 55, 102], 1) := step_at s.data.toList k s[k] (hkb hk) 127 (by rw [h127]; rfl) (by decide) (by decide)
          have g3 : bits BinOp.and IntKind.u8 127 15 = 15 := by decide
          by_cases hpre : a < k
          · as_aux_lemma =>
              have hpi : (a : Int) < (k : Int) := by omega
              have hsl9 := slice_ext s a k hak (by omega)
              have mid' := mid.flush
              rw [← ext_eq s a k] at mid'
              have HX0 := Lib.hid (writeString_any (s.extract a k) (by simp only [ByteArray.size_extract]; omega) wr.drew bw bb n P hn (⟨A0.out.lw.head, A0.out.lw.buf, A0.out.lw.le, A0.out.lw.ne⟩ : LW wr.drew bw bb n P) A0.out.lt)
              go_wp2_with fail
              refine wp_region_still_tail 10 (by kernel_rfl) (by kernel_rfl) ?_
              change wpStill _ _ wr.drew _ _ _
              simp only [List.take_succ_cons, List.take_zero, List.drop_succ_cons, List.drop_zero]
              repeat still_step
              try refine wpStill_nil ?_
              change wpList _ _ _ _ _ wr.drew
              go_wp2_with fail
              refine HX0.out.mono ?_
              rintro e wp ⟨hO0, ⟨z1, rfl, z3⟩ | ⟨z1, ⟨u, pv, rfl⟩, z3⟩⟩
              case inr => exact full_exit ⟨rfl, wrote_full (A0.out.only.drew.trans hO0) mid'.pre z1 u pv z3⟩
              have A1 := Lib.hid (A0.out.nextD hO0 z3 z1 hbe hne)
              have r1 := A1.out.cell0
              clear HX0 A0 r0 hO0 z1 z3
              have HX1 := Lib.hid (writeString_any ⟨#[92, 117, 48, 48]⟩ (by decide) wp bw bb n (P ++ (s.extract a k).data.toList) hn A1.out.lw A1.out.lt)
              go_wp2_with fail
              refine HX1.out.mono ?_
              rintro e w5 ⟨hO1, ⟨z1, rfl, z3⟩ | ⟨z1, ⟨u, pv, rfl⟩, z3⟩⟩
              case inr => exact full_exit ⟨rfl, wrote_full (A1.out.only.trans hO1) (by have h := mid'.preEsc hk' ([92, 117, 48, 48, 55, 102]) ([92, 117, 48, 48]) ([55] ++ [102]) hst (by simp); simpa only [List.append_assoc] using h) z1 u pv z3⟩
              have A2 := Lib.hid (A1.out.next hO1 z3 z1 hbe hne)
              have r2 := A2.out.cell0
              clear HX1 A1 r1 hO1 z1 z3
              have HX2 := Lib.hid (writeByte_any (55) w5.drew bw bb n ((P ++ (s.extract a k).data.toList) ++ [92, 117, 48, 48]) hn (⟨A2.out.lw.head, A2.out.lw.buf, A2.out.lw.le, A2.out.lw.ne⟩ : LW w5.drew bw bb n ((P ++ (s.extract a k).data.toList) ++ [92, 117, 48, 48])) A2.out.lt)
              go_wp2_with fail
              refine wp_region_still_tail 9 (by kernel_rfl) (by kernel_rfl) ?_
              change wpStill _ _ w5.drew _ _ _
              simp only [List.take_succ_cons, List.take_zero, List.drop_succ_cons, List.drop_zero]
              repeat still_step
              try refine wpStill_nil ?_
              change wpList _ _ _ _ _ w5.drew
              go_wp2_with fail
              refine HX2.out.mono ?_
              rintro e w6 ⟨hO2, ⟨z1, rfl, z3⟩ | ⟨z1, ⟨u, pv, rfl⟩, z3⟩⟩
              case inr => exact full_exit ⟨rfl, wrote_full (A2.out.only.drew.trans hO2) (by have h := mid'.preEsc hk' ([92, 117, 48, 48, 55, 102]) ([92, 117, 48, 48] ++ [55]) ([102]) hst (by simp); simpa only [List.append_assoc] using h) z1 u pv z3⟩
              have A3 := Lib.hid (A2.out.nextD hO2 z3 z1 hbe hne)
              have r3 := A3.out.cell0
              clear HX2 A2 r2 hO2 z1 z3
              have HX3 := Lib.hid (writeByte_any (102) w6.drew bw bb n (((P ++ (s.extract a k).data.toList) ++ [92, 117, 48, 48]) ++ [55]) hn (⟨A3.out.lw.head, A3.out.lw.buf, A3.out.lw.le, A3.out.lw.ne⟩ : LW w6.drew bw bb n (((P ++ (s.extract a k).data.toList) ++ [92, 117, 48, 48]) ++ [55])) A3.out.lt)
              go_wp2_with fail
              refine wp_region_still_tail 9 (by kernel_rfl) (by kernel_rfl) ?_
              change wpStill _ _ w6.drew _ _ _
              simp only [List.take_succ_cons, List.take_zero, List.drop_succ_cons, List.drop_zero]
              repeat still_step
              try refine wpStill_nil ?_
              change wpList _ _ _ _ _ w6.drew
              go_wp2_with fail
              refine HX3.out.mono ?_
              rintro e w7 ⟨hO3, ⟨z1, rfl, z3⟩ | ⟨z1, ⟨u, pv, rfl⟩, z3⟩⟩
              case inr => exact full_exit ⟨rfl, wrote_full (A3.out.only.drew.trans hO3) (by have h := mid'.preEsc hk' ([92, 117, 48, 48, 55, 102]) ([92, 117, 48, 48] ++ [55] ++ [102]) ([]) hst (by simp); simpa only [List.append_assoc] using h) z1 u pv z3⟩
              have A4 := Lib.hid (A3.out.nextD hO3 z3 z1 hbe hne)
              have r4 := A4.out.cell0
              clear HX3 A3 r3 hO3 z1 z3
              have mid2 := mid'.esc hk' ([92, 117, 48, 48, 55, 102]) hst
              go_wp2_with fail
              go_roundw
              case rel => exact ⟨k + 1, k + 1, ((((P ++ (s.extract a k).data.toList) ++ [92, 117, 48, 48]) ++ [55]) ++ [102]), by go_num, by go_num, (by simpa only [List.append_assoc, List.cons_append, List.nil_append] using mid2), A4⟩
              case measure => simp [RowKit.intOf]; omega
          · as_aux_lemma =>
              obtain rfl : a = k := by omega
              have HX0 := Lib.hid (writeString_any ⟨#[92, 117, 48, 48]⟩ (by decide) wr bw bb n P hn A0.out.lw A0.out.lt)
              go_wp2_with fail
              refine HX0.out.mono ?_
              rintro e w5 ⟨hO0, ⟨z1, rfl, z3⟩ | ⟨z1, ⟨u, pv, rfl⟩, z3⟩⟩
              case inr => exact full_exit ⟨rfl, wrote_full (A0.out.only.trans hO0) (by have h := mid.preEsc hk' ([92, 117, 48, 48, 55, 102]) ([92, 117, 48, 48]) ([55] ++ [102]) hst (by simp); simpa only [List.append_assoc] using h) z1 u pv z3⟩
              have A1 := Lib.hid (A0.out.next hO0 z3 z1 hbe hne)
              have r1 := A1.out.cell0
              clear HX0 A0 r0 hO0 z1 z3
              have HX1 := Lib.hid (writeByte_any (55) w5.drew bw bb n (P ++ [92, 117, 48, 48]) hn (⟨A1.out.lw.head, A1.out.lw.buf, A1.out.lw.le, A1.out.lw.ne⟩ : LW w5.drew bw bb n (P ++ [92, 117, 48, 48])) A1.out.lt)
              go_wp2_with fail
              refine wp_region_still_tail 9 (by kernel_rfl) (by kernel_rfl) ?_
              change wpStill _ _ w5.drew _ _ _
              simp only [List.take_succ_cons, List.take_zero, List.drop_succ_cons, List.drop_zero]
              repeat still_step
              try refine wpStill_nil ?_
              change wpList _ _ _ _ _ w5.drew
              go_wp2_with fail
              refine HX1.out.mono ?_
              rintro e w6 ⟨hO1, ⟨z1, rfl, z3⟩ | ⟨z1, ⟨u, pv, rfl⟩, z3⟩⟩
              case inr => exact full_exit ⟨rfl, wrote_full (A1.out.only.drew.trans hO1) (by have h := mid.preEsc hk' ([92, 117, 48, 48, 55, 102]) ([92, 117, 48, 48] ++ [55]) ([102]) hst (by simp); simpa only [List.append_assoc] using h) z1 u pv z3⟩
              have A2 := Lib.hid (A1.out.nextD hO1 z3 z1 hbe hne)
              have r2 := A2.out.cell0
              clear HX1 A1 r1 hO1 z1 z3
              have HX2 := Lib.hid (writeByte_any (102) w6.drew bw bb n ((P ++ [92, 117, 48, 48]) ++ [55]) hn (⟨A2.out.lw.head, A2.out.lw.buf, A2.out.lw.le, A2.out.lw.ne⟩ : LW w6.drew bw bb n ((P ++ [92, 117, 48, 48]) ++ [55])) A2.out.lt)
              go_wp2_with fail
              refine wp_region_still_tail 9 (by kernel_rfl) (by kernel_rfl) ?_
              change wpStill _ _ w6.drew _ _ _
              simp only [List.take_succ_cons, List.take_zero, List.drop_succ_cons, List.drop_zero]
              repeat still_step
              try refine wpStill_nil ?_
              change wpList _ _ _ _ _ w6.drew
              go_wp2_with fail
              refine HX2.out.mono ?_
              rintro e w7 ⟨hO2, ⟨z1, rfl, z3⟩ | ⟨z1, ⟨u, pv, rfl⟩, z3⟩⟩
              case inr => exact full_exit ⟨rfl, wrote_full (A2.out.only.drew.trans hO2) (by have h := mid.preEsc hk' ([92, 117, 48, 48, 55, 102]) ([92, 117, 48, 48] ++ [55] ++ [102]) ([]) hst (by simp); simpa only [List.append_assoc] using h) z1 u pv z3⟩
              have A3 := Lib.hid (A2.out.nextD hO2 z3 z1 hbe hne)
              have r3 := A3.out.cell0
              clear HX2 A2 r2 hO2 z1 z3
              have mid2 := mid.esc hk' ([92, 117, 48, 48, 55, 102]) hst
              go_wp2_with fail
              go_roundw
              case rel => exact ⟨a + 1, a + 1, (((P ++ [92, 117, 48, 48]) ++ [55]) ++ [102]), by go_num, by go_num, (by simpa only [List.append_assoc, List.cons_append, List.nil_append] using mid2), A3⟩
              case measure => simp [RowKit.intOf]; omega
        by_cases hLow : s[k].toNat < 32
        · have q1 : (s[k].toNat : Int) < 128 := by omega
          have q2 : ¬ 32 ≤ (s[k].toNat : Int) := by omega
          have n34 : ¬ (s[k].toNat : Int) = 34 := by omega
          have n92 : ¬ (s[k].toNat : Int) = 92 := by omega
          have n8 : ¬ (s[k].toNat : Int) = 8 := by omega
          have n12 : ¬ (s[k].toNat : Int) = 12 := by omega
          have n10 : ¬ (s[k].toNat : Int) = 10 := by omega
          have n13 : ¬ (s[k].toNat : Int) = 13 := by omega
          have n9 : ¬ (s[k].toNat : Int) = 9 := by omega
          obtain ⟨m1, hm1⟩ : ∃ m, m = s[k].toNat / 16 := ⟨_, rfl⟩
          obtain ⟨m2, hm2⟩ : ∃ m, m = s[k].toNat % 16 := ⟨_, rfl⟩
          have hst : stepE (s.data.toList.drop k) = ([92, 117, 48, 48, hexd m1, hexd m2], 1) := by
            rw [hm1, hm2]
            exact step_def s.data.toList k s[k] (hkb hk) (by omega) (by omega)
          have g1 : (s[k].toNat : Int) / 16 = (m1 : Int) := by omega
          have g2 : (m1 : Int) < 16 := by omega
          have g3 : bits BinOp.and IntKind.u8 (s[k].toNat : Int) 15 = (m2 : Int) := by rw [hm2]; exact and15 _ hLow
          have g4 : (m2 : Int) < 16 := by omega
          have g5 := hex_at
          clear hm1 hm2
          by_cases hpre : a < k
          · as_aux_lemma =>
              have hpi : (a : Int) < (k : Int) := by omega
              have hsl9 := slice_ext s a k hak (by omega)
              have mid' := mid.flush
              rw [← ext_eq s a k] at mid'
              have HX0 := Lib.hid (writeString_any (s.extract a k) (by simp only [ByteArray.size_extract]; omega) wr.drew bw bb n P hn (⟨A0.out.lw.head, A0.out.lw.buf, A0.out.lw.le, A0.out.lw.ne⟩ : LW wr.drew bw bb n P) A0.out.lt)
              go_wp2_with fail
              refine wp_region_still_tail 10 (by kernel_rfl) (by kernel_rfl) ?_
              change wpStill _ _ wr.drew _ _ _
              simp only [List.take_succ_cons, List.take_zero, List.drop_succ_cons, List.drop_zero]
              repeat still_step
              try refine wpStill_nil ?_
              change wpList _ _ _ _ _ wr.drew
              go_wp2_with fail
              refine HX0.out.mono ?_
              rintro e wp ⟨hO0, ⟨z1, rfl, z3⟩ | ⟨z1, ⟨u, pv, rfl⟩, z3⟩⟩
              case inr => exact full_exit ⟨rfl, wrote_full (A0.out.only.drew.trans hO0) mid'.pre z1 u pv z3⟩
              have A1 := Lib.hid (A0.out.nextD hO0 z3 z1 hbe hne)
              have r1 := A1.out.cell0
              clear HX0 A0 r0 hO0 z1 z3
              have HX1 := Lib.hid (writeString_any ⟨#[92, 117, 48, 48]⟩ (by decide) wp bw bb n (P ++ (s.extract a k).data.toList) hn A1.out.lw A1.out.lt)
              go_wp2_with fail
              refine HX1.out.mono ?_
              rintro e w5 ⟨hO1, ⟨z1, rfl, z3⟩ | ⟨z1, ⟨u, pv, rfl⟩, z3⟩⟩
              case inr => exact full_exit ⟨rfl, wrote_full (A1.out.only.trans hO1) (by have h := mid'.preEsc hk' ([92, 117, 48, 48, hexd m1, hexd m2]) ([92, 117, 48, 48]) ([hexd m1] ++ [hexd m2]) hst (by simp); simpa only [List.append_assoc] using h) z1 u pv z3⟩
              have A2 := Lib.hid (A1.out.next hO1 z3 z1 hbe hne)
              have r2 := A2.out.cell0
              clear HX1 A1 r1 hO1 z1 z3
              have HX2 := Lib.hid (writeByte_any (hexd m1) w5.drew bw bb n ((P ++ (s.extract a k).data.toList) ++ [92, 117, 48, 48]) hn (⟨A2.out.lw.head, A2.out.lw.buf, A2.out.lw.le, A2.out.lw.ne⟩ : LW w5.drew bw bb n ((P ++ (s.extract a k).data.toList) ++ [92, 117, 48, 48])) A2.out.lt)
              go_wp2_with fail
              refine wp_region_still_tail 9 (by kernel_rfl) (by kernel_rfl) ?_
              change wpStill _ _ w5.drew _ _ _
              simp only [List.take_succ_cons, List.take_zero, List.drop_succ_cons, List.drop_zero]
              repeat still_step
              try refine wpStill_nil ?_
              change wpList _ _ _ _ _ w5.drew
              go_wp2_with fail
              refine HX2.out.mono ?_
              rintro e w6 ⟨hO2, ⟨z1, rfl, z3⟩ | ⟨z1, ⟨u, pv, rfl⟩, z3⟩⟩
              case inr => exact full_exit ⟨rfl, wrote_full (A2.out.only.drew.trans hO2) (by have h := mid'.preEsc hk' ([92, 117, 48, 48, hexd m1, hexd m2]) ([92, 117, 48, 48] ++ [hexd m1]) ([hexd m2]) hst (by simp); simpa only [List.append_assoc] using h) z1 u pv z3⟩
              have A3 := Lib.hid (A2.out.nextD hO2 z3 z1 hbe hne)
              have r3 := A3.out.cell0
              clear HX2 A2 r2 hO2 z1 z3
              have HX3 := Lib.hid (writeByte_any (hexd m2) w6.drew bw bb n (((P ++ (s.extract a k).data.toList) ++ [92, 117, 48, 48]) ++ [hexd m1]) hn (⟨A3.out.lw.head, A3.out.lw.buf, A3.out.lw.le, A3.out.lw.ne⟩ : LW w6.drew bw bb n (((P ++ (s.extract a k).data.toList) ++ [92, 117, 48, 48]) ++ [hexd m1])) A3.out.lt)
              go_wp2_with fail
              refine wp_region_still_tail 9 (by kernel_rfl) (by kernel_rfl) ?_
              change wpStill _ _ w6.drew _ _ _
              simp only [List.take_succ_cons, List.take_zero, List.drop_succ_cons, List.drop_zero]
              repeat still_step
              try refine wpStill_nil ?_
              change wpList _ _ _ _ _ w6.drew
              go_wp2_with fail
              refine HX3.out.mono ?_
              rintro e w7 ⟨hO3, ⟨z1, rfl, z3⟩ | ⟨z1, ⟨u, pv, rfl⟩, z3⟩⟩
              case inr => exact full_exit ⟨rfl, wrote_full (A3.out.only.drew.trans hO3) (by have h := mid'.preEsc hk' ([92, 117, 48, 48, hexd m1, hexd m2]) ([92, 117, 48, 48] ++ [hexd m1] ++ [hexd m2]) ([]) hst (by simp); simpa only [List.append_assoc] using h) z1 u pv z3⟩
              have A4 := Lib.hid (A3.out.nextD hO3 z3 z1 hbe hne)
              have r4 := A4.out.cell0
              clear HX3 A3 r3 hO3 z1 z3
              have mid2 := mid'.esc hk' ([92, 117, 48, 48, hexd m1, hexd m2]) hst
              go_wp2_with fail
              go_roundw
              case rel => exact ⟨k + 1, k + 1, ((((P ++ (s.extract a k).data.toList) ++ [92, 117, 48, 48]) ++ [hexd m1]) ++ [hexd m2]), by go_num, by go_num, (by simpa only [List.append_assoc, List.cons_append, List.nil_append] using mid2), A4⟩
              case measure => simp [RowKit.intOf]; omega
          · as_aux_lemma =>
              obtain rfl : a = k := by omega
              have HX0 := Lib.hid (writeString_any ⟨#[92, 117, 48, 48]⟩ (by decide) wr bw bb n P hn A0.out.lw A0.out.lt)
              go_wp2_with fail
              refine HX0.out.mono ?_
              rintro e w5 ⟨hO0, ⟨z1, rfl, z3⟩ | ⟨z1, ⟨u, pv, rfl⟩, z3⟩⟩
              case inr => exact full_exit ⟨rfl, wrote_full (A0.out.only.trans hO0) (by have h := mid.preEsc hk' ([92, 117, 48, 48, hexd m1, hexd m2]) ([92, 117, 48, 48]) ([hexd m1] ++ [hexd m2]) hst (by simp); simpa only [List.append_assoc] using h) z1 u pv z3⟩
              have A1 := Lib.hid (A0.out.next hO0 z3 z1 hbe hne)
              have r1 := A1.out.cell0
              clear HX0 A0 r0 hO0 z1 z3
              have HX1 := Lib.hid (writeByte_any (hexd m1) w5.drew bw bb n (P ++ [92, 117, 48, 48]) hn (⟨A1.out.lw.head, A1.out.lw.buf, A1.out.lw.le, A1.out.lw.ne⟩ : LW w5.drew bw bb n (P ++ [92, 117, 48, 48])) A1.out.lt)
              go_wp2_with fail
              refine wp_region_still_tail 9 (by kernel_rfl) (by kernel_rfl) ?_
              change wpStill _ _ w5.drew _ _ _
              simp only [List.take_succ_cons, List.take_zero, List.drop_succ_cons, List.drop_zero]
              repeat still_step
              try refine wpStill_nil ?_
              change wpList _ _ _ _ _ w5.drew
              go_wp2_with fail
              refine HX1.out.mono ?_
              rintro e w6 ⟨hO1, ⟨z1, rfl, z3⟩ | ⟨z1, ⟨u, pv, rfl⟩, z3⟩⟩
              case inr => exact full_exit ⟨rfl, wrote_full (A1.out.only.drew.trans hO1) (by have h := mid.preEsc hk' ([92, 117, 48, 48, hexd m1, hexd m2]) ([92, 117, 48, 48] ++ [hexd m1]) ([hexd m2]) hst (by simp); simpa only [List.append_assoc] using h) z1 u pv z3⟩
              have A2 := Lib.hid (A1.out.nextD hO1 z3 z1 hbe hne)
              have r2 := A2.out.cell0
              clear HX1 A1 r1 hO1 z1 z3
              have HX2 := Lib.hid (writeByte_any (hexd m2) w6.drew bw bb n ((P ++ [92, 117, 48, 48]) ++ [hexd m1]) hn (⟨A2.out.lw.head, A2.out.lw.buf, A2.out.lw.le, A2.out.lw.ne⟩ : LW w6.drew bw bb n ((P ++ [92, 117, 48, 48]) ++ [hexd m1])) A2.out.lt)
              go_wp2_with fail
              refine wp_region_still_tail 9 (by kernel_rfl) (by kernel_rfl) ?_
              change wpStill _ _ w6.drew _ _ _
              simp only [List.take_succ_cons, List.take_zero, List.drop_succ_cons, List.drop_zero]
              repeat still_step
              try refine wpStill_nil ?_
              change wpList _ _ _ _ _ w6.drew
              go_wp2_with fail
              refine HX2.out.mono ?_
              rintro e w7 ⟨hO2, ⟨z1, rfl, z3⟩ | ⟨z1, ⟨u, pv, rfl⟩, z3⟩⟩
              case inr => exact full_exit ⟨rfl, wrote_full (A2.out.only.drew.trans hO2) (by have h := mid.preEsc hk' ([92, 117, 48, 48, hexd m1, hexd m2]) ([92, 117, 48, 48] ++ [hexd m1] ++ [hexd m2]) ([]) hst (by simp); simpa only [List.append_assoc] using h) z1 u pv z3⟩
              have A3 := Lib.hid (A2.out.nextD hO2 z3 z1 hbe hne)
              have r3 := A3.out.cell0
              clear HX2 A2 r2 hO2 z1 z3
              have mid2 := mid.esc hk' ([92, 117, 48, 48, hexd m1, hexd m2]) hst
              go_wp2_with fail
              go_roundw
              case rel => exact ⟨a + 1, a + 1, (((P ++ [92, 117, 48, 48]) ++ [hexd m1]) ++ [hexd m2]), by go_num, by go_num, (by simpa only [List.append_assoc, List.cons_append, List.nil_append] using mid2), A3⟩
              case measure => simp [RowKit.intOf]; omega
        by_cases hasc : s[k].toNat < 128
        · as_aux_lemma =>
            have q1 : (s[k].toNat : Int) < 128 := by omega
            have q2 : 32 ≤ (s[k].toNat : Int) := by omega
            have q3 : (s[k].toNat : Int) ≤ 126 := by omega
            have q4 : ¬ (s[k].toNat : Int) = 34 := by omega
            have q5 : ¬ (s[k].toNat : Int) = 92 := by omega
            have q6 : ((s[k].toNat : Int) != 34) = true := by rw [bne_iff_ne]; exact q4
            have q7 : ((s[k].toNat : Int) != 92) = true := by rw [bne_iff_ne]; exact q5
            have hst := step_plain s.data.toList k s[k] (hkb hk) hasc (plain_of s[k] (by omega) (by omega) h34 h92)
            have mid2 := mid.pass hk' 1 (by omega) hst
            go_wp2_with fail
            go_roundw
            case rel => exact ⟨k + 1, a, P, by go_num, rfl, mid2, A0⟩
            case measure => simp [RowKit.intOf]; omega
        · have q1 : ¬ (s[k].toNat : Int) < 128 := by omega
          have hw := A0.out.only.below hBw (fun x hx => by rcases hx with h | h <;> (rw [h]; first | exact HB.out.1 | exact HB.out.2))
          obtain ⟨c, hc⟩ : ∃ c, (Lib.decodeL (s.data.toList.drop k)).1 = c := ⟨_, rfl⟩
          obtain ⟨m, hm⟩ : ∃ m, (Lib.decodeL (s.data.toList.drop k)).2 = m := ⟨_, rfl⟩
          have hmw := decodeL_width (s.data.toList.drop k)
          have hml := decodeL_fits (s.data.toList.drop k) (by intro e; have := congrArg List.length e; simp at this; omega)
          rw [hm, List.length_drop, hsl] at hml
          rw [hm] at hmw
          have HD := Tryz.utf8_DecodeRuneInString (s.extract k s.size) wr (HU.out wr hw)
          rw [decodeGo_tail s k hk, hc, hm] at HD
          have HD := Lib.hid HD
          have hsl9 := slice_tail s k (by omega)
          go_wp2_with fail
          refine HD.out.mono ?_
          rintro e w1 ⟨rfl, hb1⟩
          have A1 := Lib.hid (A0.out.next (Only.ofBelow hb1) (A0.out.lw.only (Only.ofBelow (S := fun _ => False) hb1) id id) A0.out.lt hbe hne)
          have r1 := A1.out.cell0
          clear A0 r0 HD hw hb1
          by_cases hbad : c = 65533 ∧ m = 1
          · obtain ⟨rfl, rfl⟩ := hbad
            have hst : stepE (s.data.toList.drop k) = ([92, 117, 102, 102, 102, 100], 1) := step_bad s.data.toList k s[k] (hkb hk) hasc ⟨hc, hm⟩
            clear hc hm
            by_cases hpre : a < k
            · as_aux_lemma =>
                have hpi : (a : Int) < (k : Int) := by omega
                have hsl9 := slice_ext s a k hak (by omega)
                have mid' := mid.flush
                rw [← ext_eq s a k] at mid'
                have HX1 := Lib.hid (writeString_any (s.extract a k) (by simp only [ByteArray.size_extract]; omega) w1.drew bw bb n P hn (⟨A1.out.lw.head, A1.out.lw.buf, A1.out.lw.le, A1.out.lw.ne⟩ : LW w1.drew bw bb n P) A1.out.lt)
                go_wp2_with fail
                refine wp_region_still_tail 10 (by kernel_rfl) (by kernel_rfl) ?_
                change wpStill _ _ w1.drew _ _ _
                simp only [List.take_succ_cons, List.take_zero, List.drop_succ_cons, List.drop_zero]
                repeat still_step
                try refine wpStill_nil ?_
                change wpList _ _ _ _ _ w1.drew
                go_wp2_with fail
                refine HX1.out.mono ?_
                rintro e wp ⟨hO1, ⟨z1, rfl, z3⟩ | ⟨z1, ⟨u, pv, rfl⟩, z3⟩⟩
                case inr => exact full_exit ⟨rfl, wrote_full (A1.out.only.drew.trans hO1) mid'.pre z1 u pv z3⟩
                have A2 := Lib.hid (A1.out.nextD hO1 z3 z1 hbe hne)
                have r2 := A2.out.cell0
                clear HX1 A1 r1 hO1 z1 z3
                have HX2 := Lib.hid (writeString_any ⟨#[92, 117, 102, 102, 102, 100]⟩ (by decide) wp bw bb n (P ++ (s.extract a k).data.toList) hn A2.out.lw A2.out.lt)
                go_wp2_with fail
                refine HX2.out.mono ?_
                rintro e w5 ⟨hO2, ⟨z1, rfl, z3⟩ | ⟨z1, ⟨u, pv, rfl⟩, z3⟩⟩
                case inr => exact full_exit ⟨rfl, wrote_full (A2.out.only.trans hO2) (by have h := mid'.preEsc hk' ([92, 117, 102, 102, 102, 100]) ([92, 117, 102, 102, 102, 100]) ([]) hst (by simp); simpa only [List.append_assoc] using h) z1 u pv z3⟩
                have A3 := Lib.hid (A2.out.next hO2 z3 z1 hbe hne)
                have r3 := A3.out.cell0
                clear HX2 A2 r2 hO2 z1 z3
                have mid2 := mid'.esc hk' ([92, 117, 102, 102, 102, 100]) hst
                go_wp2_with fail
                go_roundw
                case rel => exact ⟨k + 1, k + 1, ((P ++ (s.extract a k).data.toList) ++ [92, 117, 102, 102, 102, 100]), by go_num, by go_num, (by simpa only [List.append_assoc, List.cons_append, List.nil_append] using mid2), A3⟩
                case measure => simp [RowKit.intOf]; omega
            · as_aux_lemma =>
                obtain rfl : a = k := by omega
                have HX1 := Lib.hid (writeString_any ⟨#[92, 117, 102, 102, 102, 100]⟩ (by decide) w1 bw bb n P hn A1.out.lw A1.out.lt)
                go_wp2_with fail
                refine HX1.out.mono ?_
                rintro e w5 ⟨hO1, ⟨z1, rfl, z3⟩ | ⟨z1, ⟨u, pv, rfl⟩, z3⟩⟩
                case inr => exact full_exit ⟨rfl, wrote_full (A1.out.only.trans hO1) (by have h := mid.preEsc hk' ([92, 117, 102, 102, 102, 100]) ([92, 117, 102, 102, 102, 100]) ([]) hst (by simp); simpa only [List.append_assoc] using h) z1 u pv z3⟩
                have A2 := Lib.hid (A1.out.next hO1 z3 z1 hbe hne)
                have r2 := A2.out.cell0
                clear HX1 A1 r1 hO1 z1 z3
                have mid2 := mid.esc hk' ([92, 117, 102, 102, 102, 100]) hst
                go_wp2_with fail
                go_roundw
                case rel => exact ⟨a + 1, a + 1, (P ++ [92, 117, 102, 102, 102, 100]), by go_num, by go_num, (by simpa only [List.append_assoc, List.cons_append, List.nil_append] using mid2), A2⟩
                case measure => simp [RowKit.intOf]; omega
          · have hst := step_rune s.data.toList k s[k] (hkb hk) hasc (by rw [hc, hm]; exact hbad)
            rw [hm] at hst
            have mid2 := mid.pass hk' m (by omega) hst
            clear hc hm
            by_cases hc0 : c = 65533
            · have q7 : ¬ (m : Int) = 1 := by omega
              subst hc0
              as_aux_lemma =>
                go_wp2_with fail
                go_roundw
                case rel => exact ⟨k + m, a, P, by go_num, rfl, mid2, A1⟩
                case measure => simp [RowKit.intOf]; omega
            · have q6 : ¬ (c : Int) = 65533 := by omega
              as_aux_lemma =>
                go_wp2_with fail
                go_roundw
                case rel => exact ⟨k + m, a, P, by go_num, rfl, mid2, A1⟩
                case measure => simp [RowKit.intOf]; omega
      · obtain rfl : k = s.size := by omega
        have stop := Mid.stop (by rw [hsl]; exact mid)
        by_cases hpe : a < s.size
        · as_aux_lemma =>
            have hpi : (a : Int) < (s.size : Int) := by omega
            have hsl9 := slice_tail s a (by omega)
            rw [← tail_eq s a] at stop
            have HX0 := Lib.hid (writeString_any (s.extract a s.size) (by simp only [ByteArray.size_extract]; omega) wr.drew bw bb n P hn (⟨A0.out.lw.head, A0.out.lw.buf, A0.out.lw.le, A0.out.lw.ne⟩ : LW wr.drew bw bb n P) A0.out.lt)
            go_wp2_with fail
            refine wp_region_still_tail 9 (by kernel_rfl) (by kernel_rfl) ?_
            change wpStill _ _ wr.drew _ _ _
            simp only [List.take_succ_cons, List.take_zero, List.drop_succ_cons, List.drop_zero]
            repeat still_step
            try refine wpStill_nil ?_
            change wpList _ _ _ _ _ wr.drew
            go_wp2_with fail
            refine HX0.out.mono ?_
            rintro e wp ⟨hO0, ⟨z1, rfl, z3⟩ | ⟨z1, ⟨u, pv, rfl⟩, z3⟩⟩
            case inr => exact full_exit ⟨rfl, wrote_full (A0.out.only.drew.trans hO0) ⟨[34], by rw [stop]⟩ z1 u pv z3⟩
            have A1 := Lib.hid (A0.out.nextD hO0 z3 z1 hbe hne)
            have r1 := A1.out.cell0
            clear HX0 A0 r0 hO0 z1 z3
            have HX1 := Lib.hid (writeByte_any (34) wp bw bb n (P ++ (s.extract a s.size).data.toList) hn A1.out.lw A1.out.lt)
            go_wp2_with fail
            refine HX1.out.mono ?_
            rintro e wq ⟨hO1, ⟨z1, rfl, z3⟩ | ⟨z1, ⟨u, pv, rfl⟩, z3⟩⟩
            case inr => exact full_exit ⟨rfl, wrote_full (A1.out.only.trans hO1) ⟨[], by rw [List.append_nil, stop]⟩ z1 u pv z3⟩
            have A2 := Lib.hid (A1.out.next hO1 z3 z1 hbe hne)
            have r2 := A2.out.cell0
            clear HX1 A1 r1 hO1 z1 z3
            go_wp2_with fail
            go_end0
            rw [← stop]
            exact ⟨A2.out.only, Or.inl ⟨A2.out.lt, rfl, A2.out.lw⟩⟩
        · as_aux_lemma =>
            obtain rfl : a = s.size := by omega
            rw [List.drop_of_length_le (by omega), List.append_nil] at stop
            have HX0 := Lib.hid (writeByte_any (34) wr bw bb n P hn A0.out.lw A0.out.lt)
            go_wp2_with fail
            refine HX0.out.mono ?_
            rintro e wq ⟨hO0, ⟨z1, rfl, z3⟩ | ⟨z1, ⟨u, pv, rfl⟩, z3⟩⟩
            case inr => exact full_exit ⟨rfl, wrote_full (A0.out.only.trans hO0) ⟨[], by rw [List.append_nil, stop]⟩ z1 u pv z3⟩
            have A1 := Lib.hid (A0.out.next hO0 z3 z1 hbe hne)
            have r1 := A1.out.cell0
            clear HX0 A0 r0 hO0 z1 z3
            go_wp2_with fail
            go_end0
            rw [← stop]
            exact ⟨A1.out.only, Or.inl ⟨A1.out.lt, rfl, A1.out.lw⟩⟩
  · exact ⟨rfl, wrote_full hO ⟨escL s.data.toList ++ [34], by simp⟩ h1 u pv h3⟩
end Go.Proofs.YtcajagjgbalakaaGreatFmt
