/-
  funcOpAdd at two arrays of strings, and at an array and null, walked.
-/
import Derived.Test.YtffiamchcadloaaGreatDoorAry
namespace Go.Proofs.YtffiamchcadloaaGreatDoor
set_option linter.unusedVariables false
set_option linter.unusedSimpArgs false
open Go.RowKit Go.Lib

theorem any_size : (Tryz.prog.info? 20).map (·.size) = some 1 := by kernel_rfl
theorem anyStrs_one (l : List ByteArray) : ∀ u ∈ anyStrs l, u.oneCell' = true := by
  intro u hu
  simp only [anyStrs, List.mem_map] at hu
  obtain ⟨b, _, rfl⟩ := hu
  rfl
theorem anyStrs_app (ls rs : List ByteArray) : anyStrs (ls ++ rs) = anyStrs ls ++ anyStrs rs := by simp [anyStrs]
theorem splice_two (z : Value) (xs ys : List Value) (n m : Nat) (hn : xs.length = n) (hm : ys.length = m) : splice (splice (List.replicate (n + m) z) 0 xs) n ys = xs ++ ys := by
  subst hn hm
  unfold splice
  simp
set_option maxRecDepth 100000 in
set_option maxHeartbeats 1600000 in
theorem addArr_any (gl gr n m : Nat) (ls rs : List ByteArray) (hl : ls.length = n) (hr : rs.length = m) (hn : n ≤ 4096) (hm : m ≤ 4096) (w : World) (hL : Row w gl 20 (anyStrs ls)) (hR : Row w gr 20 (anyStrs rs)) :
    Calls Tryz.prog 36 #[.slice (some ⟨gl, 0, none⟩) n n, .slice (some ⟨gr, 0, none⟩) m m] w fun e w' => (∃ G c, e = .returned (.iface 47 (.slice (some ⟨G, 0, none⟩) (n + m) c)) ∧ Row w' G 20 (anyStrs (ls ++ rs))) ∧ Below w.heap.size w w' := by
  by_cases h0 : n = 0
  · subst h0
    have hls : ls = [] := List.eq_nil_of_length_eq_zero hl
    subst hls
    have HR := Lib.hid hR
    clear hL hR hl hr
    rw [Nat.zero_add]
    go_enter Tryz.func36, Tryz.ntmps36
    go_wp2_with fail
    go_ret
    exact ⟨⟨_, _, rfl, HR.out⟩, Below.refl _ _⟩
  by_cases h1 : m = 0
  · subst h1
    have hrs : rs = [] := List.eq_nil_of_length_eq_zero hr
    subst hrs
    have HL := Lib.hid hL
    have hq : ((n : Int) == 0) = false := by rw [beq_eq_false_iff_ne]; omega
    clear hL hR hl hr
    rw [Nat.add_zero, List.append_nil]
    go_enter Tryz.func36, Tryz.ntmps36
    go_wp2_with fail
    go_ret
    exact ⟨⟨_, _, rfl, HL.out⟩, Below.refl _ _⟩
  have hq : ((n : Int) == 0) = false := by rw [beq_eq_false_iff_ne]; omega
  have hq2 : ((m : Int) == 0) = false := by rw [beq_eq_false_iff_ne]; omega
  have hbL := hL.lt
  have hbR := hR.lt
  have mk := mk_any (n + m) (by omega)
  simp only [Int.natCast_add] at mk
  have hB0 : Below w.heap.size w (w.alloc (.cells (Array.replicate (n + m) .nilIface) 20)) := by go_grown
  have hG := Row.alloc w 20 (List.replicate (n + m) .nilIface)
  rw [List.toArray_replicate] at hG
  have hS1 := (hL.on hB0).slice n
  rw [anyStrs_len, hl] at hS1
  generalize hw0 : w.alloc (.cells (Array.replicate (n + m) .nilIface) 20) = w0 at *
  obtain ⟨w1, run1, hG1, hO1⟩ := copy_run (P := Tryz.prog) 47 47 3 20 Tryz.underlying47 any_size w.heap.size 0 (n + m) (n + m) n n (some ⟨gl, 0, none⟩) (anyStrs ls) (List.replicate (n + m) .nilIface) 20 (by rw [anyStrs_len, hl]) (by omega) (by rw [List.length_replicate]; omega) (anyStrs_one ls) w0 hG hS1
  have hB1 : Below w.heap.size w w1 := hB0.trans (hO1.below hB0.size (fun k hk => Nat.le_of_eq hk.symm))
  have hS2 := (hR.on hB1).slice m
  rw [anyStrs_len, hr] at hS2
  obtain ⟨w2, run2, hG2, hO2⟩ := copy_run (P := Tryz.prog) 47 47 3 20 Tryz.underlying47 any_size w.heap.size n m m m m (some ⟨gr, 0, none⟩) (anyStrs rs) (splice (List.replicate (n + m) .nilIface) 0 (anyStrs ls)) 20 (by rw [anyStrs_len, hr]) (Nat.le_refl _) (by rw [length_splice _ _ _ (by rw [List.length_replicate, anyStrs_len]; omega), List.length_replicate]; omega) (anyStrs_one rs) w1 hG1 hS2
  have hB2 : Below w.heap.size w w2 := hB1.trans (hO2.below hB1.size (fun k hk => Nat.le_of_eq hk.symm))
  rw [splice_two _ _ _ n m (by rw [anyStrs_len, hl]) (by rw [anyStrs_len, hr]), ← anyStrs_app] at hG2
  have HG2 := Lib.hid hG2
  have HB2 := Lib.hid hB2
  clear hG1 hG2 hB2 hB1 hO1 hO2 hS1 hS2 hB0 hG hL hR hl hr
  go_enter Tryz.func36, Tryz.ntmps36
  go_wp2_with fail
  go_ret
  exact ⟨⟨_, _, rfl, HG2.out⟩, HB2.out⟩
set_option maxRecDepth 100000 in
set_option maxHeartbeats 1600000 in
theorem opAdd_arr (gl gr n m : Nat) (ls rs : List ByteArray) (hl : ls.length = n) (hr : rs.length = m) (hn : n ≤ 4096) (hm : m ≤ 4096) (w : World) (hL : Row w gl 20 (anyStrs ls)) (hR : Row w gr 20 (anyStrs rs)) :
    Calls Tryz.prog 22 #[.nilIface, .iface 47 (.slice (some ⟨gl, 0, none⟩) n n), .iface 47 (.slice (some ⟨gr, 0, none⟩) m m)] w fun e w' => (∃ G c, e = .returned (.iface 47 (.slice (some ⟨G, 0, none⟩) (n + m) c)) ∧ Row w' G 20 (anyStrs (ls ++ rs))) ∧ Below w.heap.size w w' := by
  have HC := Lib.hid (fun (wx : World) (hb : Below w.heap.size w wx) => addArr_any gl gr n m ls rs hl hr hn hm wx (hL.on hb) (hR.on hb))
  clear hL hR hl hr hn hm
  have as1 := asArrNum
  have as2 := asArrInt
  have as3 := asArrFloat
  have as4 := asArrBig
  have as5 := asArrStr
  have as6 := asArrArr
  go_enter Tryz.func22, Tryz.ntmps22
  go_wp2_with (first
    | (go_at_call 36; refine (HC.out _ (by go_grown)).mono ?_; rintro e w1 ⟨⟨G, c, rfl, hG⟩, hb1⟩)
    | go_in)
  go_ret
  exact ⟨⟨_, _, rfl, hG⟩, by first | exact hb1 | exact below_of hb1 (by simp)⟩
set_option maxRecDepth 100000 in
set_option maxHeartbeats 1600000 in
theorem opAdd_nilL (v : Value) (w : World) :
    Calls Tryz.prog 22 #[.nilIface, .nilIface, .iface 47 v] w fun e w' => e = .returned (.iface 47 v) ∧ Below w.heap.size w w' := by
  have as1 := asArrNum
  have as2 := asNilNum
  have as3 := asNilInt
  have as4 := asNilFloat
  have as5 := asNilBig
  have as6 := asNilStr
  have as7 := asNilArr
  have as8 := asNilMap
  go_enter Tryz.func22, Tryz.ntmps22
  go_wp2
  go_ret
  exact ⟨rfl, by go_grown⟩
set_option maxRecDepth 100000 in
set_option maxHeartbeats 1600000 in
theorem opAdd_nilR (v : Value) (w : World) :
    Calls Tryz.prog 22 #[.nilIface, .iface 47 v, .nilIface] w fun e w' => e = .returned (.iface 47 v) ∧ Below w.heap.size w w' := by
  have as1 := asArrNum
  have as2 := asArrInt
  have as3 := asArrFloat
  have as4 := asArrBig
  have as5 := asArrStr
  have as6 := asArrArr
  have as7 := asNilNum
  have as8 := asNilArr
  go_enter Tryz.func22, Tryz.ntmps22
  go_wp2
  go_ret
  exact ⟨rfl, by go_grown⟩
set_option maxRecDepth 100000 in
set_option maxHeartbeats 1600000 in
theorem zzadd_any (v1 v2 : Value) (ls rs : List ByteArray) (n m : Nat) (hl : ls.length = n) (hr : rs.length = m) (hn : n ≤ 4096) (hm : m ≤ 4096) (w : World) (h1 : SliceOf w v1 (isStrs ls)) (h2 : SliceOf w v2 (isStrs rs)) :
    Calls Tryz.prog 17 #[v1, v2] w fun e w' => (∃ R, e = .returned (.tuple #[.bool true, .slice (some ⟨R, 0, none⟩) (n + m) (n + m)]) ∧ Row w' R 9 (isStrs (ls ++ rs))) ∧ Below w.heap.size w w' := by
  have HL := Lib.hid (anystrs_any v1 ls n hl (by omega) w h1)
  have HR := Lib.hid (fun (wx : World) (hb : Below w.heap.size w wx) => anystrs_any v2 rs m hr (by omega) wx (h2.on hb))
  have HA := Lib.hid (fun gl gr w a b => opAdd_arr gl gr n m ls rs hl hr hn hm w a b)
  have HS := Lib.hid (fun G c w a => strsof_any (ls ++ rs) (n + m) G c (by rw [List.length_append, hl, hr]) (by omega) w a)
  clear hl hr hn hm h1 h2
  go_enter Tryz.func17, Tryz.ntmps17
  go_wp2_with fail
  refine HL.out.mono ?_
  rintro e w1 ⟨⟨g1, rfl, hr1⟩, hb1⟩
  have HB1 := Lib.hid hb1
  have HR1 := Lib.hid hr1
  clear hb1 hr1 HL
  go_wp2_with fail
  refine (HR.out _ HB1.out).mono ?_
  rintro e w2 ⟨⟨g2, rfl, hr2⟩, hb2⟩
  have HB2 := Lib.hid (HB1.out.trans (below_of hb2 HB1.out.size))
  have HR12 := Lib.hid (HR1.out.on hb2)
  have HR2 := Lib.hid hr2
  clear hb2 hr2 HR
  go_wp2_with fail
  refine (HA.out _ _ _ HR12.out HR2.out).mono ?_
  rintro e w3 ⟨⟨g3, c3, rfl, hr3⟩, hb3⟩
  have HB3 := Lib.hid (HB2.out.trans (below_of hb3 HB2.out.size))
  have HR3 := Lib.hid hr3
  clear hb3 hr3 HA
  go_wp2_with fail
  refine (HS.out _ _ _ HR3.out).mono ?_
  rintro e w4 ⟨⟨g4, rfl, hr4⟩, hb4⟩
  have HB4 := Lib.hid (HB3.out.trans (below_of hb4 HB3.out.size))
  have HR4 := Lib.hid hr4
  clear hb4 hr4
  go_wp2_with fail
  go_ret2
  exact ⟨⟨_, rfl, HR4.out⟩, HB4.out⟩
set_option maxRecDepth 100000 in
set_option maxHeartbeats 1600000 in
theorem zznullL (v1 : Value) (ls : List ByteArray) (n : Nat) (hl : ls.length = n) (hn : n ≤ 4096) (w : World) (h1 : SliceOf w v1 (isStrs ls)) :
    Calls Tryz.prog 18 #[v1] w fun e w' => (∃ R, e = .returned (.tuple #[.bool true, .slice (some ⟨R, 0, none⟩) n n]) ∧ Row w' R 9 (isStrs ls)) ∧ Below w.heap.size w w' := by
  have HL := Lib.hid (anystrs_any v1 ls n hl (by omega) w h1)
  have HA := Lib.hid (fun v w => opAdd_nilL v w)
  have HS := Lib.hid (fun G c w a => strsof_any ls n G c hl (by omega) w a)
  clear hl hn h1
  go_enter Tryz.func18, Tryz.ntmps18
  go_wp2_with fail
  refine HL.out.mono ?_
  rintro e w1 ⟨⟨g1, rfl, hr1⟩, hb1⟩
  have HB1 := Lib.hid hb1
  have HR1 := Lib.hid hr1
  clear hb1 hr1 HL
  go_wp2_with fail
  refine (HA.out _ _).mono ?_
  rintro e w3 ⟨rfl, hb3⟩
  have HB3 := Lib.hid (HB1.out.trans (below_of hb3 HB1.out.size))
  have HR3 := Lib.hid (HR1.out.on hb3)
  clear hb3 HA
  go_wp2_with fail
  refine (HS.out _ _ _ HR3.out).mono ?_
  rintro e w4 ⟨⟨g4, rfl, hr4⟩, hb4⟩
  have HB4 := Lib.hid (HB3.out.trans (below_of hb4 HB3.out.size))
  have HR4 := Lib.hid hr4
  clear hb4 hr4
  go_wp2_with fail
  go_ret2
  exact ⟨⟨_, rfl, HR4.out⟩, HB4.out⟩
set_option maxRecDepth 100000 in
set_option maxHeartbeats 1600000 in
theorem zznullR (v1 : Value) (ls : List ByteArray) (n : Nat) (hl : ls.length = n) (hn : n ≤ 4096) (w : World) (h1 : SliceOf w v1 (isStrs ls)) :
    Calls Tryz.prog 19 #[v1] w fun e w' => (∃ R, e = .returned (.tuple #[.bool true, .slice (some ⟨R, 0, none⟩) n n]) ∧ Row w' R 9 (isStrs ls)) ∧ Below w.heap.size w w' := by
  have HL := Lib.hid (anystrs_any v1 ls n hl (by omega) w h1)
  have HA := Lib.hid (fun v w => opAdd_nilR v w)
  have HS := Lib.hid (fun G c w a => strsof_any ls n G c hl (by omega) w a)
  clear hl hn h1
  go_enter Tryz.func19, Tryz.ntmps19
  go_wp2_with fail
  refine HL.out.mono ?_
  rintro e w1 ⟨⟨g1, rfl, hr1⟩, hb1⟩
  have HB1 := Lib.hid hb1
  have HR1 := Lib.hid hr1
  clear hb1 hr1 HL
  go_wp2_with fail
  refine (HA.out _ _).mono ?_
  rintro e w3 ⟨rfl, hb3⟩
  have HB3 := Lib.hid (HB1.out.trans (below_of hb3 HB1.out.size))
  have HR3 := Lib.hid (HR1.out.on hb3)
  clear hb3 HA
  go_wp2_with fail
  refine (HS.out _ _ _ HR3.out).mono ?_
  rintro e w4 ⟨⟨g4, rfl, hr4⟩, hb4⟩
  have HB4 := Lib.hid (HB3.out.trans (below_of hb4 HB3.out.size))
  have HR4 := Lib.hid hr4
  clear hb4 hr4
  go_wp2_with fail
  go_ret2
  exact ⟨⟨_, rfl, HR4.out⟩, HB4.out⟩
end Go.Proofs.YtffiamchcadloaaGreatDoor
