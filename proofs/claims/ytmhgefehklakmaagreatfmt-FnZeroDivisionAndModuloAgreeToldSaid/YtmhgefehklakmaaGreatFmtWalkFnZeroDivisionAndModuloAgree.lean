/-
  The walk of the law FnZeroDivisionAndModuloAgree.
-/
import Derived.Test.YtmhgefehklakmaaGreatFmtWalkFnZeroDivisionErrorIntsText
import Derived.Test.YtmhgefehklakmaaGreatFmtWalkFnZeroModuloErrorIntsText
namespace Go.Proofs.YtmhgefehklakmaaGreatFmt
set_option linter.unusedVariables false
set_option linter.unusedSimpArgs false
open Go.RowKit Go.Lib Go.Sort

set_option maxRecDepth 100000 in
set_option maxHeartbeats 1600000 in
theorem zz_divnulls   (w : World) (hT : Tabs w) :
    Calls Tryz.prog 18 #[] w (Says w (txtZeroDiv [110, 117, 108, 108] [110, 117, 108, 108])) := by
  have hb : Below w.heap.size w (w.alloc (.cells #[.nilIface, .nilIface] 40)) := by go_grown
  have hl : w.heap.size < (w.alloc (.cells #[.nilIface, .nilIface] 40)).heap.size := by show w.heap.size < (w.heap.push _).size; simp
  have HP := Lib.hid (errZeroDiv (.nilIface) [110, 117, 108, 108] (.nilIface) [110, 117, 108, 108]  (by decide) (by decide)
    (fun w _ => tep_nil w) (fun w _ => tep_nil w)
    (w.alloc (.cells #[.nilIface, .nilIface] 40)) (hT.on hb) w.heap.size hl (by go_simp) (by go_simp))
  have HB := Lib.hid hb
  clear hb hl hT
  go_enter Tryz.func18, Tryz.ntmps18
  go_wp2_with fail
  refine HP.out.mono ?_
  rintro e w1 ⟨rfl, hb1⟩
  have hb2 := HB.out.trans (below_of hb1 HB.out.size)
  go_wp2_with fail
  go_ret
  exact ⟨rfl, hb2⟩

set_option maxRecDepth 100000 in
set_option maxHeartbeats 1600000 in
theorem zz_modnulls   (w : World) (hT : Tabs w) :
    Calls Tryz.prog 19 #[] w (Says w (txtZeroMod [110, 117, 108, 108] [110, 117, 108, 108])) := by
  have hb : Below w.heap.size w (w.alloc (.cells #[.nilIface, .nilIface] 35)) := by go_grown
  have hl : w.heap.size < (w.alloc (.cells #[.nilIface, .nilIface] 35)).heap.size := by show w.heap.size < (w.heap.push _).size; simp
  have HP := Lib.hid (errZeroMod (.nilIface) [110, 117, 108, 108] (.nilIface) [110, 117, 108, 108]  (by decide) (by decide)
    (fun w _ => tep_nil w) (fun w _ => tep_nil w)
    (w.alloc (.cells #[.nilIface, .nilIface] 35)) (hT.on hb) w.heap.size hl (by go_simp) (by go_simp))
  have HB := Lib.hid hb
  clear hb hl hT
  go_enter Tryz.func19, Tryz.ntmps19
  go_wp2_with fail
  refine HP.out.mono ?_
  rintro e w1 ⟨rfl, hb1⟩
  have hb2 := HB.out.trans (below_of hb1 HB.out.size)
  go_wp2_with fail
  go_ret
  exact ⟨rfl, hb2⟩

theorem ba_get (L : List UInt8) (k : Nat) (h : k < L.length) (h' : k < (⟨L.toArray⟩ : ByteArray).size) : (⟨L.toArray⟩ : ByteArray)[k] = L[k] := by
  show (L.toArray)[k] = L[k]
  simp
set_option maxRecDepth 100000 in
set_option maxHeartbeats 1600000 in
theorem hasPrefix13 (pre t : List UInt8) (hp36 : pre.length ≤ 100) (w : World) :
    Calls Tryz.prog 17 #[.string ⟨(pre ++ t).toArray⟩, .string ⟨pre.toArray⟩] w fun e w' => e = .returned (.bool true) ∧ Below w.heap.size w w' := by
  obtain ⟨s, hs⟩ : ∃ s : ByteArray, s = ⟨(pre ++ t).toArray⟩ := ⟨_, rfl⟩
  obtain ⟨p, hp⟩ : ∃ p : ByteArray, p = ⟨pre.toArray⟩ := ⟨_, rfl⟩
  rw [← hs, ← hp]
  have hle : p.size ≤ s.size := by rw [hs, hp]; simp [ByteArray.size]
  have hps : p.size ≤ 100 := by rw [hp]; simpa [ByteArray.size] using hp36
  have hat : ∀ (k : Nat) (h1 : k < p.size) (h2 : k < s.size), s[k] = p[k] := by
    subst hs hp
    intro k h1 h2
    have hk : k < pre.length := h1
    rw [ba_get _ k (by simp; omega), ba_get _ k hk, List.getElem_append_left hk]
  have hz : ¬ (s.size : Int) < (p.size : Int) := by omega
  clear hs hp
  go_enter Tryz.func17, Tryz.ntmps17
  go_wp2_with fail
  go_loopw [5] (fun vi wr => ∃ k : Nat, vi = .int .i64 (k : Int) ∧ k ≤ p.size ∧ Below w.heap.size w wr) (fun vi _ => p.size - (RowKit.intOf vi).toNat)
  case atStart => exact ⟨0, rfl, by omega, Below.refl _ _⟩
  case round =>
    obtain ⟨k, rfl, hk, hb⟩ := hrel
    by_cases hkp : k < p.size
    · have e := hat k hkp (by omega)
      have q1 : (k : Int) < (s.size : Int) := by omega
      have q2 : (k : Int) < (p.size : Int) := by omega
      have HA := Lib.hid hat
      clear hat
      go_wp2_with fail
      go_region
      go_wp2_with fail
      go_roundw
      case rel => exact ⟨k + 1, by go_num, by omega, hb.drew⟩
      case measure => simp [RowKit.intOf]; omega
    · obtain rfl : k = p.size := by omega
      go_wp2_with fail
      go_ret
      exact ⟨rfl, hb⟩

theorem below_from {f : FuncId} {args : Array Value} {v : Value} {W : World} (h : ∀ w, Calls Tryz.prog f args w fun e w' => e = .returned v ∧ Below w.heap.size w w') :
    ∀ w, Below W.heap.size W w → Calls Tryz.prog f args w fun e w' => e = .returned v ∧ Below W.heap.size W w' := fun w hb =>
  (h w).mono fun e w' ⟨he, hb'⟩ => ⟨he, hb.trans (below_of hb' hb.size)⟩

def divPre : List UInt8 := [99, 97, 110, 110, 111, 116, 32, 100, 105, 118, 105, 100, 101, 32]
def modPre : List UInt8 := [99, 97, 110, 110, 111, 116, 32, 109, 111, 100, 117, 108, 111, 32]
def restOf (l r : Int) : List UInt8 := tepInt l ++ ([32, 98, 121, 58, 32] ++ tepInt r)
theorem div_split (l r : Int) : txtZeroDiv (tepInt l) (tepInt r) = divPre ++ restOf l r := rfl
theorem mod_split (l r : Int) : txtZeroMod (tepInt l) (tepInt r) = modPre ++ restOf l r := rfl
theorem cut14 (pre t : List UInt8) (h : pre.length = 14) (wx : World) : (Instr.slice 9 (.string ⟨(pre ++ t).toArray⟩) (some (.int .i64 14)) none none).run Tryz.prog wx = .ok (.string ⟨t.toArray⟩) wx := by
  have hsz : (⟨(pre ++ t).toArray⟩ : ByteArray).size = 14 + t.length := by simp [ByteArray.size, h]
  rw [run_slice_string_l (P := Tryz.prog) wx 9 ⟨(pre ++ t).toArray⟩ Tryz.underlying9 .i64 14 (by omega) (by rw [hsz]; omega)]
  congr 2
  apply ByteArray.ext
  apply Array.toList_inj.1
  rw [Lib.extract_data, hsz, List.take_of_length_le (by simp; omega)]
  show (pre ++ t).drop 14 = t
  rw [← h, List.drop_left]

set_option maxRecDepth 100000 in
set_option maxHeartbeats 1600000 in
theorem walk_FnZeroDivisionAndModuloAgree (l r : Int) (W : World) (wl : (Lit.int .i64 l).wf = true) (wr : (Lit.int .i64 r).wf = true) (hD : Tabs W) :
    Calls Tryz.prog 7 #[.int .i64 l, .int .i64 r] W fun e w' => e = .returned (.bool true) ∧ Below W.heap.size W w' := by
  have bl := bounds_int wl
  have br := bounds_int wr
  have H1 := says_from (zz_FnZeroDivisionErrorIntsText l r bl.1 bl.2 br.1 br.2) hD
  have H2 := says_from (zz_FnZeroModuloErrorIntsText l r bl.1 bl.2 br.1 br.2) hD
  rw [div_split] at H1
  rw [mod_split] at H2
  have H1 := Lib.hid H1
  have H2 := Lib.hid H2
  have H3 := Lib.hid (below_from (W := W) (hasPrefix13 divPre (restOf l r) (by decide)))
  have H4 := Lib.hid (below_from (W := W) (hasPrefix13 modPre (restOf l r) (by decide)))
  have H5 := Lib.hid (says_from zz_divnulls hD)
  have H6 := Lib.hid (says_from zz_modnulls hD)
  have s1 := cut14 divPre (restOf l r) rfl
  have s2 := cut14 modPre (restOf l r) rfl
  have hE5 : ((txtZeroDiv [110, 117, 108, 108] [110, 117, 108, 108]) == (⟨#[99, 97, 110, 110, 111, 116, 32, 100, 105, 118, 105, 100, 101, 32, 110, 117, 108, 108, 32, 98, 121, 58, 32, 110, 117, 108, 108]⟩ : ByteArray).toList) = true := eq_text rfl
  have hN5 : ((txtZeroDiv [110, 117, 108, 108] [110, 117, 108, 108]) != (⟨#[99, 97, 110, 110, 111, 116, 32, 100, 105, 118, 105, 100, 101, 32, 110, 117, 108, 108, 32, 98, 121, 58, 32, 110, 117, 108, 108]⟩ : ByteArray).toList) = false := by rw [bne, hE5]; rfl
  have hE6 : ((txtZeroMod [110, 117, 108, 108] [110, 117, 108, 108]) == (⟨#[99, 97, 110, 110, 111, 116, 32, 109, 111, 100, 117, 108, 111, 32, 110, 117, 108, 108, 32, 98, 121, 58, 32, 110, 117, 108, 108]⟩ : ByteArray).toList) = true := eq_text rfl
  clear hD
  go_enter Tryz.func7, Tryz.ntmps7
  go_wp2_with fail
  refine (H1.out _ (Below.refl _ _)).mono ?_
  rintro e w1 ⟨rfl, hb1⟩
  go_wp2_with fail
  refine (H2.out _ hb1).mono ?_
  rintro e w2 ⟨rfl, hb2⟩
  go_wp2_with fail
  refine (H3.out _ hb2).mono ?_
  rintro e w3 ⟨rfl, hb3⟩
  go_wp2_with fail
  refine (H4.out _ hb3).mono ?_
  rintro e w4 ⟨rfl, hb4⟩
  go_wp2_with fail
  go_region
  go_wp2_with fail
  refine (H5.out _ hb4.drew).mono ?_
  rintro e w5 ⟨rfl, hb5⟩
  go_wp2_with fail
  refine (H6.out _ hb5).mono ?_
  rintro e w6 ⟨rfl, hb6⟩
  go_wp2_with fail
  go_ret
  exact ⟨rfl, hb6⟩
end Go.Proofs.YtmhgefehklakmaaGreatFmt
