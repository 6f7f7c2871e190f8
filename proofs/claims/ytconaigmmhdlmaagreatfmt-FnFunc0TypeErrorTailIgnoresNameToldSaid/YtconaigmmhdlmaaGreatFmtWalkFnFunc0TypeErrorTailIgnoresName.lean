/-
  The walk of the law FnFunc0TypeErrorTailIgnoresName.
-/
import Derived.Test.YtconaigmmhdlmaaGreatFmtFunc0
namespace Go.Proofs.YtconaigmmhdlmaaGreatFmt
set_option linter.unusedVariables false
set_option linter.unusedSimpArgs false
open Go.RowKit Go.Lib Go.Sort

def appT : List UInt8 := [32, 99, 97, 110, 110, 111, 116, 32, 98, 101, 32, 97, 112, 112, 108, 105, 101, 100, 32, 116, 111, 58, 32]
theorem tailOf_le (k : Nat) (n : Int) (b : Bool) (s : ByteArray) (h0 : -9223372036854775808 ≤ n) (h1 : n ≤ 9223372036854775807) : (tailOf k n b s).length ≤ 39 := by
  have q1 := itoa_length_le n h0 h1
  have q2 := previewOf_le (quoted s.data.toList)
  unfold tailOf
  split
  · decide
  · simp only [tepInt, sNumber, List.length_append, List.length_cons, List.length_nil]; omega
  · cases b <;> decide
  · simp only [tepStr, sString, List.length_append, List.length_cons, List.length_nil]; omega
theorem hasPrefix20 (s p : ByteArray) (t : List UInt8) (h : s.data.toList = p.data.toList ++ t) (w : World) :
    Calls Tryz.prog 36 #[.string s, .string p] w fun e w' => e = .returned (.bool true) ∧ Below w.heap.size w w' := by
  have hs : s.data.toList.length = s.size := by rw [Array.length_toList]; rfl
  have hp : p.data.toList.length = p.size := by rw [Array.length_toList]; rfl
  have hle : p.size ≤ s.size := by rw [← hs, ← hp, h, List.length_append]; omega
  have hx : s.extract 0 p.size = p := by
    apply ByteArray.ext
    apply Array.toList_inj.1
    rw [Lib.extract_data, h, ← hp]
    simp
  have hsl : ∀ wx : World, (Instr.slice 9 (.string s) none (some (.int .i64 (p.size : Int))) none).run Tryz.prog wx = .ok (.string p) wx := fun wx => by
    rw [run_slice_string_h (P := Tryz.prog) wx 9 s Tryz.underlying9 .i64 (p.size : Int) (by omega) (by omega), Int.toNat_natCast, hx]
  have hz : ¬ (s.size : Int) < (p.size : Int) := by omega
  have hz2 : (p.size : Int) ≤ (s.size : Int) := by omega
  have hE : (p.toList == p.toList) = true := beq_self_eq_true _
  clear hs hp h hle hx
  go_enter Tryz.func36, Tryz.ntmps36
  go_wp2_with fail
  try (go_region; go_wp2_with fail)
  go_ret
  exact ⟨rfl, by go_grown⟩
theorem cut20 (s p t : ByteArray) (h : s.data.toList = p.data.toList ++ t.data.toList) (wx : World) : (Instr.slice 9 (.string s) (some (.int .i64 (p.size : Int))) none none).run Tryz.prog wx = .ok (.string t) wx := by
  have hs : s.data.toList.length = s.size := by rw [Array.length_toList]; rfl
  have hp : p.data.toList.length = p.size := by rw [Array.length_toList]; rfl
  have hle : p.size ≤ s.size := by rw [← hs, ← hp, h, List.length_append]; omega
  rw [run_slice_string_l (P := Tryz.prog) wx 9 s Tryz.underlying9 .i64 (p.size : Int) (by omega) (by omega), Int.toNat_natCast]
  congr 2
  apply ByteArray.ext
  apply Array.toList_inj.1
  rw [Lib.extract_data, ← hs, List.take_of_length_le (by rw [List.length_drop]; omega), h, ← hp, List.drop_left]
set_option maxHeartbeats 1600000 in
theorem bytes_FnFunc0TypeErrorTailIgnoresName (name1 name2 : ByteArray) (kind n : Int) (b : Bool) (s : ByteArray) (h1 : name1.size ≤ 140737488351232) (h2 : name2.size ≤ 140737488351232) (hs : s.size ≤ 140737488351232) (w : World) :
    Calls Tryz.prog 35 #[.string name1, .string name2, .int .i64 kind, .int .i64 n, .bool b, .string s] w fun e w' => (∃ b, e = .returned (.bool b)) ∧ Below w.heap.size w w' := by
  go_enter Tryz.func35, Tryz.ntmps35
  go_wp2
  repeat (any_goals go_region; any_goals go_wp2)
  all_goals (go_ret; exact ⟨⟨_, rfl⟩, by go_grown⟩)

theorem from20 {f : FuncId} {args : Array Value} {v : Value} {W : World} (h : ∀ w, Calls Tryz.prog f args w fun e w' => e = .returned v ∧ Below w.heap.size w w') :
    ∀ w, Below W.heap.size W w → Calls Tryz.prog f args w fun e w' => e = .returned v ∧ Below W.heap.size W w' := fun w hb =>
  (h w).mono fun e w' ⟨he, hb'⟩ => ⟨he, hb.trans (below_of hb' hb.size)⟩
theorem func0_tail (name : ByteArray) (kind : Int) (k : Nat) (hk : kind = (k : Int)) (hk4 : k < 4) (n : Int) (b : Bool) (s t : ByteArray) (ht : t.data.toList = appT ++ tailOf k n b s) (hname : name.size ≤ 140737488351232) (h0 : -9223372036854775808 ≤ n) (h1 : n ≤ 9223372036854775807) (hs : s.size ≤ 2097152) :
    ∃ g : ByteArray, g.data.toList = name.data.toList ++ t.data.toList ∧ ∀ w, Tabs w → Calls Tryz.prog 34 #[.string name, .int .i64 kind, .int .i64 n, .bool b, .string s] w fun e w' => e = .returned (.tuple #[.string g, .bool true]) ∧ Below w.heap.size w w' := by
  refine ⟨⟨(txtFunc0 name (tailOf k n b s)).toArray⟩, ?_, fun w hT => ?_⟩
  · rw [ht]; rfl
  · rw [hk]; exact func0_any name k hk4 n b s hname h0 h1 hs w hT

set_option maxRecDepth 100000 in
set_option maxHeartbeats 3200000 in
theorem walk_FnFunc0TypeErrorTailIgnoresName (name1 name2 : ByteArray) (kind n : Int) (b : Bool) (s : ByteArray) (W : World) (w1 : name1.size ≤ 140737488351232) (w2 : name2.size ≤ 140737488351232) (wk : (Lit.int .i64 kind).wf = true) (wn : (Lit.int .i64 n).wf = true) (ws : s.size ≤ 140737488351232) (hD : Tabs W) :
    Calls Tryz.prog 8 #[.string name1, .string name2, .int .i64 kind, .int .i64 n, .bool b, .string s] W fun e w' => e = .returned (.bool true) ∧ Below W.heap.size W w' := by
  have HZ := Lib.hid (bytes_FnFunc0TypeErrorTailIgnoresName name1 name2 kind n b s w1 w2 ws W)
  have bn := bounds_int wn
  have HD := Lib.hid hD
  clear hD
  by_cases g1 : kind < 0
  · go_enter Tryz.func8, Tryz.ntmps8
    go_wp2_with fail
    refine HZ.out.mono ?_
    rintro e w0 ⟨⟨bb, rfl⟩, hb0⟩
    cases bb
    · go_wp2_with fail
      go_ret
      exact ⟨rfl, hb0⟩
    go_wp2_with fail
    all_goals (try (go_ret; exact ⟨rfl, hb0⟩))
  by_cases g2 : 3 < kind
  · go_enter Tryz.func8, Tryz.ntmps8
    go_wp2_with fail
    refine HZ.out.mono ?_
    rintro e w0 ⟨⟨bb, rfl⟩, hb0⟩
    cases bb
    · go_wp2_with fail
      go_ret
      exact ⟨rfl, hb0⟩
    go_wp2_with fail
    all_goals (try (go_ret; exact ⟨rfl, hb0⟩))
  by_cases gs : 1048576 < s.size
  · have qs : (1048576 : Int) < (s.size : Int) := by omega
    go_enter Tryz.func8, Tryz.ntmps8
    go_wp2_with fail
    refine HZ.out.mono ?_
    rintro e w0 ⟨⟨bb, rfl⟩, hb0⟩
    cases bb
    · go_wp2_with fail
      go_ret
      exact ⟨rfl, hb0⟩
    go_wp2_with fail
    all_goals (try (go_ret; exact ⟨rfl, hb0⟩))
  have qs : (s.size : Int) ≤ 1048576 := by omega
  obtain ⟨k, hk⟩ : ∃ k : Nat, kind = (k : Int) := ⟨kind.toNat, by omega⟩
  have hk4 : k < 4 := by omega
  obtain ⟨t, ht⟩ : ∃ t : ByteArray, t.data.toList = appT ++ tailOf k n b s := ⟨⟨(appT ++ tailOf k n b s).toArray⟩, rfl⟩
  have htl := tailOf_le k n b s bn.1 bn.2
  have htz : t.size ≤ 62 := by
    have q : t.data.toList.length = t.size := by rw [Array.length_toList]; rfl
    have q2 : appT.length = 23 := rfl
    rw [← q, ht, List.length_append]
    omega
  have htz1 : (t.size : Int) ≤ 62 := by omega
  have htz2 : ¬ (62 : Int) < (t.size : Int) := by omega
  obtain ⟨G1, e1, F1⟩ := func0_tail name1 kind k hk hk4 n b s t ht w1 bn.1 bn.2 (by omega)
  obtain ⟨G2, e2, F2⟩ := func0_tail name2 kind k hk hk4 n b s t ht w2 bn.1 bn.2 (by omega)
  have HF1 := Lib.hid (fun x (hb : Below W.heap.size W x) => F1 x (HD.out.on hb))
  have HF2 := Lib.hid (fun x (hb : Below W.heap.size W x) => F2 x (HD.out.on hb))
  have HP1 := Lib.hid (from20 (W := W) (hasPrefix20 G1 name1 _ e1))
  have HP2 := Lib.hid (from20 (W := W) (hasPrefix20 G2 name2 _ e2))
  have HP3 := Lib.hid (from20 (W := W) (hasPrefix20 t ⟨#[32, 99, 97, 110, 110, 111, 116, 32, 98, 101, 32, 97, 112, 112, 108, 105, 101, 100, 32, 116, 111, 58, 32]⟩ (tailOf k n b s) ht))
  have s1 := cut20 G1 name1 t e1
  have s2 := cut20 G2 name2 t e2
  have hE : (t.toList == t.toList) = true := beq_self_eq_true _
  clear F1 F2 e1 e2 ht htl htz hk hk4
  go_enter Tryz.func8, Tryz.ntmps8
  go_wp2_with fail
  refine HZ.out.mono ?_
  rintro e w0 ⟨⟨bb, rfl⟩, hb0⟩
  cases bb
  · go_wp2_with fail
    go_ret
    exact ⟨rfl, hb0⟩
  go_wp2_with fail
  all_goals (try (go_ret; exact ⟨rfl, hb0⟩))
  refine (HF1.out _ hb0).mono ?_
  rintro e x1 ⟨rfl, hb1'⟩
  have hb1 := hb0.trans (below_of hb1' hb0.size)
  clear hb1'
  go_wp2_with fail
  refine (HF2.out _ hb1).mono ?_
  rintro e x2 ⟨rfl, hb2'⟩
  have hb2 := hb1.trans (below_of hb2' hb1.size)
  clear hb2'
  go_wp2_with fail
  refine (HP1.out _ hb2).mono ?_
  rintro e x3 ⟨rfl, hb3⟩
  go_wp2_with fail
  refine (HP2.out _ hb3).mono ?_
  rintro e x4 ⟨rfl, hb4⟩
  go_wp2_with fail
  try (go_region; go_wp2_with fail)
  refine (HP3.out _ (by first | exact hb4 | exact hb4.drew)).mono ?_
  rintro e x5 ⟨rfl, hb5⟩
  go_wp2_with fail
  go_ret
  exact ⟨rfl, hb5⟩
end Go.Proofs.YtconaigmmhdlmaaGreatFmt
