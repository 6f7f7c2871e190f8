/-
  The laws' own helpers over slices of strings (package n001_19), walked.
-/
import Derived.Test.YtffiamchcadloaaGreatDoorSays
import Derived.Test.YtffiamchcadloaaGreatDoorAid
import Derived.Test.YtffiamchcadloaaGreatDoorMk
import Derived.Test.YtffiamchcadloaaGreatDoorSlc
import Derived.Test.YtffiamchcadloaaGreatDoorCpy
import Derived.Test.YtffiamchcadloaaGreatDoorAs
import Derived.WalkSpells
import Derived.Handy
import Derived.Lib.Hide
import Derived.Deep.DeepCutAuto
namespace Go.Proofs.YtffiamchcadloaaGreatDoor
set_option linter.unusedVariables false
set_option linter.unusedSimpArgs false
open Go.RowKit Go.Lib

theorem slice_form {w : World} {v : Value} {xs : List Value} (h : SliceOf w v xs) : ∃ a c, v = .slice a xs.length c ∧ (0 < xs.length → ∃ b o, a = some ⟨b, o, none⟩ ∧ b < w.heap.size ∧ ∀ j u, xs[j]? = some u → w.cell? ⟨b, o + j, none⟩ = some u) := by
  rcases h with ⟨rfl, a, c, rfl⟩ | ⟨h1, b, o, c, rfl, h2, h3⟩
  · exact ⟨a, c, rfl, fun h => absurd h (by simp)⟩
  · exact ⟨_, c, rfl, fun _ => ⟨b, o, rfl, h2, h3⟩⟩
def isStrs (ss : List ByteArray) : List Value := ss.map Value.string
theorem isStrs_len (ss : List ByteArray) : (isStrs ss).length = ss.length := by simp [isStrs]
theorem isStrs_get (ss : List ByteArray) (k : Nat) (h : k < ss.length) : (isStrs ss)[k]? = some (.string ss[k]) := by simp [isStrs, h]
theorem isStrs_get' (ss : List ByteArray) (k : Nat) (h : k < (isStrs ss).length) : (isStrs ss)[k] = .string (ss[k]'(by simpa [isStrs] using h)) := by simp [isStrs]
def anyStrs (ss : List ByteArray) : List Value := ss.map fun s => .iface 9 (.string s)
theorem anyStrs_len (ss : List ByteArray) : (anyStrs ss).length = ss.length := by simp [anyStrs]
theorem anyStrs_get' (ss : List ByteArray) (k : Nat) (h : k < (anyStrs ss).length) : (anyStrs ss)[k] = .iface 9 (.string (ss[k]'(by simpa [anyStrs] using h))) := by simp [anyStrs]
theorem mk_any (n : Nat) (hn : n ≤ 1048576) (w : World) : (Instr.makeSlice 47 (.int .i64 (n : Int)) (.int .i64 (n : Int))).run Tryz.prog w = .ok (.slice (some ⟨w.heap.size, 0, none⟩) n n) (w.alloc (.cells (Array.replicate n .nilIface) 20)) :=
  run_mk 47 20 .nilIface 16 Tryz.underlying47 (by kernel_rfl) rfl n n (by omega) (by omega) (by omega) w
theorem mk_strs (n : Nat) (hn : n ≤ 1048576) (w : World) : (Instr.makeSlice 33 (.int .i64 (n : Int)) (.int .i64 (n : Int))).run Tryz.prog w = .ok (.slice (some ⟨w.heap.size, 0, none⟩) n n) (w.alloc (.cells (Array.replicate n (.string ByteArray.empty)) 9)) :=
  run_mk 33 9 (.string ByteArray.empty) 16 Tryz.underlying33 (by kernel_rfl) rfl n n (by omega) (by omega) (by omega) w
theorem strs_nil (n c : Nat) (w : World) : (binOp .eql 33 (.slice none n c) (.slice none 0 0)).run Tryz.prog w = .ok (.bool true) w := by kernel_rfl
theorem strs_some (ad : Addr) (n c : Nat) (w : World) : (binOp .eql 33 (.slice (some ad) n c) (.slice none 0 0)).run Tryz.prog w = .ok (.bool false) w := by kernel_rfl
set_option maxRecDepth 100000 in
set_option maxHeartbeats 1600000 in
theorem clone_any (v : Value) (ss : List ByteArray) (n : Nat) (hl : ss.length = n) (hn : n ≤ 1048576) (w : World) (hS : SliceOf w v (isStrs ss)) :
    Calls Tryz.prog 16 #[v] w fun e w' => (∃ a c, e = .returned (.slice a n c) ∧ SliceOf w' (.slice a n c) (isStrs ss)) ∧ Below w.heap.size w w' := by
  obtain ⟨a, c, rfl, hat⟩ := slice_form hS
  rw [isStrs_len, hl] at hat hS ⊢
  rcases a with _ | ad
  · have hn0 : n = 0 := by
      rcases Nat.eq_zero_or_pos n with h | h
      · exact h
      · obtain ⟨b, o, h1, _⟩ := hat h
        cases h1
    subst hn0
    have hss : ss = [] := List.eq_nil_of_length_eq_zero hl
    subst hss
    go_enter Tryz.func16, Tryz.ntmps16
    have he := strs_nil 0 c
    go_wp2_with fail
    go_ret
    exact ⟨⟨none, 0, rfl, Or.inl ⟨rfl, _, _, rfl⟩⟩, Below.refl _ _⟩
  · have mk := mk_strs n hn
    have HA := Lib.hid hat
    have HN := Lib.hid hl
    have he := strs_some ad n c
    clear hat hl hS
    go_enter Tryz.func16, Tryz.ntmps16
    go_wp2_with fail
    have hF0 : Fill (w.alloc (.cells (Array.replicate n (.string ByteArray.empty)) 9)) (w.alloc (.cells (Array.replicate n (.string ByteArray.empty)) 9)) w.heap.size 9 (isStrs ss) (.string ByteArray.empty) 0 := by
      refine Fill.start ?_
      rw [isStrs_len, HN.out]
      have := Row.alloc w 9 (List.replicate n (.string ByteArray.empty))
      rwa [List.toArray_replicate] at this
    have HB0 := Lib.hid (show Below w.heap.size w (w.alloc (.cells (Array.replicate n (.string ByteArray.empty)) 9)) by go_grown)
    have HF0 := Lib.hid hF0
    clear hF0 mk
    generalize hW0 : w.alloc (.cells (Array.replicate n (.string ByteArray.empty)) 9) = W0 at HF0 HB0 ⊢
    clear hW0
    go_loopw [4] (fun vi wr => ∃ k : Nat, vi = .int .i64 (k : Int) ∧ k ≤ n ∧ Hid (Fill W0 wr w.heap.size 9 (isStrs ss) (.string ByteArray.empty) k)) (fun vi _ => n - (RowKit.intOf vi).toNat)
    case atStart => exact ⟨0, rfl, Nat.zero_le _, HF0⟩
    case round =>
      obtain ⟨k, rfl, hk, HF⟩ := hrel
      by_cases hkn : k < n
      · obtain ⟨b, o, hbe, hb, hc⟩ := HA.out (by omega)
        injection hbe with hbe
        subst hbe
        have hkz : k < ss.length := by rw [HN.out]; exact hkn
        have c1 : wr.cell? ⟨b, o + k, none⟩ = some (.string ss[k]) := (HF.out.old (p := ⟨b, o + k, none⟩) (by have := HB0.out.size; show b < _; omega) (by show b ≠ _; omega)).trans ((HB0.out.cell (p := ⟨b, o + k, none⟩) hb).trans (hc k _ (isStrs_get ss k hkz)))
        obtain ⟨y, c2⟩ := HF.out.cell k (by rw [isStrs_len]; exact hkz)
        have f2 := HF.out.free k
        have HS := Lib.hid (HF.out.step (by rw [isStrs_len]; exact hkz) (.string ss[k]) (isStrs_get' ss k _))
        clear hc
        go_wp2_with fail
        go_roundw
        case rel => exact ⟨k + 1, by go_num, by omega, HS⟩
        case measure => simp [RowKit.intOf]; omega
      · obtain rfl : k = n := by omega
        have HR := Lib.hid (HF.out.done (by rw [isStrs_len, HN.out]))
        have HBr := Lib.hid (HF.out.below (Nat.le_refl _) HB0.out)
        clear HF
        go_wp2_with fail
        go_ret
        have h1 := HR.out.slice k
        rw [isStrs_len, HN.out] at h1
        exact ⟨⟨_, _, rfl, h1⟩, HBr.out⟩
set_option maxRecDepth 100000 in
set_option maxHeartbeats 1600000 in
theorem anystrs_any (v : Value) (ss : List ByteArray) (n : Nat) (hl : ss.length = n) (hn : n ≤ 1048576) (w : World) (hS : SliceOf w v (isStrs ss)) :
    Calls Tryz.prog 26 #[v] w fun e w' => (∃ G, e = .returned (.slice (some ⟨G, 0, none⟩) n n) ∧ Row w' G 20 (anyStrs ss)) ∧ Below w.heap.size w w' := by
  obtain ⟨a, c, rfl, hat⟩ := slice_form hS
  rw [isStrs_len, hl] at hat ⊢
  have HA := Lib.hid hat
  have HN := Lib.hid hl
  have mk := mk_any n hn
  clear hat hl hS
  go_enter Tryz.func26, Tryz.ntmps26
  go_wp2_with fail
  have hF0 : Fill (w.alloc (.cells (Array.replicate n .nilIface) 20)) (w.alloc (.cells (Array.replicate n .nilIface) 20)) w.heap.size 20 (anyStrs ss) .nilIface 0 := by
    refine Fill.start ?_
    rw [anyStrs_len, HN.out]
    have := Row.alloc w 20 (List.replicate n .nilIface)
    rwa [List.toArray_replicate] at this
  have HB0 := Lib.hid (show Below w.heap.size w (w.alloc (.cells (Array.replicate n .nilIface) 20)) by go_grown)
  have HF0 := Lib.hid hF0
  clear hF0 mk
  generalize hW0 : w.alloc (.cells (Array.replicate n .nilIface) 20) = W0 at HF0 HB0 ⊢
  clear hW0
  go_loopw [11] (fun vi wr => ∃ k : Nat, vi = .int .i64 (k : Int) ∧ k ≤ n ∧ Hid (Fill W0 wr w.heap.size 20 (anyStrs ss) .nilIface k)) (fun vi _ => n - (RowKit.intOf vi).toNat)
  case atStart => exact ⟨0, rfl, Nat.zero_le _, HF0⟩
  case round =>
    obtain ⟨k, rfl, hk, HF⟩ := hrel
    by_cases hkn : k < n
    · obtain ⟨b, o, rfl, hb, hc⟩ := HA.out (by omega)
      have hkz : k < ss.length := by rw [HN.out]; exact hkn
      have c1 : wr.cell? ⟨b, o + k, none⟩ = some (.string ss[k]) := (HF.out.old (p := ⟨b, o + k, none⟩) (by have := HB0.out.size; show b < _; omega) (by show b ≠ _; omega)).trans ((HB0.out.cell (p := ⟨b, o + k, none⟩) hb).trans (hc k _ (isStrs_get ss k hkz)))
      obtain ⟨y, c2⟩ := HF.out.cell k (by rw [anyStrs_len]; exact hkz)
      have f2 := HF.out.free k
      have HS := Lib.hid (HF.out.step (by rw [anyStrs_len]; exact hkz) (.iface 9 (.string ss[k])) (anyStrs_get' ss k _))
      clear hc
      go_wp2_with fail
      go_roundw
      case rel => exact ⟨k + 1, by go_num, by omega, HS⟩
      case measure => simp [RowKit.intOf]; omega
    · obtain rfl : k = n := by omega
      have HR := Lib.hid (HF.out.done (by rw [anyStrs_len, HN.out]))
      have HBr := Lib.hid (HF.out.below (Nat.le_refl _) HB0.out)
      clear HF
      go_wp2_with fail
      go_ret
      exact ⟨⟨_, rfl, HR.out⟩, HBr.out⟩
set_option maxRecDepth 100000 in
set_option maxHeartbeats 1600000 in
theorem strbytes_any (v : Value) (ss : List ByteArray) (n : Nat) (hl : ss.length = n) (hn : n ≤ 1048576) (w : World) (hS : SliceOf w v (isStrs ss)) :
    Calls Tryz.prog 15 #[v] w fun e w' => (∃ x, e = .returned (.int .i64 x)) ∧ Below w.heap.size w w' := by
  obtain ⟨a, c, rfl, hat⟩ := slice_form hS
  rw [isStrs_len, hl] at hat ⊢
  have HA := Lib.hid hat
  have HN := Lib.hid hl
  clear hat hl hS
  go_enter Tryz.func15, Tryz.ntmps15
  go_wp2_with fail
  go_loopw [3, 4] (fun vn vi wr => ∃ (k : Nat) (x : Int), vi = .int .i64 (k : Int) ∧ vn = .int .i64 x ∧ k ≤ n ∧ Hid (Below w.heap.size w wr)) (fun _ vi _ => n - (RowKit.intOf vi).toNat)
  case atStart => exact ⟨0, 0, rfl, rfl, Nat.zero_le _, Lib.hid (Below.refl _ _)⟩
  case round =>
    obtain ⟨k, x, rfl, rfl, hk, HBr⟩ := hrel
    by_cases hkn : k < n
    · obtain ⟨b, o, rfl, hb, hc⟩ := HA.out (by omega)
      have hkz : k < ss.length := by rw [HN.out]; exact hkn
      have c1 : wr.cell? ⟨b, o + k, none⟩ = some (.string ss[k]) := (HBr.out.cell (p := ⟨b, o + k, none⟩) hb).trans (hc k _ (isStrs_get ss k hkz))
      clear hc
      go_wp2_with fail
      try (go_region; go_wp2_with fail)
      go_roundw
      case rel => exact ⟨k + 1, _, by go_num, rfl, by omega, by first | exact HBr | exact Lib.hid HBr.out.drew⟩
      case measure => simp [RowKit.intOf]; omega
    · go_wp2_with fail
      go_ret
      exact ⟨⟨_, rfl⟩, HBr.out⟩
theorem asArrNum (v : Value) (w : World) : (Instr.typeAssert (.iface 47 v) 20 78 true).run Tryz.prog w = .ok (.tuple #[.string ⟨#[]⟩, .bool false]) w := by kernel_rfl
theorem asArrInt (v : Value) (w : World) : (Instr.typeAssert (.iface 47 v) 20 3 true).run Tryz.prog w = .ok (.tuple #[.int .i64 0, .bool false]) w := by kernel_rfl
theorem asArrFloat (v : Value) (w : World) : (Instr.typeAssert (.iface 47 v) 20 40 true).run Tryz.prog w = .ok (.tuple #[.float .f64 0, .bool false]) w := by kernel_rfl
theorem asArrBig (v : Value) (w : World) : (Instr.typeAssert (.iface 47 v) 20 49 true).run Tryz.prog w = .ok (.tuple #[.pointer none, .bool false]) w := by kernel_rfl
theorem asArrStr (v : Value) (w : World) : (Instr.typeAssert (.iface 47 v) 20 9 true).run Tryz.prog w = .ok (.tuple #[.string ByteArray.empty, .bool false]) w := by kernel_rfl
theorem asArrArr (v : Value) (w : World) : (Instr.typeAssert (.iface 47 v) 20 47 true).run Tryz.prog w = .ok (.tuple #[v, .bool true]) w := by kernel_rfl
theorem asNilNum (w : World) : (Instr.typeAssert .nilIface 20 78 true).run Tryz.prog w = .ok (.tuple #[.string ⟨#[]⟩, .bool false]) w := by kernel_rfl
theorem asNilInt (w : World) : (Instr.typeAssert .nilIface 20 3 true).run Tryz.prog w = .ok (.tuple #[.int .i64 0, .bool false]) w := by kernel_rfl
theorem asNilFloat (w : World) : (Instr.typeAssert .nilIface 20 40 true).run Tryz.prog w = .ok (.tuple #[.float .f64 0, .bool false]) w := by kernel_rfl
theorem asNilBig (w : World) : (Instr.typeAssert .nilIface 20 49 true).run Tryz.prog w = .ok (.tuple #[.pointer none, .bool false]) w := by kernel_rfl
theorem asNilStr (w : World) : (Instr.typeAssert .nilIface 20 9 true).run Tryz.prog w = .ok (.tuple #[.string ByteArray.empty, .bool false]) w := by kernel_rfl
theorem asNilArr (w : World) : (Instr.typeAssert .nilIface 20 47 true).run Tryz.prog w = .ok (.tuple #[.slice none 0 0, .bool false]) w := by kernel_rfl
theorem asNilMap (w : World) : (Instr.typeAssert .nilIface 20 66 true).run Tryz.prog w = .ok (.tuple #[.map none, .bool false]) w := by kernel_rfl
theorem asStrStrX (v : Value) (w : World) : (Instr.typeAssert (.iface 9 v) 20 9 true).run Tryz.prog w = .ok (.tuple #[v, .bool true]) w := by kernel_rfl
set_option maxRecDepth 100000 in
set_option maxHeartbeats 1600000 in
/-- The laws' own look into a result: an array of strings comes back as it stands. -/
theorem strsof_any (ss : List ByteArray) (n : Nat) (G c : Nat) (hl : ss.length = n) (hn : n ≤ 1048576) (w : World) (hR : Row w G 20 (anyStrs ss)) :
    Calls Tryz.prog 25 #[.iface 47 (.slice (some ⟨G, 0, none⟩) n c)] w fun e w' => (∃ R, e = .returned (.tuple #[.bool true, .slice (some ⟨R, 0, none⟩) n n]) ∧ Row w' R 9 (isStrs ss)) ∧ Below w.heap.size w w' := by
  have HN := Lib.hid hl
  have HRR := Lib.hid hR
  have hG : G < w.heap.size := hR.lt
  have mk := mk_strs n hn
  have as1 := asArrArr
  have as2 := asStrStrX
  clear hl hR
  go_enter Tryz.func25, Tryz.ntmps25
  go_wp2_with fail
  have hF0 : Fill (w.alloc (.cells (Array.replicate n (.string ByteArray.empty)) 9)) (w.alloc (.cells (Array.replicate n (.string ByteArray.empty)) 9)) w.heap.size 9 (isStrs ss) (.string ByteArray.empty) 0 := by
    refine Fill.start ?_
    rw [isStrs_len, HN.out]
    have := Row.alloc w 9 (List.replicate n (.string ByteArray.empty))
    rwa [List.toArray_replicate] at this
  have HB0 := Lib.hid (show Below w.heap.size w (w.alloc (.cells (Array.replicate n (.string ByteArray.empty)) 9)) by go_grown)
  have HF0 := Lib.hid hF0
  clear hF0 mk
  generalize hW0 : w.alloc (.cells (Array.replicate n (.string ByteArray.empty)) 9) = W0 at HF0 HB0 ⊢
  clear hW0
  go_loopw [23] (fun vi wr => ∃ k : Nat, vi = .int .i64 (k : Int) ∧ k ≤ n ∧ Hid (Fill W0 wr w.heap.size 9 (isStrs ss) (.string ByteArray.empty) k)) (fun vi _ => n - (RowKit.intOf vi).toNat)
  case atStart => exact ⟨0, rfl, Nat.zero_le _, HF0⟩
  case round =>
    obtain ⟨k, rfl, hk, HF⟩ := hrel
    by_cases hkn : k < n
    · have hkz : k < ss.length := by rw [HN.out]; exact hkn
      have c1 : wr.cell? ⟨G, k, none⟩ = some (.iface 9 (.string ss[k])) := (HF.out.old (p := ⟨G, k, none⟩) (by have := HB0.out.size; show G < _; omega) (by show G ≠ _; omega)).trans ((HB0.out.cell (p := ⟨G, k, none⟩) hG).trans (by rw [HRR.out.cell k (by rw [anyStrs_len]; exact hkz), anyStrs_get']))
      obtain ⟨y, c2⟩ := HF.out.cell k (by rw [isStrs_len]; exact hkz)
      have f2 := HF.out.free k
      have HS := Lib.hid (HF.out.step (by rw [isStrs_len]; exact hkz) (.string ss[k]) (isStrs_get' ss k _))
      go_wp2_with fail
      go_roundw
      case rel => exact ⟨k + 1, by go_num, by omega, HS⟩
      case measure => simp [RowKit.intOf]; omega
    · obtain rfl : k = n := by omega
      have HR := Lib.hid (HF.out.done (by rw [isStrs_len, HN.out]))
      have HBr := Lib.hid (HF.out.below (Nat.le_refl _) HB0.out)
      clear HF
      go_wp2_with fail
      go_ret2
      exact ⟨⟨_, rfl, HR.out⟩, HBr.out⟩
set_option maxRecDepth 100000 in
set_option maxHeartbeats 1600000 in
theorem same_any (v1 v2 : Value) (ss : List ByteArray) (n : Nat) (hl : ss.length = n) (hn : n ≤ 1048576) (w : World) (h1 : SliceOf w v1 (isStrs ss)) (h2 : SliceOf w v2 (isStrs ss)) :
    Calls Tryz.prog 20 #[v1, v2] w fun e w' => e = .returned (.bool true) ∧ Below w.heap.size w w' := by
  obtain ⟨a1, c1, rfl, hat1⟩ := slice_form h1
  obtain ⟨a2, c2, rfl, hat2⟩ := slice_form h2
  rw [isStrs_len, hl] at hat1 hat2 ⊢
  have HA1 := Lib.hid hat1
  have HA2 := Lib.hid hat2
  have HN := Lib.hid hl
  clear hat1 hat2 hl h1 h2
  go_enter Tryz.func20, Tryz.ntmps20
  go_wp2_with fail
  go_loopw [5] (fun vi wr => ∃ k : Nat, vi = .int .i64 (k : Int) ∧ k ≤ n ∧ Hid (Below w.heap.size w wr)) (fun vi _ => n - (RowKit.intOf vi).toNat)
  case atStart => exact ⟨0, rfl, Nat.zero_le _, Lib.hid (Below.refl _ _)⟩
  case round =>
    obtain ⟨k, rfl, hk, HBr⟩ := hrel
    by_cases hkn : k < n
    · obtain ⟨b1, o1, he1, hb1, hc1⟩ := HA1.out (by omega)
      obtain ⟨b2, o2, he2, hb2, hc2⟩ := HA2.out (by omega)
      subst he1
      subst he2
      have hkz : k < ss.length := by rw [HN.out]; exact hkn
      have d1 : wr.cell? ⟨b1, o1 + k, none⟩ = some (.string ss[k]) := (HBr.out.cell (p := ⟨b1, o1 + k, none⟩) hb1).trans (hc1 k _ (isStrs_get ss k hkz))
      have d2 : wr.cell? ⟨b2, o2 + k, none⟩ = some (.string ss[k]) := (HBr.out.cell (p := ⟨b2, o2 + k, none⟩) hb2).trans (hc2 k _ (isStrs_get ss k hkz))
      generalize ss[k] = x at d1 d2
      clear hc1 hc2
      go_wp2_with fail
      go_region
      all_goals
        go_wp2_with fail
        go_roundw
        case rel => exact ⟨k + 1, by go_num, by omega, by first | exact HBr | exact Lib.hid HBr.out.drew⟩
        case measure => simp [RowKit.intOf]; omega
    · go_wp2_with fail
      go_ret
      exact ⟨rfl, HBr.out⟩
end Go.Proofs.YtffiamchcadloaaGreatDoor
