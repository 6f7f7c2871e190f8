/-
  jsonLimitedMarshal: the deferred closure's two contracts, and the function by the contract of the encoder.
-/
import Derived.Test.YtcajagjgbalakaaGreatFmtEncode
import Derived.Recover
import Derived.Defers
import Derived.Deep.OwnRows
namespace Go.Proofs.YtcajagjgbalakaaGreatFmt
set_option linter.unusedVariables false
set_option linter.unusedSimpArgs false
open Go.RowKit Go.Lib Go.Sort

/-- What the deferred closure leaves: the named result reads as the bytes written so far. -/
def Closed (w : World) (pb : Addr) (bb n : Nat) (T : List UInt8) (w' : World) : Prop :=
  Only (fun k => k = pb.block) w w' ∧ w'.cell? pb = some (.slice (some ⟨bb, 0, none⟩) T.length n)

set_option maxRecDepth 100000 in
set_option maxHeartbeats 400000 in
/-- The closure entered while the frame below panics: the panic is recovered, the bytes so far are laid into the named result. -/
theorem closure_panicking (pw pb : Addr) (bw bb n : Nat) (T : List UInt8) (u : TypeId) (pv old : Value) (older : List PanicEntry) (w : World) (hn : n ≤ 65536) (h : LW w bw bb n T)
    (hw : w.cell? pw = some (.pointer (some ⟨bw, 0, none⟩))) (hb : w.cell? pb = some old) (hz : w.frozen? pb = false) :
    CallsD Tryz.prog 19 #[.pointer (some pw), .pointer (some pb)] (.panicking ({ v := .iface u pv, recovered := false } :: older)) w fun e u' w' =>
      e = .returned (.tuple #[]) ∧ u' = .panicking ({ v := .iface u pv, recovered := true } :: older) ∧ Closed w pb bb n T w' := by
  refine callsD_of_wpS Tryz.func19 rfl fun c₀ cs hu => ?_
  have HB := Lib.hid (bytes_any w bw bb n T hn h)
  clear h
  apply wpS_seq
  apply wpS_region
  simp [wpOpsS, go_sem, recoverD, hu, Tryz.ntmps19, Exit.thenS]
  refine wpS_of_wp ?_
  go_wp2_with fail
  refine HB.out.mono ?_
  rintro e w1 ⟨rfl, rfl⟩
  go_wp2
  refine ⟨rfl, _, rfl, .tuple #[], by simp [results, Tryz.results19], rfl, rfl, (Only.setCell (S := fun k => k = pb.block) (p := pb) (Only.refl _ w) rfl _).drew, ?_⟩
  go_simp

set_option maxRecDepth 100000 in
set_option maxHeartbeats 400000 in
/-- The closure entered while the frame below returns: nothing is recovered. -/
theorem closure_returning (pw pb : Addr) (bw bb n : Nat) (T : List UInt8) (old : Value) (w : World) (hn : n ≤ 65536) (h : LW w bw bb n T)
    (hw : w.cell? pw = some (.pointer (some ⟨bw, 0, none⟩))) (hb : w.cell? pb = some old) (hz : w.frozen? pb = false) :
    CallsD Tryz.prog 19 #[.pointer (some pw), .pointer (some pb)] .returning w fun e u' w' =>
      e = .returned (.tuple #[]) ∧ u' = .returning ∧ Closed w pb bb n T w' := by
  refine callsD_of_wpS Tryz.func19 rfl fun c₀ cs hu => ?_
  have HB := Lib.hid (bytes_any w bw bb n T hn h)
  clear h
  apply wpS_seq
  apply wpS_region
  simp [wpOpsS, go_sem, recoverD, hu, Tryz.ntmps19, Exit.thenS]
  refine wpS_of_wp ?_
  go_wp2_with fail
  refine HB.out.mono ?_
  rintro e w1 ⟨rfl, rfl⟩
  go_wp2
  refine ⟨rfl, _, by rw [← hu], .tuple #[], by simp [results, Tryz.results19], rfl, rfl, (Only.setCell (S := fun k => k = pb.block) (p := pb) (Only.refl _ w) rfl _).drew, ?_⟩
  go_simp

/-- What jsonLimitedMarshal leaves: a slice of a new block that holds the text's beginning. -/
def Marshalled (w : World) (n : Nat) (full : List UInt8) (e : Ending) (w' : World) : Prop :=
  Below w.heap.size w w' ∧ ∃ bb, w.heap.size ≤ bb ∧ e = .returned (.slice (some ⟨bb, 0, none⟩) (full.take n).length n) ∧
    ∃ cur : List Value, w'.heap[bb]? = some (.cells cur.toArray 5 (0, 0)) ∧ cur.length = n ∧ cur.take (full.take n).length = bc (full.take n)

/-- The world in which the encoder is called. -/
noncomputable def startW (w : World) (n : Nat) : World :=
  ((((w.alloc (.cells #[.slice none 0 0] 26)).alloc (.cells (madeCells #[.int .u8 0] n) 5)).alloc (.cells #[.slice (some ⟨w.heap.size + 1, 0, none⟩) n n, .int .i64 0] 37)).alloc
    (.cells #[.pointer (some ⟨w.heap.size + 1 + 1, 0, none⟩)] 35)).alloc
    (.cells (Tryz.zeroCells43.setIfInBounds 0 (.iface 35 (.pointer (some ⟨w.heap.size + 1 + 1, 0, none⟩)))) 43)
theorem heap_push (w : World) (o : Obj) : (w.alloc o).heap = w.heap.push o := rfl
theorem set_head (zc : Array Value) (x a : Value) (l : List Value) (h : zc.toList = a :: l) : zc.setIfInBounds 0 x = (x :: l).toArray := by
  apply Array.toList_inj.1
  simp [h]
theorem zero_enc : Tryz.zeroCells43.toList = .nilIface :: List.replicate 64 (.int .u8 0) := by kernel_rfl
theorem startW_below (w : World) (n : Nat) : Below w.heap.size w (startW w n) := by unfold startW; go_grown
theorem startW_lw (w : World) (n : Nat) : LW (startW w n) (w.heap.size + 1 + 1) (w.heap.size + 1) n [] := by
  refine ⟨?_, ⟨List.replicate n (.int .u8 0), ?_, by simp, rfl⟩, Nat.zero_le _, by omega⟩
  · simp only [startW, heap_push, Array.getElem?_push, Array.size_push]
    rw [if_neg (by omega), if_neg (by omega), if_pos trivial]
    rfl
  · have e : madeCells #[Value.int .u8 0] n = (List.replicate n (Value.int .u8 0)).toArray := by
      apply Array.toList_inj.1
      rw [toList_madeCells_one]
    simp only [startW, heap_push, Array.getElem?_push, Array.size_push, e]
    rw [if_neg (by omega), if_neg (by omega), if_neg (by omega), if_pos trivial]
theorem startW_enc (w : World) (n : Nat) : Enc (startW w n) (w.heap.size + 1 + 1 + 1 + 1) (w.heap.size + 1 + 1) := by
  refine ⟨List.replicate 64 (.int .u8 0), ?_, by simp⟩
  have e := set_head _ (.iface 35 (.pointer (some ⟨w.heap.size + 1 + 1, 0, none⟩))) _ _ zero_enc
  simp only [startW, heap_push, Array.getElem?_push, e, Array.size_push]
  simp
theorem startW_size (w : World) (n : Nat) : (startW w n).heap.size = w.heap.size + 1 + 1 + 1 + 1 + 1 := by simp [startW, heap_push]
theorem startW_pw (w : World) (n : Nat) : (startW w n).heap[w.heap.size + 1 + 1 + 1]? = some (.cells #[.pointer (some ⟨w.heap.size + 1 + 1, 0, none⟩)] 35) := by
  simp only [startW, heap_push, Array.getElem?_push, Array.size_push]
  rw [if_neg (by omega), if_pos trivial]
theorem startW_pb (w : World) (n : Nat) : (startW w n).heap[w.heap.size]? = some (.cells #[.slice none 0 0] 26) := by
  simp only [startW, heap_push, Array.getElem?_push, Array.size_push]
  rw [if_neg (by omega), if_neg (by omega), if_neg (by omega), if_neg (by omega), if_pos trivial]

/-- Behind the closure: the claim. -/
theorem marshalled_of {w w2 w3 : World} {n : Nat} {full : List UInt8} (hO : Only (SE (w.heap.size + 1 + 1) (w.heap.size + 1) (w.heap.size + 1 + 1 + 1 + 1)) (startW w n) w2) (h3 : LW w2 (w.heap.size + 1 + 1) (w.heap.size + 1) n (full.take n))
    (hC : Closed w2 ⟨w.heap.size, 0, none⟩ (w.heap.size + 1) n (full.take n) w3) : Marshalled w n full (.returned (.slice (some ⟨w.heap.size + 1, 0, none⟩) (full.take n).length n)) w3 := by
  have hB : Below w.heap.size w w3 := by
    have b1 := hO.below (B := w.heap.size) (startW_below w n).size (fun k hk => by rcases hk with h | h | h <;> omega)
    have b2 := hC.1.below (B := w.heap.size) (Nat.le_trans (startW_below w n).size hO.size) (fun k hk => by have hk' : k = w.heap.size := hk; omega)
    exact ((startW_below w n).trans b1).trans b2
  have h4 := h3.only hC.1 (by simp only; omega) (by simp only; omega)
  obtain ⟨cur, a1, a2, a3⟩ := h4.buf
  exact ⟨hB, w.heap.size + 1, by omega, rfl, cur, a1, a2, a3⟩

set_option maxRecDepth 100000 in
set_option maxHeartbeats 800000 in
theorem marshal_any (v : Value) (n : Nat) (hn : n ≤ 65536) (full : List UInt8) (w : World)
    (henc : ∀ (w1 : World) (be bw bb : Nat), Below w.heap.size w w1 → w.heap.size ≤ be → w.heap.size ≤ bw → w.heap.size ≤ bb → bw ≠ be ∧ bb ≠ be → LW w1 bw bb n [] → Enc w1 be bw →
      Calls Tryz.prog 21 #[.pointer (some ⟨be, 0, none⟩), v] w1 (Wrote (SE bw bb be) w1 bw bb n ([] ++ full) (.tuple #[]))) :
    Calls Tryz.prog 17 #[v, .int .i64 n] w (Marshalled w n full) := by
  have hmf : ∀ (fn : Fn) (first cap : Array Value) (w : World), (Instr.makeFunc fn first cap).run Tryz.prog w = .ok (.func fn first cap) w := fun _ _ _ _ => rfl
  have hmk : ∀ wx : World, (Instr.makeSlice 26 (.int .i64 (n : Int)) (.int .i64 (n : Int))).run Tryz.prog wx = .ok (.slice (some ⟨wx.heap.size, 0, none⟩) n n) (wx.alloc (.cells (madeCells #[.int .u8 0] n) 5)) := fun wx =>
    run_make_row' 26 5 (.int .u8 0) 1 Tryz.underlying26 (by kernel_rfl) rfl .i64 .i64 n (by omega) (by omega) wx
  have HE := Lib.hid henc
  clear henc
  go_enter_defers Tryz.func17, Tryz.ntmps17
  go_wp2_with fail
  change Calls _ _ _ (startW w n) _
  refine (HE.out (startW w n) (w.heap.size + 1 + 1 + 1 + 1) (w.heap.size + 1 + 1) (w.heap.size + 1) (startW_below w n) (by omega) (by omega) (by omega) (by omega) (startW_lw w n) (startW_enc w n)).mono ?_
  clear HE
  rintro e w2 ⟨hO, hE⟩
  have pw := hO.block (w.heap.size + 1 + 1 + 1) (by rw [startW_size]; omega) (by simp only [SE]; omega)
  rw [startW_pw] at pw
  have pb := hO.block w.heap.size (by rw [startW_size]; omega) (by simp only [SE]; omega)
  rw [startW_pb] at pb
  have cw : w2.cell? ⟨w.heap.size + 1 + 1 + 1, 0, none⟩ = some (.pointer (some ⟨w.heap.size + 1 + 1, 0, none⟩)) := by simp [World.cell?, pw]
  have cb : w2.cell? ⟨w.heap.size, 0, none⟩ = some (.slice none 0 0) := by simp [World.cell?, pb]
  have fb : w2.frozen? ⟨w.heap.size, 0, none⟩ = false := by simp [World.frozen?, pb]
  have HO := Lib.hid hO
  clear hO pw pb
  rcases hE with ⟨h1, rfl, h3⟩ | ⟨h1, ⟨u, pv, rfl⟩, h3⟩
  · rw [List.nil_append] at h3 h1
    have et : full.take n = full := List.take_of_length_le (by omega)
    rw [← et] at h3
    have H3 := Lib.hid h3
    clear h3 h1 et
    go_wp2
    refine leaves_cons (f := 19) (args := #[.pointer (some ⟨w.heap.size + 1 + 1 + 1, 0, none⟩), .pointer (some ⟨w.heap.size, 0, none⟩)]) (by simp) (by simp [go_sem]) ?_
    refine (closure_returning ⟨w.heap.size + 1 + 1 + 1, 0, none⟩ ⟨w.heap.size, 0, none⟩ _ _ n (full.take n) (.slice none 0 0) w2 hn H3.out cw cb fb).mono ?_
    rintro e u' w3 ⟨rfl, rfl, hC⟩
    have hm := marshalled_of HO.out H3.out hC
    have hc2 := hC.2
    simp [Leaves, settle, results, Tryz.results17, go_sem, hc2]
    rw [List.length_take] at hm
    exact hm
  · rw [List.nil_append] at h3
    have H3 := Lib.hid h3
    clear h3
    refine leaves_cons (f := 19) (args := #[.pointer (some ⟨w.heap.size + 1 + 1 + 1, 0, none⟩), .pointer (some ⟨w.heap.size, 0, none⟩)]) (by simp) (by simp [go_sem]) ?_
    refine (closure_panicking ⟨w.heap.size + 1 + 1 + 1, 0, none⟩ ⟨w.heap.size, 0, none⟩ _ _ n (full.take n) u pv (.slice none 0 0) [] w2 hn H3.out cw cb fb).mono ?_
    rintro e u' w3 ⟨rfl, rfl, hC⟩
    have hm := marshalled_of HO.out H3.out hC
    have hc2 := hC.2
    simp [Leaves, settle, results, Tryz.results17, go_sem, hc2]
    rw [List.length_take] at hm
    exact hm

theorem marshal_of (v : Value) (n : Nat) (hn0 : 0 < n) (hn : n ≤ 65536) (full : List UInt8) (w : World)
    (henc : ∀ (w1 : World) (be bw bb : Nat), Below w.heap.size w w1 → w.heap.size ≤ be → w.heap.size ≤ bw → w.heap.size ≤ bb → bw ≠ be ∧ bb ≠ be → LW w1 bw bb n [] → Enc w1 be bw →
      Calls Tryz.prog 21 #[.pointer (some ⟨be, 0, none⟩), v] w1 (Wrote (SE bw bb be) w1 bw bb n ([] ++ full) (.tuple #[]))) :
    Calls Tryz.prog 17 #[v, .int .i64 n] w (Marshalled w n full) := marshal_any v n hn full w henc
end Go.Proofs.YtcajagjgbalakaaGreatFmt
