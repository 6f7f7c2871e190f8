/-
  (*encoder).encode over the limited writer: nil, a boolean, an int.
-/
import Derived.Test.YtcajagjgbalakaaGreatFmtAppInt
import Derived.Test.YtcajagjgbalakaaGreatFmtAs
import Derived.StillTailTactics
import Derived.RegionDies
namespace Go.Proofs.YtcajagjgbalakaaGreatFmt
set_option linter.unusedVariables false
set_option linter.unusedSimpArgs false
open Go.RowKit Go.Lib Go.Sort

/-- THE ENCODER at block be: it writes to the limited writer at block bw. -/
structure Enc (w : World) (be bw : Nat) : Prop where
  head : ∃ rest : List Value, w.heap[be]? = some (.cells (Value.iface 35 (.pointer (some ⟨bw, 0, none⟩)) :: rest).toArray 43 (0, 0)) ∧ rest.length = 64

theorem Enc.cell0 {w : World} {be bw : Nat} (h : Enc w be bw) : w.cell? ⟨be, 0, none⟩ = some (.iface 35 (.pointer (some ⟨bw, 0, none⟩))) := by
  obtain ⟨rest, h1, h2⟩ := h.head
  rw [cell_whole h1]
  rfl

def sNull : ByteArray := ⟨#[110, 117, 108, 108]⟩
def sTrue : ByteArray := ⟨#[116, 114, 117, 101]⟩
def sFalse : ByteArray := ⟨#[102, 97, 108, 115, 101]⟩

abbrev SE (bw bb be : Nat) : Nat → Prop := fun k => k = bw ∨ k = bb ∨ k = be
theorem only_SE {w w' : World} {bw bb : Nat} (be : Nat) (h : Only (fun k => k = bw ∨ k = bb) w w') : Only (SE bw bb be) w w' :=
  h.mono (fun k hk => by
    rcases hk with h | h
    · exact Or.inl h
    · exact Or.inr (Or.inl h))

set_option maxRecDepth 100000 in
set_option maxHeartbeats 800000 in
theorem encode_nil (w : World) (be bw bb n : Nat) (T : List UInt8) (hn : n ≤ 65536) (h : LW w bw bb n T) (hlt : T.length < n) (he : Enc w be bw) :
    Calls Tryz.prog 21 #[.pointer (some ⟨be, 0, none⟩), .nilIface] w (Wrote (SE bw bb be) w bw bb n (T ++ sNull.data.toList) (.tuple #[])) := by
  have c0 := he.cell0
  have HW := Lib.hid (writeString_any sNull (by decide) w bw bb n T hn h hlt)
  clear h
  go_enter Tryz.func21, Tryz.ntmps21
  go_wp2_with fail
  refine HW.out.mono ?_
  rintro e w' ⟨hO, ⟨h1, rfl, h3⟩ | ⟨h1, ⟨u, pv, rfl⟩, h3⟩⟩
  · go_wp2
    go_end0
    exact ⟨only_SE be hO, Or.inl ⟨h1, rfl, h3⟩⟩
  · go_wp2
    refine ⟨rfl, only_SE be hO, Or.inr ⟨h1, ⟨u, pv, rfl⟩, h3⟩⟩

set_option maxRecDepth 100000 in
set_option maxHeartbeats 800000 in
theorem encode_true (w : World) (be bw bb n : Nat) (T : List UInt8) (hn : n ≤ 65536) (h : LW w bw bb n T) (hlt : T.length < n) (he : Enc w be bw) :
    Calls Tryz.prog 21 #[.pointer (some ⟨be, 0, none⟩), .iface 4 (.bool true)] w (Wrote (SE bw bb be) w bw bb n (T ++ sTrue.data.toList) (.tuple #[])) := by
  have as1 := asBoolBool
  have c0 := he.cell0
  have HW := Lib.hid (writeString_any sTrue (by decide) w bw bb n T hn h hlt)
  clear h
  go_enter Tryz.func21, Tryz.ntmps21
  go_wp2_with fail
  refine HW.out.mono ?_
  rintro e w' ⟨hO, ⟨h1, rfl, h3⟩ | ⟨h1, ⟨u, pv, rfl⟩, h3⟩⟩
  · go_wp2
    go_end0
    exact ⟨only_SE be hO, Or.inl ⟨h1, rfl, h3⟩⟩
  · go_wp2
    refine ⟨rfl, only_SE be hO, Or.inr ⟨h1, ⟨u, pv, rfl⟩, h3⟩⟩

set_option maxRecDepth 100000 in
set_option maxHeartbeats 800000 in
theorem encode_false (w : World) (be bw bb n : Nat) (T : List UInt8) (hn : n ≤ 65536) (h : LW w bw bb n T) (hlt : T.length < n) (he : Enc w be bw) :
    Calls Tryz.prog 21 #[.pointer (some ⟨be, 0, none⟩), .iface 4 (.bool false)] w (Wrote (SE bw bb be) w bw bb n (T ++ sFalse.data.toList) (.tuple #[])) := by
  have as1 := asBoolBool
  have c0 := he.cell0
  have HW := Lib.hid (writeString_any sFalse (by decide) w bw bb n T hn h hlt)
  clear h
  go_enter Tryz.func21, Tryz.ntmps21
  go_wp2_with fail
  refine HW.out.mono ?_
  rintro e w' ⟨hO, ⟨h1, rfl, h3⟩ | ⟨h1, ⟨u, pv, rfl⟩, h3⟩⟩
  · go_wp2
    go_end0
    exact ⟨only_SE be hO, Or.inl ⟨h1, rfl, h3⟩⟩
  · go_wp2
    refine ⟨rfl, only_SE be hO, Or.inr ⟨h1, ⟨u, pv, rfl⟩, h3⟩⟩


theorem LW.only {S : Nat → Prop} {w w' : World} {bw bb n : Nat} {T : List UInt8} (h : LW w bw bb n T) (hO : Only S w w') (h1 : ¬ S bw) (h2 : ¬ S bb) : LW w' bw bb n T := by
  have lt : ∀ k (o : Obj), w.heap[k]? = some o → k < w.heap.size := fun k o hk => by
    rcases Nat.lt_or_ge k w.heap.size with h | h
    · exact h
    · rw [Array.getElem?_eq_none h] at hk; cases hk
  obtain ⟨cur, a1, a2, a3⟩ := h.buf
  refine ⟨?_, ⟨cur, ?_, a2, a3⟩, h.le, h.ne⟩
  · rw [hO.block bw (lt _ _ h.head) h1]; exact h.head
  · rw [hO.block bb (lt _ _ a1) h2]; exact a1

/-- The numeral laid into the encoder's own buffer: what the write reads. -/
structure Ready (w w1 : World) (be bw bb n : Nat) (T out : List UInt8) : Prop where
  only : Only (fun k => k = be) w w1
  lw : LW w1 bw bb n T
  cell0 : w1.cell? ⟨be, 0, none⟩ = some (.iface 35 (.pointer (some ⟨bw, 0, none⟩)))
  cells : ∀ j v, (bc out)[j]? = some v → w1.cell? ((⟨be, 1, none⟩ : Addr).add j) = some v

theorem Ready.of {w w1 : World} {be bw bb n : Nat} {T out : List UInt8} (h : LW w bw bb n T) (hne : bw ≠ be ∧ bb ≠ be) (rest : List Value) (hr : rest.length = 64) (ho : out.length ≤ 64)
    (hL : Laid w be 43 (Value.iface 35 (.pointer (some ⟨bw, 0, none⟩)) :: rest) 1 out w1) : Ready w w1 be bw bb n T out := by
  refine ⟨hL.1, h.only hL.1 hne.1 hne.2, ?_, fun j v hj => ?_⟩
  · rw [cell_whole hL.2]
    simp [splice]
  · have hjl : j < (bc out).length := (List.getElem?_eq_some_iff.1 hj).1
    rw [add_plain, cell_whole hL.2]
    unfold splice
    rw [List.getElem?_append_right (by simp)]
    simp only [List.length_take, List.length_cons]
    rw [show 1 + j - min 1 (rest.length + 1) = j by omega, List.getElem?_append_left hjl]
    exact hj

set_option maxRecDepth 100000 in
set_option maxHeartbeats 800000 in
theorem encode_int (B : Nat) (i : Int) (w : World) (be bw bb n : Nat) (T : List UInt8) (h0 : -9223372036854775808 ≤ i) (h1 : i ≤ 9223372036854775807) (hn : n ≤ 65536) (h : LW w bw bb n T) (hlt : T.length < n) (he : Enc w be bw) (hB : B ≤ be) (hne : bw ≠ be ∧ bb ≠ be)
    (htab : TabBelow Tryz.prog B w "internal/strconv.uint64pow10" .u64 pow10Tab) :
    Calls Tryz.prog 21 #[.pointer (some ⟨be, 0, none⟩), .iface 3 (.int .i64 i)] w (Wrote (SE bw bb be) w bw bb n (T ++ itoa i) (.tuple #[])) := by
  have as1 := asIntBool
  have as2 := asIntInt
  have c0 := he.cell0
  obtain ⟨rest, hb, hrest⟩ := he.head
  have hlen := itoa_length_le i h0 h1
  have hcall := strconv_appendInt_room B be 1 64 i _ 43 w.drew h0 h1 hb (by simp; omega) (by omega) hB (htab.on ((Below.refl B w).drew))
  have hready : ∀ w1, Laid w.drew be 43 (Value.iface 35 (.pointer (some ⟨bw, 0, none⟩)) :: rest) 1 (itoa i) w1 → Ready w.drew w1 be bw bb n T (itoa i) := fun w1 hL =>
    Ready.of ⟨h.head, h.buf, h.le, h.ne⟩ hne rest hrest (by omega) hL
  have HC := Lib.hid hcall
  have HR := Lib.hid hready
  clear hcall hready hb h he htab
  go_enter Tryz.func21, Tryz.ntmps21
  go_wp2_with fail
  go_region_dies
  · rename_i K hK
    refine HC.out.mono ?_
    rintro e w1 ⟨rfl, hL⟩
    have hr := HR.out w1 hL
    have r0 := hr.cell0
    have HX := Lib.hid (write_any ⟨be, 1, none⟩ (itoa i) 64 w1 bw bb n T hn hr.lw hlt (by omega) hr.cells)
    refine hK _ _ ?_
    refine wpAny_ready (rs := [12]) (by kernel_rfl) (by simp) (AllReady.cons rfl (fun K2 KK => ?_) AllReady.nil)
    go_simp
    go_wp2_with fail
    refine HX.out.mono ?_
    rintro e w2 ⟨hO, ⟨z1, rfl, z3⟩ | ⟨z1, ⟨u, pv, rfl⟩, z3⟩⟩
    · simp only []
      refine KK _ _ ?_
      refine wpAny_done (by kernel_rfl) ?_ _
      go_wp2
      go_end0
      exact ⟨((Only.refl _ w).drew.trans (hr.only.mono (fun k hk => Or.inr (Or.inr hk)))).trans (only_SE be hO), Or.inl ⟨z1, rfl, z3⟩⟩
    · refine ⟨rfl, ((Only.refl _ w).drew.trans (hr.only.mono (fun k hk => Or.inr (Or.inr hk)))).trans (only_SE be hO), Or.inr ⟨z1, ⟨u, pv, rfl⟩, z3⟩⟩
  · rename_i K hK
    refine HC.out.mono ?_
    rintro e w1 ⟨rfl, hL⟩
    have hr := HR.out w1 hL
    have r0 := hr.cell0
    have HX := Lib.hid (write_any ⟨be, 1, none⟩ (itoa i) 64 w1 bw bb n T hn hr.lw hlt (by omega) hr.cells)
    refine hK _ _ ?_
    refine wpAny_ready (rs := [3]) (by kernel_rfl) (by simp) (AllReady.cons rfl (fun K2 hK2 => ?_) AllReady.nil)
    go_simp
    refine hK2 _ _ ?_
    refine wpAny_ready (rs := [10]) (by kernel_rfl) (by simp) (AllReady.cons rfl (fun K3 hK3 => ?_) AllReady.nil)
    go_simp
    refine hK3 _ _ ?_
    refine wpAny_ready (rs := [11]) (by kernel_rfl) (by simp) (AllReady.cons rfl (fun K4 hK4 => ?_) AllReady.nil)
    go_simp
    refine hK4 _ _ ?_
    refine wpAny_ready (rs := [12]) (by kernel_rfl) (by simp) (AllReady.cons rfl (fun K5 KK => ?_) AllReady.nil)
    go_simp
    go_wp2_with fail
    refine HX.out.mono ?_
    rintro e w2 ⟨hO, ⟨z1, rfl, z3⟩ | ⟨z1, ⟨u, pv, rfl⟩, z3⟩⟩
    · simp only []
      refine KK _ _ ?_
      refine wpAny_done (by kernel_rfl) ?_ _
      go_wp2
      go_end0
      exact ⟨((Only.refl _ w).drew.trans (hr.only.mono (fun k hk => Or.inr (Or.inr hk)))).trans (only_SE be hO), Or.inl ⟨z1, rfl, z3⟩⟩
    · refine ⟨rfl, ((Only.refl _ w).drew.trans (hr.only.mono (fun k hk => Or.inr (Or.inr hk)))).trans (only_SE be hO), Or.inr ⟨z1, ⟨u, pv, rfl⟩, z3⟩⟩
end Go.Proofs.YtcajagjgbalakaaGreatFmt
