/-
  jsonMarshal of nil, a boolean and an int (over a strings.Builder), and exitCodeError's text.
-/
import Derived.Test.YtcgpjijbnkgbcaaGreatFmtBld
import Derived.Test.YtcgpjijbnkgbcaaGreatFmtShelf
import Derived.Test.YtcgpjijbnkgbcaaGreatFmtTep
import Derived.Test.YtcgpjijbnkgbcaaGreatFmtTepAll
namespace Go.Proofs.YtcgpjijbnkgbcaaGreatFmt
set_option linter.unusedVariables false
set_option linter.unusedSimpArgs false
open Go.RowKit Go.Lib Go.Sort

def Fresh (w : World) (b : Nat) : Prop := w.heap[b]? = some (.cells #[.pointer none, .slice none 0 0] 70 (0, 0))
theorem Fresh.bld {w : World} {b B : Nat} (h : Fresh w b) (hB : B ≤ b) : Bld B b (.pointer none) [] w := ⟨hB, .slice none 0 0, h, World.ownsRow_nil _ _ _ _, by simp [Value.ownBlock]⟩
theorem Fresh.lt {w : World} {b : Nat} (h : Fresh w b) : b < w.heap.size := by
  rcases Nat.lt_or_ge b w.heap.size with h' | h'
  · exact h'
  · unfold Fresh at h; simp [Array.getElem?_eq_none h'] at h
theorem Fresh.only {S : Nat → Prop} {w w' : World} {b : Nat} (h : Fresh w b) (hO : Only S w w') (hn : ¬ S b) : Fresh w' b := (hO.block b h.lt hn).trans h

/-- THE ENCODER at block be: it writes to the builder at block b. -/
structure EncB (w : World) (be b : Nat) : Prop where
  head : ∃ rest : List Value, w.heap[be]? = some (.cells (Value.iface 68 (selfP b) :: rest).toArray 75 (0, 0)) ∧ rest.length = 64
theorem EncB.cell0 {w : World} {be b : Nat} (h : EncB w be b) : w.cell? ⟨be, 0, none⟩ = some (.iface 68 (selfP b)) := by
  obtain ⟨rest, h1, h2⟩ := h.head
  rw [cell_whole h1]
  rfl

/-- What encode leaves of the builder. -/
def Put (B b : Nat) (full : List UInt8) (w : World) (e : Ending) (w' : World) : Prop := e = .returned (.tuple #[]) ∧ Bld B b (selfP b) full w' ∧ Below B w w'

set_option maxRecDepth 100000 in
set_option maxHeartbeats 800000 in
theorem encodeB_nil (B b be : Nat) (w : World) (h : Fresh w b) (hb : B ≤ b) (hB : B ≤ w.heap.size) (he : EncB w be b) :
    Calls Tryz.prog 36 #[.pointer (some ⟨be, 0, none⟩), .nilIface] w (Put B b sNull.data.toList w) := by
  have c0 := he.cell0
  have HW := Lib.hid (bld_writeString B b sNull (by decide) w (h.bld hb) hB)
  clear h
  go_enter Tryz.func36, Tryz.ntmps36
  go_wp2_with fail
  refine HW.out.mono ?_
  rintro e w' ⟨rfl, h1, h2⟩
  go_wp2
  go_end0
  exact ⟨rfl, h1, h2⟩

set_option maxRecDepth 100000 in
set_option maxHeartbeats 800000 in
theorem encodeB_true (B b be : Nat) (w : World) (h : Fresh w b) (hb : B ≤ b) (hB : B ≤ w.heap.size) (he : EncB w be b) :
    Calls Tryz.prog 36 #[.pointer (some ⟨be, 0, none⟩), .iface 4 (.bool true)] w (Put B b sTrue.data.toList w) := by
  have as1 := asBoolBool
  have c0 := he.cell0
  have HW := Lib.hid (bld_writeString B b sTrue (by decide) w (h.bld hb) hB)
  clear h
  go_enter Tryz.func36, Tryz.ntmps36
  go_wp2_with fail
  refine HW.out.mono ?_
  rintro e w' ⟨rfl, h1, h2⟩
  go_wp2
  go_end0
  exact ⟨rfl, h1, h2⟩

set_option maxRecDepth 100000 in
set_option maxHeartbeats 800000 in
theorem encodeB_false (B b be : Nat) (w : World) (h : Fresh w b) (hb : B ≤ b) (hB : B ≤ w.heap.size) (he : EncB w be b) :
    Calls Tryz.prog 36 #[.pointer (some ⟨be, 0, none⟩), .iface 4 (.bool false)] w (Put B b sFalse.data.toList w) := by
  have as1 := asBoolBool
  have c0 := he.cell0
  have HW := Lib.hid (bld_writeString B b sFalse (by decide) w (h.bld hb) hB)
  clear h
  go_enter Tryz.func36, Tryz.ntmps36
  go_wp2_with fail
  refine HW.out.mono ?_
  rintro e w' ⟨rfl, h1, h2⟩
  go_wp2
  go_end0
  exact ⟨rfl, h1, h2⟩

/-- The numeral laid into the encoder's own buffer: what the write to the builder reads. -/
structure ReadyB (B : Nat) (w w1 : World) (be b : Nat) (out : List UInt8) : Prop where
  only : Only (fun k => k = be) w w1
  fresh : Fresh w1 b
  size : B ≤ w1.heap.size
  cell0 : w1.cell? ⟨be, 0, none⟩ = some (.iface 68 (selfP b))
  cells : ∀ j v, (bc out)[j]? = some v → w1.cell? ((⟨be, 1, none⟩ : Addr).add j) = some v
theorem ReadyB.of {B : Nat} {w w1 : World} {be b : Nat} {out : List UInt8} (h : Fresh w b) (hB : B ≤ w.heap.size) (hne : b ≠ be) (rest : List Value) (hr : rest.length = 64) (ho : out.length ≤ 64)
    (hL : Laid w be 75 (Value.iface 68 (selfP b) :: rest) 1 out w1) : ReadyB B w w1 be b out := by
  refine ⟨hL.1, h.only hL.1 hne, Nat.le_trans hB hL.1.size, ?_, fun j v hj => ?_⟩
  · rw [cell_whole hL.2]
    simp [splice]
  · have hjl : j < (bc out).length := (List.getElem?_eq_some_iff.1 hj).1
    rw [add_plain, cell_whole hL.2]
    unfold splice
    rw [List.getElem?_append_right (by simp)]
    simp only [List.length_take, List.length_cons]
    rw [show 1 + j - min 1 (rest.length + 1) = j by omega, List.getElem?_append_left hjl]
    exact hj

set_option maxRecDepth 100000 in
set_option maxHeartbeats 800000 in
theorem encodeB_int (B : Nat) (i : Int) (w : World) (b be : Nat) (h0 : -9223372036854775808 ≤ i) (h1 : i ≤ 9223372036854775807) (h : Fresh w b) (hb : B ≤ b) (hbe : B ≤ be) (hB : B ≤ w.heap.size) (he : EncB w be b) (hne : b ≠ be)
    (htab : TabBelow Tryz.prog B w "internal/strconv.uint64pow10" .u64 pow10Tab) :
    Calls Tryz.prog 36 #[.pointer (some ⟨be, 0, none⟩), .iface 3 (.int .i64 i)] w (Put B b (itoa i) w) := by
  have as1 := asIntBool
  have as2 := asIntInt
  have c0 := he.cell0
  obtain ⟨rest, hbk, hrest⟩ := he.head
  have hlen := itoa_length_le i h0 h1
  have hcall := strconv_appendInt_room B be 1 64 i _ 75 w.drew h0 h1 hbk (by simp; omega) (by omega) hbe (htab.on ((Below.refl B w).drew))
  have hready : ∀ w1, Laid w.drew be 75 (Value.iface 68 (selfP b) :: rest) 1 (itoa i) w1 → ReadyB B w.drew w1 be b (itoa i) := fun w1 hL =>
    ReadyB.of (w := w.drew) h hB hne rest hrest (by omega) hL
  have HC := Lib.hid hcall
  have HR := Lib.hid hready
  clear hcall hready hbk h he htab
  go_enter Tryz.func36, Tryz.ntmps36
  go_wp2_with fail
  go_region_dies
  · rename_i K hK
    refine HC.out.mono ?_
    rintro e w1 ⟨rfl, hL⟩
    have hr := HR.out w1 hL
    have r0 := hr.cell0
    have HX := Lib.hid (bld_write B b ⟨be, 1, none⟩ (itoa i) 64 (by omega) w1 (hr.fresh.bld hb) hr.size (Ne.symm hne) hr.cells)
    have HO := Lib.hid (((Only.refl _ w).drew.trans hr.only).below hB (fun k hk => by have hk' : k = be := hk; omega))
    refine hK _ _ ?_
    refine wpAny_ready (rs := [12]) (by kernel_rfl) (by simp) (AllReady.cons rfl (fun K2 KK => ?_) AllReady.nil)
    go_simp
    go_wp2_with fail
    refine HX.out.mono ?_
    rintro e w2 ⟨rfl, z1, z2⟩
    simp only []
    refine KK _ _ ?_
    refine wpAny_done (by kernel_rfl) ?_ _
    go_wp2
    go_end0
    exact ⟨rfl, z1, HO.out.trans z2⟩
  · rename_i K hK
    refine HC.out.mono ?_
    rintro e w1 ⟨rfl, hL⟩
    have hr := HR.out w1 hL
    have r0 := hr.cell0
    have HX := Lib.hid (bld_write B b ⟨be, 1, none⟩ (itoa i) 64 (by omega) w1 (hr.fresh.bld hb) hr.size (Ne.symm hne) hr.cells)
    have HO := Lib.hid (((Only.refl _ w).drew.trans hr.only).below hB (fun k hk => by have hk' : k = be := hk; omega))
    refine hK _ _ ?_
    refine wpAny_ready (rs := [3]) (by kernel_rfl) (by simp) (AllReady.cons rfl (fun K2 hK2 => ?_) AllReady.nil)
    go_simp
    refine hK2 _ _ ?_
    refine wpAny_ready (rs := [10]) (by kernel_rfl) (by simp) (AllReady.cons rfl (fun K3 hK3 => ?_) AllReady.nil)
    go_simp
    refine hK3 _ _ ?_
    refine wpAny_ready (rs := [11]) (by kernel_rfl) (by simp) (AllReady.cons rfl (fun K4 hK4 => ?_) AllReady.nil)
    go_simp
    refine hK4 _ _ ?_
    refine wpAny_ready (rs := [12]) (by kernel_rfl) (by simp) (AllReady.cons rfl (fun K5 KK => ?_) AllReady.nil)
    go_simp
    go_wp2_with fail
    refine HX.out.mono ?_
    rintro e w2 ⟨rfl, z1, z2⟩
    simp only []
    refine KK _ _ ?_
    refine wpAny_done (by kernel_rfl) ?_ _
    go_wp2
    go_end0
    exact ⟨rfl, z1, HO.out.trans z2⟩

/-- The world in which the encoder is called. -/
noncomputable def startB (w : World) : World :=
  (w.alloc (.cells #[.pointer none, .slice none 0 0] 70)).alloc
    (.cells (Tryz.zeroCells75.setIfInBounds 0 (.iface 68 (selfP w.heap.size))) 75)
theorem startB_below (w : World) : Below w.heap.size w (startB w) := by unfold startB; go_grown
theorem startB_size (w : World) : (startB w).heap.size = w.heap.size + 1 + 1 := by simp [startB, heap_push]
theorem startB_fresh (w : World) : Fresh (startB w) w.heap.size := by
  simp only [Fresh, startB, heap_push, Array.getElem?_push, Array.size_push]
  rw [if_neg (by omega), if_pos trivial]
theorem startB_enc (w : World) : EncB (startB w) (w.heap.size + 1) w.heap.size := by
  refine ⟨List.replicate 64 (.int .u8 0), ?_, by simp⟩
  have e := set_head _ (.iface 68 (selfP w.heap.size)) _ _ zero_enc
  simp only [startB, heap_push, Array.getElem?_push, e, Array.size_push]
  simp

set_option maxRecDepth 100000 in
set_option maxHeartbeats 800000 in
theorem jsonMarshal_of (v : Value) (full : List UInt8) (w : World)
    (henc : ∀ (w1 : World) (b be : Nat), Below w.heap.size w w1 → w.heap.size ≤ b → w.heap.size ≤ be → b ≠ be → Fresh w1 b → EncB w1 be b →
      Calls Tryz.prog 36 #[.pointer (some ⟨be, 0, none⟩), v] w1 (Put w.heap.size b full w1)) :
    Calls Tryz.prog 33 #[v] w (Says w full) := by
  have HE := Lib.hid (henc (startB w) w.heap.size (w.heap.size + 1) (startB_below w) (by omega) (by omega) (by omega) (startB_fresh w) (startB_enc w))
  have HB := Lib.hid (startB_below w)
  clear henc
  go_enter Tryz.func33, Tryz.ntmps33
  go_wp2_with fail
  change Calls _ _ _ (startB w) _
  refine HE.out.mono ?_
  rintro e w2 ⟨rfl, h1, hb1⟩
  have hb2 := HB.out.trans hb1
  have HS := Lib.hid (Tryz.Builder_String_any w.heap.size w.heap.size full w2 (Or.inr h1) hb2.size)
  have HB2 := Lib.hid hb2
  clear h1 hb1 hb2 HE
  go_wp2_with fail
  refine HS.out.mono ?_
  rintro e w3 ⟨rfl, hb3⟩
  go_wp2_with fail
  go_ret
  exact ⟨rfl, HB2.out.trans hb3⟩

theorem jm_nil (w : World) : Calls Tryz.prog 33 #[.nilIface] w (Says w sNull.data.toList) :=
  jsonMarshal_of .nilIface _ w fun w1 b be hb h1 h2 hne hf he => encodeB_nil w.heap.size b be w1 hf h1 hb.size he
theorem jm_bool (x : Bool) (w : World) : Calls Tryz.prog 33 #[.iface 4 (.bool x)] w (Says w (boolText x)) := by
  cases x
  · exact jsonMarshal_of _ _ w fun w1 b be hb h1 h2 hne hf he => encodeB_false w.heap.size b be w1 hf h1 hb.size he
  · exact jsonMarshal_of _ _ w fun w1 b be hb h1 h2 hne hf he => encodeB_true w.heap.size b be w1 hf h1 hb.size he
theorem jm_int (n : Int) (h0 : -9223372036854775808 ≤ n) (h1 : n ≤ 9223372036854775807) (w : World) (hT : Tabs w) : Calls Tryz.prog 33 #[.iface 3 (.int .i64 n)] w (Says w (itoa n)) :=
  jsonMarshal_of _ _ w fun w1 b be hb q1 q2 hne hf he => encodeB_int w.heap.size n w1 b be h0 h1 hf q1 q2 hb.size he hne ((tabBelow_of_tabIs hT.pow).on hb)

def errT : List UInt8 := [101, 114, 114, 111, 114, 58, 32]
set_option maxRecDepth 100000 in
set_option maxHeartbeats 800000 in
theorem exit_error (v : Value) (t : List UInt8) (hl : t.length ≤ 100) (as1 : ∀ w, (Instr.typeAssert v 20 9 true).run Tryz.prog w = .ok (.tuple #[.string ByteArray.empty, .bool false]) w)
    (hm : ∀ w, Tabs w → Calls Tryz.prog 33 #[v] w (Says w t)) (w : World) (hT : Tabs w) (b : Nat) (c0 : w.cell? ⟨b, 0, none⟩ = some v) :
    Calls Tryz.prog 31 #[.pointer (some ⟨b, 0, none⟩)] w (Says w (errT ++ t)) := by
  have HM := Lib.hid (hm w hT)
  have z1 : ¬ 9223372036854775807 < 7 + t.length := by omega
  clear hm hT
  go_enter Tryz.func31, Tryz.ntmps31
  go_wp2_with fail
  refine HM.out.mono ?_
  rintro e w1 ⟨rfl, hb1⟩
  go_wp2_with fail
  go_ret
  refine ⟨says_str ?_, hb1⟩
  simp [errT]
theorem asNilStr (w : World) : (Instr.typeAssert .nilIface 20 9 true).run Tryz.prog w = .ok (.tuple #[.string ByteArray.empty, .bool false]) w := by kernel_rfl
end Go.Proofs.YtcgpjijbnkgbcaaGreatFmt
