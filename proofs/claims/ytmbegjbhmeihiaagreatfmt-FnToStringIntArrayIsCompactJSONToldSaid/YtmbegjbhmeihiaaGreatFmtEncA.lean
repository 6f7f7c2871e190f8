/-
  (*encoder).encode over a strings.Builder that is written to many times: an int; an array of ints; jsonMarshal of it.
-/
import Derived.Test.YtmbegjbhmeihiaaGreatFmtBldR
import Derived.Test.YtmbegjbhmeihiaaGreatFmtSlc
import Derived.Test.YtmbegjbhmeihiaaGreatFmtAs
import Derived.Test.YtmbegjbhmeihiaaGreatFmtSays
import Derived.StillTailTactics
import Derived.RegionDies
namespace Go.Proofs.YtmbegjbhmeihiaaGreatFmt
set_option linter.unusedVariables false
set_option linter.unusedSimpArgs false
open Go.RowKit Go.Lib Go.Sort

/-- THE ENCODER at block be: it writes to the builder at block b. -/
structure EncB (w : World) (be b : Nat) : Prop where
  head : ∃ rest : List Value, w.heap[be]? = some (.cells (Value.iface 33 (selfP b) :: rest).toArray 40 (0, 0)) ∧ rest.length = 64
theorem EncB.cell0 {w : World} {be b : Nat} (h : EncB w be b) : w.cell? ⟨be, 0, none⟩ = some (.iface 33 (selfP b)) := by
  obtain ⟨rest, h1, h2⟩ := h.head
  rw [cell_whole h1]
  rfl

abbrev SER (R b be : Nat) : Nat → Prop := fun k => k = b ∨ k = be ∨ R ≤ k
theorem heap_some_lt {w : World} {b : Nat} {o : Obj} (h : w.heap[b]? = some o) : b < w.heap.size := (Array.getElem?_eq_some_iff.1 h).1
theorem BldR.only {S : Nat → Prop} {R b : Nat} {T : List UInt8} {w w' : World} (h : BldR R b T w) (hO : Only S w w') (hb : ¬ S b) (hr : ∀ k, R ≤ k → ¬ S k) : BldR R b T w' := by
  obtain ⟨h1, h2, p, v, hp, hh, hown⟩ := h
  refine ⟨h1, Nat.le_trans h2 hO.size, p, v, hp, (hO.block b (heap_some_lt hh) hb).trans hh, hown.1, ?_⟩
  rcases hown.2 with hn | ⟨g, cap, cur, hv, hR, hg, rest⟩
  · exact Or.inl hn
  · exact Or.inr ⟨g, cap, cur, hv, hR, (hO.block g (heap_some_lt hg) (hr g hR)).trans hg, rest⟩
theorem EncB.only {S : Nat → Prop} {w w' : World} {be b : Nat} (h : EncB w be b) (hO : Only S w w') (hn : ¬ S be) : EncB w' be b := by
  obtain ⟨rest, h1, h2⟩ := h.head
  exact ⟨rest, (hO.block be (heap_some_lt h1) hn).trans h1, h2⟩
theorem EncB.lt {w : World} {be b : Nat} (h : EncB w be b) : be < w.heap.size := by
  obtain ⟨rest, h1, h2⟩ := h.head
  exact heap_some_lt h1

/-- The numeral laid into the encoder's own buffer: what the write to the builder reads. -/
structure ReadyR (R : Nat) (w w1 : World) (be b : Nat) (T out : List UInt8) : Prop where
  only : Only (fun k => k = be) w w1
  bld : BldR R b T w1
  enc : EncB w1 be b
  cells : ∀ j v, (bc out)[j]? = some v → w1.cell? ((⟨be, 1, none⟩ : Addr).add j) = some v
theorem ReadyR.of {R : Nat} {w w1 : World} {be b : Nat} {T out : List UInt8} (h : BldR R b T w) (hbe : be < R) (hne : b ≠ be) (rest : List Value) (hr : rest.length = 64) (ho : out.length ≤ 64)
    (hL : Laid w be 40 (Value.iface 33 (selfP b) :: rest) 1 out w1) : ReadyR R w w1 be b T out := by
  refine ⟨hL.1, h.only hL.1 hne (fun k hk e => by omega), ⟨bc out ++ rest.drop out.length, ?_, ?_⟩, fun j v hj => ?_⟩
  · rw [hL.2]
    unfold splice
    simp [bc_length, Nat.add_comm 1]
  · simp [bc_length]
    omega
  · have hjl : j < (bc out).length := (List.getElem?_eq_some_iff.1 hj).1
    rw [add_plain, cell_whole hL.2]
    unfold splice
    rw [List.getElem?_append_right (by simp)]
    simp only [List.length_take, List.length_cons]
    rw [show 1 + j - min 1 (rest.length + 1) = j by omega, List.getElem?_append_left hjl]
    exact hj

/-- What encode leaves of the builder and of the encoder. -/
def PutR (R b be : Nat) (full : List UInt8) (w : World) (e : Ending) (w' : World) : Prop := e = .returned (.tuple #[]) ∧ BldR R b full w' ∧ EncB w' be b ∧ Only (SER R b be) w w'

set_option maxRecDepth 100000 in
set_option maxHeartbeats 800000 in
theorem encodeR_int (B R : Nat) (i : Int) (w : World) (b be : Nat) (T : List UInt8) (hT : T.length ≤ 1048576) (h0 : -9223372036854775808 ≤ i) (h1 : i ≤ 9223372036854775807) (h : BldR R b T w) (hbe : B ≤ be) (hbeR : be < R) (he : EncB w be b) (hne : b ≠ be)
    (htab : TabBelow Tryz.prog B w "internal/strconv.uint64pow10" .u64 pow10Tab) :
    Calls Tryz.prog 10 #[.pointer (some ⟨be, 0, none⟩), .iface 3 (.int .i64 i)] w (PutR R b be (T ++ itoa i) w) := by
  have as1 := asIntBool
  have as2 := asIntInt
  have c0 := he.cell0
  have hBw : B ≤ w.heap.size := by have := he.lt; omega
  obtain ⟨rest, hbk, hrest⟩ := he.head
  have hlen := itoa_length_le i h0 h1
  have hcall := strconv_appendInt_room B be 1 64 i _ 40 w.drew h0 h1 hbk (by simp; omega) (by omega) hbe (htab.on ((Below.refl B w).drew))
  have hready : ∀ w1, Laid w.drew be 40 (Value.iface 33 (selfP b) :: rest) 1 (itoa i) w1 → ReadyR R w.drew w1 be b T (itoa i) := fun w1 hL =>
    ReadyR.of (w := w.drew) h hbeR hne rest hrest (by omega) hL
  have HC := Lib.hid hcall
  have HR := Lib.hid hready
  clear hcall hready hbk h he htab
  go_enter Tryz.func10, Tryz.ntmps10
  go_wp2_with fail
  go_region_dies
  · rename_i K hK
    refine HC.out.mono ?_
    rintro e w1 ⟨rfl, hL⟩
    have hr := HR.out w1 hL
    have r0 := hr.enc.cell0
    have HX := Lib.hid (bldR_write R b T (itoa i) ⟨be, 1, none⟩ 64 hT (by omega) w1 hr.bld hbeR (Ne.symm hne) hr.cells)
    have HO := Lib.hid ((Only.refl _ w).drew.trans hr.only)
    have HE := Lib.hid hr.enc
    refine hK _ _ ?_
    refine wpAny_ready (rs := [12]) (by kernel_rfl) (by simp) (AllReady.cons rfl (fun K2 KK => ?_) AllReady.nil)
    go_simp
    go_wp2_with fail
    refine HX.out.mono ?_
    rintro e w2 ⟨rfl, z1, z2⟩
    simp only []
    refine KK _ _ ?_
    refine wpAny_done (by kernel_rfl) ?_ _
    go_wp2
    go_end0
    exact ⟨rfl, z1, HE.out.only z2 (fun hk => by rcases hk with hk | hk <;> omega), (HO.out.mono (fun k hk => Or.inr (Or.inl hk))).trans (z2.mono (fun k hk => hk.elim Or.inl (fun h => Or.inr (Or.inr h))))⟩
  · rename_i K hK
    refine HC.out.mono ?_
    rintro e w1 ⟨rfl, hL⟩
    have hr := HR.out w1 hL
    have r0 := hr.enc.cell0
    have HX := Lib.hid (bldR_write R b T (itoa i) ⟨be, 1, none⟩ 64 hT (by omega) w1 hr.bld hbeR (Ne.symm hne) hr.cells)
    have HO := Lib.hid ((Only.refl _ w).drew.trans hr.only)
    have HE := Lib.hid hr.enc
    refine hK _ _ ?_
    refine wpAny_ready (rs := [3]) (by kernel_rfl) (by simp) (AllReady.cons rfl (fun K2 hK2 => ?_) AllReady.nil)
    go_simp
    refine hK2 _ _ ?_
    refine wpAny_ready (rs := [10]) (by kernel_rfl) (by simp) (AllReady.cons rfl (fun K3 hK3 => ?_) AllReady.nil)
    go_simp
    refine hK3 _ _ ?_
    refine wpAny_ready (rs := [11]) (by kernel_rfl) (by simp) (AllReady.cons rfl (fun K4 hK4 => ?_) AllReady.nil)
    go_simp
    refine hK4 _ _ ?_
    refine wpAny_ready (rs := [12]) (by kernel_rfl) (by simp) (AllReady.cons rfl (fun K5 KK => ?_) AllReady.nil)
    go_simp
    go_wp2_with fail
    refine HX.out.mono ?_
    rintro e w2 ⟨rfl, z1, z2⟩
    simp only []
    refine KK _ _ ?_
    refine wpAny_done (by kernel_rfl) ?_ _
    go_wp2
    go_end0
    exact ⟨rfl, z1, HE.out.only z2 (fun hk => by rcases hk with hk | hk <;> omega), (HO.out.mono (fun k hk => Or.inr (Or.inl hk))).trans (z2.mono (fun k hk => hk.elim Or.inl (fun h => Or.inr (Or.inr h))))⟩
end Go.Proofs.YtmbegjbhmeihiaaGreatFmt
