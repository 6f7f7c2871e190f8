/-
  jsonMarshal, tostring and the laws' own door to it at an array of ints, walked.
-/
import Derived.Test.YtmbegjbhmeihiaaGreatFmtEncL
import Derived.Test.YtmbegjbhmeihiaaGreatFmtShelf
namespace Go.Proofs.YtmbegjbhmeihiaaGreatFmt
set_option linter.unusedVariables false
set_option linter.unusedSimpArgs false
open Go.RowKit Go.Lib Go.Sort

theorem asArrBool (v : Value) (w : World) : (Instr.typeAssert (.iface 30 v) 20 4 true).run Tryz.prog w = .ok (.tuple #[.bool false, .bool false]) w := by kernel_rfl
theorem asArrInt (v : Value) (w : World) : (Instr.typeAssert (.iface 30 v) 20 3 true).run Tryz.prog w = .ok (.tuple #[.int .i64 0, .bool false]) w := by kernel_rfl
theorem asArrFloat (v : Value) (w : World) : (Instr.typeAssert (.iface 30 v) 20 49 true).run Tryz.prog w = .ok (.tuple #[.float .f64 0, .bool false]) w := by kernel_rfl
theorem asArrBig (v : Value) (w : World) : (Instr.typeAssert (.iface 30 v) 20 51 true).run Tryz.prog w = .ok (.tuple #[.pointer none, .bool false]) w := by kernel_rfl
theorem asArrNum (v : Value) (w : World) : (Instr.typeAssert (.iface 30 v) 20 52 true).run Tryz.prog w = .ok (.tuple #[.string ByteArray.empty, .bool false]) w := by kernel_rfl
theorem asArrStr (v : Value) (w : World) : (Instr.typeAssert (.iface 30 v) 20 9 true).run Tryz.prog w = .ok (.tuple #[.string ByteArray.empty, .bool false]) w := by kernel_rfl
theorem asArrArrC (v : Value) (w : World) : (Instr.typeAssert (.iface 30 v) 20 30 true).run Tryz.prog w = .ok (.tuple #[v, .bool true]) w := by kernel_rfl
theorem asStrStrC (v : Value) (w : World) : (Instr.typeAssert (.iface 9 v) 20 9 true).run Tryz.prog w = .ok (.tuple #[v, .bool true]) w := by kernel_rfl

def arrText (zs : List Int) : List UInt8 := [91] ++ joinTo zs zs.length ++ [93]
theorem heap_push (w : World) (o : Obj) : (w.alloc o).heap = w.heap.push o := rfl
theorem set_head (zc : Array Value) (x a : Value) (l : List Value) (h : zc.toList = a :: l) : zc.setIfInBounds 0 x = (x :: l).toArray := by
  apply Array.toList_inj.1
  rw [Array.toList_setIfInBounds, h]
  rfl
theorem zero_enc : Tryz.zeroCells40.toList = .nilIface :: List.replicate 64 (.int .u8 0) := by kernel_rfl
/-- The world in which the encoder is called. -/
noncomputable def startB (w : World) : World :=
  (w.alloc (.cells #[.pointer none, .slice none 0 0] 35)).alloc
    (.cells (Tryz.zeroCells40.setIfInBounds 0 (.iface 33 (selfP w.heap.size))) 40)
theorem startB_below (w : World) : Below w.heap.size w (startB w) := by unfold startB; go_grown
theorem startB_size (w : World) : (startB w).heap.size = w.heap.size + 2 := by simp [startB, heap_push]
theorem startB_bld (w : World) : BldR (w.heap.size + 2) w.heap.size [] (startB w) := by
  refine ⟨by omega, by rw [startB_size]; exact Nat.le_refl _, .pointer none, .slice none 0 0, Or.inl rfl, ?_, World.ownsRow_nil _ _ _ _⟩
  simp only [startB, heap_push, Array.getElem?_push, Array.size_push]
  rw [if_neg (by omega), if_pos trivial]
theorem startB_enc (w : World) : EncB (startB w) (w.heap.size + 1) w.heap.size := by
  refine ⟨List.replicate 64 (.int .u8 0), ?_, by simp⟩
  have e := set_head _ (.iface 33 (selfP w.heap.size)) _ _ zero_enc
  simp only [startB, heap_push, Array.getElem?_push, e, Array.size_push]
  simp

set_option maxRecDepth 100000 in
set_option maxHeartbeats 800000 in
theorem encode_arr (B R : Nat) (zs : List Int) (n c : Nat) (a : Option Addr) (hl : zs.length = n) (hn : n ≤ 32768) (hz : ∀ z ∈ zs, -9223372036854775808 ≤ z ∧ z ≤ 9223372036854775807) (w : World) (b be : Nat)
    (h : BldR R b [] w) (hb : B ≤ b) (hbe : B ≤ be) (hbR : b < R) (hbeR : be < R) (he : EncB w be b) (hne : b ≠ be) (hA : 0 < n → ∃ b0 o, a = some ⟨b0, o, none⟩ ∧ b0 < B ∧ ∀ j u, (anyInts zs)[j]? = some u → w.cell? ⟨b0, o + j, none⟩ = some u)
    (htab : TabBelow Tryz.prog B w "internal/strconv.uint64pow10" .u64 pow10Tab) :
    Calls Tryz.prog 10 #[.pointer (some ⟨be, 0, none⟩), .iface 30 (.slice a n c)] w (PutR R b be (arrText zs) w) := by
  have HC := Lib.hid (encodeArr B R zs n c a hl hn hz w b be h hb hbe hbR hbeR he hne hA htab)
  have as1 := asArrBool
  have as2 := asArrInt
  have as3 := asArrFloat
  have as4 := asArrBig
  have as5 := asArrNum
  have as6 := asArrStr
  have as7 := asArrArrC
  unfold arrText
  rw [hl]
  clear h he hA htab hz hl
  go_enter Tryz.func10, Tryz.ntmps10
  go_wp2_with fail
  refine HC.out.mono ?_
  rintro e w1 ⟨rfl, h1, h2, h3⟩
  have H1 := Lib.hid h1
  have H2 := Lib.hid h2
  have H3 := Lib.hid h3
  clear h1 h2 h3
  go_wp2_with fail
  go_end0
  exact ⟨rfl, H1.out, H2.out, H3.out⟩

set_option maxRecDepth 100000 in
set_option maxHeartbeats 800000 in
theorem jm_arr (zs : List Int) (n c : Nat) (a : Option Addr) (hl : zs.length = n) (hn : n ≤ 32768) (hz : ∀ z ∈ zs, -9223372036854775808 ≤ z ∧ z ≤ 9223372036854775807) (w : World) (hT : Tabs w)
    (hA : 0 < n → ∃ b0 o, a = some ⟨b0, o, none⟩ ∧ b0 < w.heap.size ∧ ∀ j u, (anyInts zs)[j]? = some u → w.cell? ⟨b0, o + j, none⟩ = some u) :
    Calls Tryz.prog 9 #[.iface 30 (.slice a n c)] w (Says w (arrText zs)) := by
  have HB := Lib.hid (startB_below w)
  have HE := Lib.hid (encode_arr w.heap.size (w.heap.size + 2) zs n c a hl hn hz (startB w) w.heap.size (w.heap.size + 1) (startB_bld w) (Nat.le_refl _) (by omega) (by omega) (by omega) (startB_enc w) (by omega)
    (fun h0 => by
      obtain ⟨b0, o, h1, h2, h3⟩ := hA h0
      exact ⟨b0, o, h1, h2, fun j u hj => (HB.out.cell (p := ⟨b0, o + j, none⟩) h2).trans (h3 j u hj)⟩)
    ((tabBelow_of_tabIs hT.pow).on HB.out))
  clear hA hT hz hl
  go_enter Tryz.func9, Tryz.ntmps9
  go_wp2_with fail
  change Calls _ _ _ (startB w) _
  refine HE.out.mono ?_
  rintro e w2 ⟨rfl, h1, _, h3⟩
  have hb2 := HB.out.trans (h3.below HB.out.size (fun q hq => by
    have := ser_ge (B := w.heap.size) (Nat.le_refl _) (by omega) (by omega) hq
    exact this))
  have hbld : Lib.IsBuilder 35 5 w.heap.size w.heap.size (bc (arrText zs)) w2 := by
    obtain ⟨q1, q2, p, v, hp, hh, hown⟩ := h1
    have hne : v.ownBlock ≠ some w.heap.size := fun e => by
      have := (hown.lt _ e).1
      omega
    have ho := hown.mono (base' := w.heap.size) (by omega)
    rw [← bc_length] at ho
    rcases hp with rfl | rfl
    · exact Or.inl ⟨Nat.le_refl _, v, hh, ho, hne⟩
    · exact Or.inr ⟨Nat.le_refl _, v, hh, ho, hne⟩
  have HS := Lib.hid (Tryz.Builder_String_any w.heap.size w.heap.size (arrText zs) w2 hbld hb2.size)
  have HB2 := Lib.hid hb2
  clear h1 h3 hb2 HE hbld
  go_wp2_with fail
  refine HS.out.mono ?_
  rintro e w3 ⟨rfl, hb3⟩
  go_wp2_with fail
  go_ret
  exact ⟨rfl, HB2.out.trans hb3⟩
end Go.Proofs.YtmbegjbhmeihiaaGreatFmt
