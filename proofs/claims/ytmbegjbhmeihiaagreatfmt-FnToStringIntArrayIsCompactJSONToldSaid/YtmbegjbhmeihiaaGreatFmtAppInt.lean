/-
  strconv.AppendInt at base 10 onto a slice with room for the numeral: the numeral stands behind what was there; no other old block has turned.
-/
import Derived.Test.YtmbegjbhmeihiaaGreatFmtAid
import Derived.Test.YtmbegjbhmeihiaaGreatFmtProg
import Derived.Handy
import Derived.Lib.Hide
import Derived.Lib.BoundsPanic
import Derived.WalkLawsBesides
import Derived.Test.YtmbegjbhmeihiaaGreatFmtNum
import Derived.Test.YtmbegjbhmeihiaaGreatFmtShelf
import Derived.Lib.ItoaWalk
import Derived.Lib.ItoaMem
import Derived.Lib.AppendIntMem
import Derived.OwnWalk
import Derived.BigCall
import Derived.BigGuard
namespace Go.Proofs.YtmbegjbhmeihiaaGreatFmt
set_option linter.unusedVariables false
set_option linter.unusedSimpArgs false
open Go.RowKit Go.Lib Go.Sort

theorem u8info : (Tryz.prog.info? 5).map (·.size) = some 1 := by kernel_rfl

theorem row_cells {w : World} {b : Nat} {cur : List Value} {t : TypeId} (hb : w.heap[b]? = some (.cells cur.toArray t (0, 0))) (o k : Nat) (h : o + k ≤ cur.length) : ∀ j, j < k → (w.cell? ⟨b, o + j, none⟩).isSome = true := by
  intro j hj
  rw [cell_whole hb]
  simp
  omega
theorem row_free {w : World} {b : Nat} {cur : List Value} {t : TypeId} (hb : w.heap[b]? = some (.cells cur.toArray t (0, 0))) (o k : Nat) : ∀ j, j < k → w.frozen? ⟨b, o + j, none⟩ = false := fun j _ => free_whole hb _

theorem decDigits_ba (u : Nat) : (⟨(decDigits u).toArray⟩ : ByteArray).size = (decDigits u).length := by simp [ByteArray.size]

theorem splice_splice (cur a b : List Value) (o : Nat) (h : o + a.length + b.length ≤ cur.length) : splice (splice cur o a) (o + a.length) b = splice cur o (a ++ b) := by
  have l1 : (cur.take o ++ a).length = o + a.length := by simp; omega
  unfold splice
  rw [← List.append_assoc (cur.take o) a, ← l1, List.take_left', List.drop_append, List.drop_eq_nil_of_le (by omega), List.nil_append, List.drop_drop, l1, List.append_assoc, List.append_assoc]
  · congr 4
    simp only [List.length_append]
    omega
  · rfl

/-- What an append of bytes with room leaves. -/
def Laid (w : World) (be : Nat) (t : TypeId) (cur : List Value) (at_ : Nat) (out : List UInt8) (w' : World) : Prop :=
  Only (fun k => k = be) w w' ∧ w'.heap[be]? = some (.cells (splice cur at_ (bc out)).toArray t (0, 0))

theorem Laid.of {w : World} {be : Nat} {t : TypeId} {cur : List Value} (hb : w.heap[be]? = some (.cells cur.toArray t (0, 0))) (at_ : Nat) (out : List UInt8) (h : at_ + out.length ≤ cur.length) : Laid w be t cur at_ out (w.setCells be at_ (bc out)) :=
  ⟨Only.setCells (S := fun k => k = be) (Only.refl _ w) rfl _ _, heap_setCells be t (0, 0) _ _ _ _ hb (by rw [bc_length]; exact h)⟩

set_option maxRecDepth 100000 in
set_option maxHeartbeats 800000 in
theorem appendUint_small (be o n0 c u : Nat) (cur : List Value) (t : TypeId) (w : World) (hu : u < 100) (hb : w.heap[be]? = some (.cells cur.toArray t (0, 0))) (hl : o + c ≤ cur.length) (hr : n0 + 20 ≤ c) :
    Calls Tryz.prog 28 #[.slice (some ⟨be, o, none⟩) n0 c, .int .u64 u, .int .i64 10] w fun e w' =>
      e = .returned (.slice (some ⟨be, o, none⟩) (n0 + (decDigits u).length) c) ∧ Laid w be t cur (o + n0) (decDigits u) w' := by
  obtain ⟨i, hi, hsz⟩ := Option.map_eq_some_iff.1 u8info
  have hlen := decDigits_length_le u (by omega)
  have hba := decDigits_ba u
  have c1 := row_cells hb (o + n0) (decDigits u).length (by omega)
  have c2 := row_free hb (o + n0) (decDigits u).length
  have hL := Laid.of hb (o + n0) (decDigits u) (by omega)
  have C1 := Lib.hid c1
  have C2 := Lib.hid c2
  have HL := Lib.hid hL
  clear c1 c2 hL
  go_enter Tryz.func28, Tryz.ntmps28
  go_wp2_with (first
    | (go_at_call 47; refine (Tryz.internal_strconv_small u hu _).mono ?_; rintro e w' ⟨rfl, rfl⟩)
    | (at_builtin; refine wpList_append_room_string rfl _ _ 24 9 rfl 5 i Tryz.underlying24 Tryz.underlying9 hi hsz be o n0 c ⟨(decDigits u).toArray⟩ rfl rfl (by rw [hba]; omega) (by rw [hba]; exact C1.out) (by rw [hba]; exact C2.out) ?_))
  go_ret
  exact ⟨rfl, HL.out⟩

set_option maxRecDepth 100000 in
set_option maxHeartbeats 1600000 in
theorem appendUint_big (be o n0 c u : Nat) (cur : List Value) (t : TypeId) (w : World) (hu : 100 ≤ u) (hu64 : u < 18446744073709551616) (hb : w.heap[be]? = some (.cells cur.toArray t (0, 0))) (hl : o + c ≤ cur.length) (hr : n0 + 20 ≤ c)
    (htab : TabIs Tryz.prog w "internal/strconv.uint64pow10" .u64 pow10Tab) :
    Calls Tryz.prog 28 #[.slice (some ⟨be, o, none⟩) n0 c, .int .u64 u, .int .i64 10] w fun e w' =>
      e = .returned (.slice (some ⟨be, o, none⟩) (n0 + (decDigits u).length) c) ∧ Laid w be t cur (o + n0) (decDigits u) w' := by
  obtain ⟨i, hi, hsz⟩ := Option.map_eq_some_iff.1 u8info
  have hlen := decDigits_length_le u hu64
  have hbe : be < w.heap.size := by
    rcases Nat.lt_or_ge be w.heap.size with h | h
    · exact h
    · rw [Array.getElem?_eq_none h] at hb; cases hb
  have hu1 : 1 ≤ u := by omega
  have hnd20 : nDigits u ≤ 20 := by have := numDigits_eq u hu1 hu64; split at this <;> omega
  have hal : Tryz.prog.arrayLen 29 = 24 := by simp [Program.arrayLen, Tryz.underlying29]
  have hsl : ∀ W, (Instr.sliceAt 29 (.pointer (some ⟨w.heap.size, 0, none⟩)) none (some (.int .i64 (nDigits u : Int))) none).run Tryz.prog W = .ok (.slice (some ⟨w.heap.size, 0, none⟩) (nDigits u) 24) W := fun W => by
    rw [run_sliceAt_array_h W 29 ⟨w.heap.size, 0, none⟩ (by simp [Program.arrayLen, Program.elem, Tryz.underlying29]) .i64 (nDigits u : Int) (by omega) (by rw [hal]; omega)]
    go_simp
  have hH0 := holds_zero0 w 29 (nDigits u) (by omega)
  have hfmt := Tryz.internal_strconv_formatBase10 w.heap.size 0 24 u (Array.replicate (nDigits u) 0) (w.alloc (.cells zeros24 29)) hH0 (by rw [Array.size_replicate]; exact lt_pow_nDigits u) hu64 (by rw [Array.size_replicate]; omega)
  rw [Array.size_replicate] at hfmt
  have HH0 := Lib.hid hH0
  have iu : (100 : Int) ≤ (u : Int) := by omega
  have HB := Lib.hid hb
  clear hH0 hal hb
  go_enter Tryz.func28, Tryz.ntmps28
  go_wp2_with (first
    | (go_at_call 48; refine (Tryz.internal_strconv_numDigits u hu1 hu64 _ (tabIs_alloc htab _)).mono ?_; rintro e w' ⟨rfl, rfl⟩))
  go_at_call 49
  refine hfmt.mono ?_
  rintro e w' ⟨rfl, k, v', dk, rfl, hF⟩
  have hcells : ∀ j u', (bc (decDigits u))[j]? = some u' → ((putRow (fun (b : UInt8) => Value.int .u8 (b.toNat : Int)) (w.alloc (.cells zeros24 29)) w.heap.size 0 dk).drewN k).cell? ((⟨w.heap.size, 0, none⟩ : Addr).add j) = some u' := by
    intro j u' hj
    have hjl : j < (decDigits u).length := by
      have h5 := (List.getElem?_eq_some_iff.1 hj).1
      rwa [bc_length] at h5
    have e5 := bc_get (decDigits u) j hjl
    rw [e5] at hj
    cases hj
    rw [row_is_numeral hF j hjl, add_plain, World.cell?_drewN]
    exact cell?_putRow (fun (b : UInt8) => Value.int .u8 (b.toNat : Int)) _ w.heap.size 0 _ dk HH0.out (by rw [hF.size, Array.size_replicate]) j (by rw [hF.size]; rw [decDigits_length] at hjl; exact hjl)
  obtain ⟨os, eo⟩ := fin_at w (.cells zeros24 29) dk k 0
  have hnx2 : Below w.heap.size w ((putRow (fun (b : UInt8) => Value.int .u8 (b.toNat : Int)) (w.alloc (.cells zeros24 29)) w.heap.size 0 dk).drewN k) := by rw [eo]; exact below_grow w.heap.size w (Nat.le_refl _) k os
  generalize (putRow (fun (b : UInt8) => Value.int .u8 (b.toNat : Int)) (w.alloc (.cells zeros24 29)) w.heap.size 0 dk).drewN k = W2 at hcells hnx2 ⊢
  clear eo HH0 hfmt
  have hb2 : W2.heap[be]? = some (.cells cur.toArray t (0, 0)) := by rw [hnx2.block be hbe]; exact HB.out
  have HL := Lib.hid (Laid.of hb2 (o + n0) (decDigits u) (by omega))
  have C1 := Lib.hid (row_cells hb2 (o + n0) (decDigits u).length (by omega))
  have C2 := Lib.hid (row_free hb2 (o + n0) (decDigits u).length)
  have HX := Lib.hid hnx2
  clear hb2 hnx2 HB
  go_wp2_with (at_builtin; refine wpList_append_room_cells rfl _ _ 24 rfl 5 i Tryz.underlying24 hi hsz be o n0 c ⟨w.heap.size, 0, none⟩ (nDigits u) 24 (bc (decDigits u)) rfl rfl ?c0 hcells ?c2 ?c3 ?c4 ?c5 ?_)
  case c0 => rw [bc_length, decDigits_length]
  case c2 => exact bc_one _
  case c3 => rw [← decDigits_length]; omega
  case c4 => rw [bc_length]; exact C1.out
  case c5 => rw [bc_length]; exact C2.out
  go_wp2
  go_ret
  refine ⟨?_, (Only.ofBelow HX.out).trans HL.out.1, HL.out.2⟩
  rw [decDigits_length]
  rfl

theorem appendUint_room (be o n0 c u : Nat) (cur : List Value) (t : TypeId) (w : World) (hu64 : u < 18446744073709551616) (hb : w.heap[be]? = some (.cells cur.toArray t (0, 0))) (hl : o + c ≤ cur.length) (hr : n0 + 20 ≤ c)
    (htab : TabIs Tryz.prog w "internal/strconv.uint64pow10" .u64 pow10Tab) :
    Calls Tryz.prog 28 #[.slice (some ⟨be, o, none⟩) n0 c, .int .u64 u, .int .i64 10] w fun e w' =>
      e = .returned (.slice (some ⟨be, o, none⟩) (n0 + (decDigits u).length) c) ∧ Laid w be t cur (o + n0) (decDigits u) w' := by
  by_cases h : u < 100
  · exact appendUint_small be o n0 c u cur t w h hb hl hr
  · exact appendUint_big be o n0 c u cur t w (by omega) hu64 hb hl hr htab

set_option maxRecDepth 100000 in
set_option maxHeartbeats 1600000 in
theorem appendInt_room (B be o c : Nat) (i : Int) (cur : List Value) (t : TypeId) (w : World) (h0 : -9223372036854775808 ≤ i) (h1 : i ≤ 9223372036854775807) (hb : w.heap[be]? = some (.cells cur.toArray t (0, 0))) (hl : o + c ≤ cur.length) (hr : 21 ≤ c)
    (hB : B ≤ be) (htab : TabBelow Tryz.prog B w "internal/strconv.uint64pow10" .u64 pow10Tab) :
    Calls Tryz.prog 20 #[.slice (some ⟨be, o, none⟩) 0 c, .int .i64 i, .int .i64 10] w fun e w' =>
      e = .returned (.slice (some ⟨be, o, none⟩) (itoa i).length c) ∧ Laid w be t cur o (itoa i) w' := by
  have hbe : be < w.heap.size := by
    rcases Nat.lt_or_ge be w.heap.size with h | h
    · exact h
    · rw [Array.getElem?_eq_none h] at hb; cases hb
  by_cases hneg : i < 0
  · obtain ⟨u, rfl⟩ : ∃ u : Nat, i = -(u : Int) := ⟨i.natAbs, by omega⟩
    have hu1 : 1 ≤ u := by omega
    have hu64 : u < 18446744073709551616 := by omega
    have hwr : IntKind.u64.wrap (-IntKind.u64.wrap (-(u : Int))) = (u : Int) := by rw [IntKind.wrap_u64, IntKind.wrap_u64]; omega
    obtain ⟨ii, hi, hsz⟩ := Option.map_eq_some_iff.1 u8info
    have hlen := decDigits_length_le u hu64
    rw [itoa_neg u hu1]
    have hbA : (w.alloc (.cells #[Value.int .u8 45] 5)).heap[be]? = some (.cells cur.toArray t (0, 0)) := by rw [Below.heap_alloc _ _ _ hbe]; exact hb
    have HL := Lib.hid (Laid.of hbA o [45] (by simp; omega))
    have C1 := Lib.hid (row_cells hbA o 1 (by omega))
    have C2 := Lib.hid (row_free hbA o 1)
    clear hb hbA
    go_enter Tryz.func20, Tryz.ntmps20
    go_wp2_with (at_builtin; refine wpList_append_room_cells rfl _ _ 24 rfl 5 ii Tryz.underlying24 hi hsz be o 0 c ⟨w.heap.size, 0, none⟩ 1 1 [Value.int .u8 45] rfl rfl rfl (by intro j u' hj; match j, hj with | 0, hj => simp at hj; subst hj; simp [Addr.add]) (by intro u' hu'; simp at hu'; subst hu'; rfl) (by omega) C1.out C2.out ?_)
    have hL1 := HL.out
    rw [show bc [45] = [Value.int .u8 45] from rfl] at hL1
    generalize (w.alloc (.cells #[Value.int .u8 45] 5)).setCells be o [Value.int .u8 45] = w1 at hL1 ⊢
    have hO : Only (fun k => k = be) w w1 := ((Only.refl _ w).alloc _).trans hL1.1
    have htab1 : TabIs Tryz.prog w1 "internal/strconv.uint64pow10" .u64 pow10Tab := htab w1 (hO.below (by omega) (fun k hk => by omega))
    have hw1 := hL1.2
    have HU := Lib.hid (appendUint_room be o 1 c u _ t w1 hu64 hw1 (by unfold splice; simp [bc]; omega) (by omega) htab1)
    have HO := Lib.hid hO
    clear hL1 hw1 htab1 hO HL C1 C2
    go_wp2_with (go_at_call 28; refine HU.out.mono ?_; rintro e w2 ⟨rfl, hL⟩)
    go_wp2
    go_ret
    refine ⟨?_, HO.out.trans hL.1, ?_⟩
    · rw [Nat.add_comm 1]
      rfl
    · rw [hL.2]
      have := splice_splice cur (bc [45]) (bc (decDigits u)) o (by simp only [bc_length, List.length_singleton]; omega)
      rw [bc_length, List.length_singleton, ← bc_append] at this
      rw [this]
      rfl
  · obtain ⟨u, rfl⟩ : ∃ u : Nat, i = u := ⟨i.toNat, by omega⟩
    have hu64 : u < 18446744073709551616 := by omega
    rw [itoa_nonneg]
    have HB := Lib.hid hb
    clear hb
    go_enter Tryz.func20, Tryz.ntmps20
    go_wp2_with (go_at_call 28; refine (appendUint_room be o 0 c u cur t w hu64 HB.out hl (by omega) htab.here).mono ?_; rintro e w2 ⟨rfl, hL⟩)
    go_wp2
    go_ret
    exact ⟨rfl, hL⟩

set_option maxRecDepth 100000 in
set_option maxHeartbeats 400000 in
theorem strconv_appendInt_room (B be o c : Nat) (i : Int) (cur : List Value) (t : TypeId) (w : World) (h0 : -9223372036854775808 ≤ i) (h1 : i ≤ 9223372036854775807) (hb : w.heap[be]? = some (.cells cur.toArray t (0, 0))) (hl : o + c ≤ cur.length) (hr : 21 ≤ c)
    (hB : B ≤ be) (htab : TabBelow Tryz.prog B w "internal/strconv.uint64pow10" .u64 pow10Tab) :
    Calls Tryz.prog 12 #[.slice (some ⟨be, o, none⟩) 0 c, .int .i64 i, .int .i64 10] w fun e w' =>
      e = .returned (.slice (some ⟨be, o, none⟩) (itoa i).length c) ∧ Laid w be t cur o (itoa i) w' := by
  have HB := Lib.hid hb
  clear hb
  go_enter Tryz.func12, Tryz.ntmps12
  go_wp2_with (go_at_call 20; refine (appendInt_room B be o c i cur t w h0 h1 HB.out hl hr hB htab).mono ?_; rintro e w2 ⟨rfl, hL⟩)
  go_wp2
  go_ret
  exact ⟨rfl, hL⟩
end Go.Proofs.YtmbegjbhmeihiaaGreatFmt
