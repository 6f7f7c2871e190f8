/-
  The limited writer's four methods: what each leaves of the two blocks that it lives in.
-/
import Derived.Test.YtcajagjgbalakaaGreatFmtProg
import Derived.Test.YtcajagjgbalakaaGreatFmtAid
import Derived.Handy
import Derived.Lib.Hide
import Derived.Lib.BoundsPanic
import Derived.WalkLawsBesides
namespace Go.Proofs.YtcajagjgbalakaaGreatFmt
set_option linter.unusedVariables false
set_option linter.unusedSimpArgs false
open Go.RowKit

theorem u8info : (Tryz.prog.info? 5).map (·.size) = some 1 := by kernel_rfl

/-- THE WRITER: block bw: its struct; block bb: its buffer of n bytes, of which the first are T. -/
structure LW (w : World) (bw bb n : Nat) (T : List UInt8) : Prop where
  head : w.heap[bw]? = some (.cells #[.slice (some ⟨bb, 0, none⟩) n n, .int .i64 (T.length : Int)] 37 (0, 0))
  buf : ∃ cur : List Value, w.heap[bb]? = some (.cells cur.toArray 5 (0, 0)) ∧ cur.length = n ∧ cur.take T.length = bc T
  le : T.length ≤ n
  ne : bw ≠ bb

theorem LW.cell0 {w : World} {bw bb n : Nat} {T : List UInt8} (h : LW w bw bb n T) : w.cell? ⟨bw, 0, none⟩ = some (.slice (some ⟨bb, 0, none⟩) n n) := by simp [World.cell?, h.head]
theorem LW.cell1 {w : World} {bw bb n : Nat} {T : List UInt8} (h : LW w bw bb n T) : w.cell? ⟨bw, 1, none⟩ = some (.int .i64 (T.length : Int)) := by simp [World.cell?, h.head]
theorem LW.free {w : World} {bw bb n : Nat} {T : List UInt8} (h : LW w bw bb n T) (j : Nat) : w.frozen? ⟨bw, j, none⟩ = false := by simp [World.frozen?, h.head]


theorem LW.bcell {w : World} {bw bb n : Nat} {T : List UInt8} (h : LW w bw bb n T) (j : Nat) (hj : j < n) : ∃ x, w.cell? ⟨bb, j, none⟩ = some x := by
  obtain ⟨cur, h1, h2, h3⟩ := h.buf
  rw [cell_whole h1]
  exact ⟨cur[j]'(by omega), by simp⟩
theorem LW.bfree {w : World} {bw bb n : Nat} {T : List UInt8} (h : LW w bw bb n T) (j : Nat) : w.frozen? ⟨bb, j, none⟩ = false := by
  obtain ⟨cur, h1, h2, h3⟩ := h.buf
  exact free_whole h1 j


/-- What a write of 'out' behind 'T' leaves, as an ending: v is what the method hands back if the buffer isn't full behind it. -/
def Wrote (S : Nat → Prop) (w : World) (bw bb n : Nat) (full : List UInt8) (v : Value) (e : Ending) (w' : World) : Prop :=
  Only S w w' ∧ ((full.length < n ∧ e = .returned v ∧ LW w' bw bb n full) ∨ (n ≤ full.length ∧ (∃ u pv, e = .panicked [{ v := .iface u pv, recovered := false }]) ∧ LW w' bw bb n (full.take n)))

/-- The two stores of a write: the bytes, then the count. -/
theorem LW.step {w : World} {bw bb n : Nat} {T : List UInt8} (h : LW w bw bb n T) (out : List UInt8) (hl : T.length + out.length ≤ n) (k : Nat) :
    Only (fun b => b = bw ∨ b = bb) w (((w.setCells bb T.length (bc out)).setCell ⟨bw, 1, none⟩ (.int .i64 ((T ++ out).length : Int))).drewN k) ∧
    LW (((w.setCells bb T.length (bc out)).setCell ⟨bw, 1, none⟩ (.int .i64 ((T ++ out).length : Int))).drewN k) bw bb n (T ++ out) := by
  obtain ⟨cur, h1, h2, h3⟩ := h.buf
  refine ⟨((Only.setCells (Only.refl _ w) (Or.inr rfl) _ _).setCell (Or.inl rfl) _).drewN k, ?_, ?_, by simp; omega, h.ne⟩
  · show (World.setCell _ _ _).heap[bw]? = _
    have hw : (w.setCells bb T.length (bc out)).heap[bw]? = some (.cells #[.slice (some ⟨bb, 0, none⟩) n n, .int .i64 (T.length : Int)] 37 (0, 0)) := by
      rw [heap_setCells_other bb _ _ _ _ h.ne]; exact h.head
    simp only [World.setCell, Array.getElem?_modify, if_true, hw, Option.map_some]
    simp
  · refine ⟨splice cur T.length (bc out), ?_, by rw [length_splice _ _ _ (by rw [bc_length]; omega)]; exact h2, ?_⟩
    · show (World.setCell _ _ _).heap[bb]? = _
      rw [Below.heap_setCell _ _ _ _ (by simpa using Ne.symm h.ne)]
      exact heap_setCells bb _ _ _ _ _ _ h1 (by rw [bc_length]; omega)
    · unfold splice
      rw [← List.append_assoc, List.take_append_of_le_length (by simp [bc_length]; omega), List.take_of_length_le (by simp [bc_length]; omega), h3, bc_append]

set_option maxHeartbeats 400000 in
theorem writeByte_any (b : UInt8) (w : World) (bw bb n : Nat) (T : List UInt8) (hn : n ≤ 65536) (h : LW w bw bb n T) (hlt : T.length < n) :
    Calls Tryz.prog 258 #[.pointer (some ⟨bw, 0, none⟩), .int .u8 (b.toNat : Int)] w (Wrote (fun k => k = bw ∨ k = bb) w bw bb n (T ++ [b]) .nilIface) := by
  have c0 := h.cell0
  have c1 := h.cell1
  have f1 := h.free 1
  obtain ⟨x, cx⟩ := h.bcell T.length hlt
  have fx := h.bfree T.length
  have d0 : ∀ o v, (w.setCell ⟨bb, o, none⟩ v).cell? ⟨bw, 0, none⟩ = some (.slice (some ⟨bb, 0, none⟩) n n) := fun o v => by
    rw [World.cell?_setCell_other _ _ _ _ (by simp [Ne.symm h.ne])]; exact c0
  have d1 : ∀ o v, (w.setCell ⟨bb, o, none⟩ v).cell? ⟨bw, 1, none⟩ = some (.int .i64 (T.length : Int)) := fun o v => by
    rw [World.cell?_setCell_other _ _ _ _ (by simp [Ne.symm h.ne])]; exact c1
  have hs := h.step [b] (by simp; omega) 2
  rw [show ((T ++ [b]).length : Int) = (T.length : Int) + 1 by simp] at hs
  have HS := Lib.hid hs
  clear hs
  by_cases hf : T.length + 1 < n
  · go_enter Tryz.func258, Tryz.ntmps258
    go_wp2
    go_region
    all_goals go_wp2
    all_goals go_region
    all_goals go_wp2
    go_ret
    exact ⟨HS.out.1, Or.inl ⟨by simpa using hf, rfl, HS.out.2⟩⟩
  · go_enter Tryz.func258, Tryz.ntmps258
    go_wp2
    go_region
    all_goals go_wp2
    all_goals go_region
    all_goals go_wp2
    refine ⟨rfl, HS.out.1, Or.inr ⟨by simp; omega, ⟨_, _, rfl⟩, ?_⟩⟩
    rw [List.take_of_length_le (by simp; omega)]
    exact HS.out.2

theorem drew_setCells (b : Nat) : ∀ (vs : List Value) (o : Nat) (w : World), w.drew.setCells b o vs = (w.setCells b o vs).drew
  | [], _, _ => rfl
  | v :: r, o, w => by rw [World.setCells, World.setCells]; exact drew_setCells b r (o + 1) (w.setCell ⟨b, o, none⟩ v)

/-- The copy of a string's bytes into the buffer, behind the statement's draw. -/
theorem LW.copy {w : World} {bw bb n : Nat} {T : List UInt8} (h : LW w bw bb n T) (s : ByteArray) :
    (Builtin.copy_ #[26, 9] 3 #[.slice (some ⟨bb, T.length, none⟩) (n - T.length) (n - T.length), .string s]).run Tryz.prog w.drew =
      .ok (.int .i64 (min (n - T.length) s.size : Nat)) ((w.setCells bb T.length (bc (s.data.toList.take (n - T.length)))).drew) := by
  have hle := h.le
  rw [← drew_setCells]
  refine run_copy_string (P := Tryz.prog) w.drew 26 9 3 5 bb T.length (n - T.length) (n - T.length) s Tryz.underlying26 u8info (fun j hj => ?_) (fun j hj => h.bfree _)
  obtain ⟨x, hx⟩ := h.bcell (T.length + j) (by omega)
  show (w.cell? _).isSome = true
  rw [hx]
  rfl

set_option maxRecDepth 100000 in
set_option maxHeartbeats 400000 in
theorem writeString_any (s : ByteArray) (hs : s.size ≤ 140737488351232) (w : World) (bw bb n : Nat) (T : List UInt8) (hn : n ≤ 65536) (h : LW w bw bb n T) (hlt : T.length < n) :
    Calls Tryz.prog 259 #[.pointer (some ⟨bw, 0, none⟩), .string s] w (Wrote (fun k => k = bw ∨ k = bb) w bw bb n (T ++ s.data.toList) (.tuple #[.int .i64 (s.size : Int), .nilIface])) := by
  have c0 := h.cell0
  have c1 := h.cell1
  have f1 := h.free 1
  have d0 : ∀ vs, (w.setCells bb T.length vs).cell? ⟨bw, 0, none⟩ = some (.slice (some ⟨bb, 0, none⟩) n n) := fun vs => by
    rw [World.cell?_setCells_out _ _ _ _ _ (fun e => absurd e h.ne)]; exact c0
  have d1 : ∀ vs, (w.setCells bb T.length vs).cell? ⟨bw, 1, none⟩ = some (.int .i64 (T.length : Int)) := fun vs => by
    rw [World.cell?_setCells_out _ _ _ _ _ (fun e => absurd e h.ne)]; exact c1
  have df : ∀ vs, (w.setCells bb T.length vs).frozen? ⟨bw, 1, none⟩ = false := fun vs => by
    rw [World.frozen?_setCells]; exact f1
  have hl : s.data.toList.length = s.size := by rw [Array.length_toList]; rfl
  have hcp := h.copy s
  by_cases hf : T.length + s.size < n
  · rw [show min (n - T.length) s.size = s.size by omega, List.take_of_length_le (by omega)] at hcp
    have hs := h.step s.data.toList (by omega) 2
    rw [show ((T ++ s.data.toList).length : Int) = (T.length : Int) + (s.size : Int) by rw [List.length_append, hl]; omega] at hs
    have HS := Lib.hid hs
    clear hs
    go_enter Tryz.func259, Tryz.ntmps259
    go_wp2
    go_region
    all_goals go_wp2
    all_goals go_region
    all_goals go_wp2
    go_ret2
    exact ⟨HS.out.1, Or.inl ⟨by rw [List.length_append, hl]; exact hf, rfl, HS.out.2⟩⟩
  · rw [show min (n - T.length) s.size = n - T.length by omega] at hcp
    have hs := h.step (s.data.toList.take (n - T.length)) (by rw [List.length_take]; omega) 2
    rw [show ((T ++ s.data.toList.take (n - T.length)).length : Int) = (T.length : Int) + ((n - T.length : Nat) : Int) by rw [List.length_append, List.length_take, hl]; omega] at hs
    have HS := Lib.hid hs
    clear hs
    go_enter Tryz.func259, Tryz.ntmps259
    go_wp2
    go_region
    all_goals go_wp2
    all_goals go_region
    all_goals go_wp2
    have hle := h.le
    have et : (T ++ s.data.toList).take n = T ++ s.data.toList.take (n - T.length) := by rw [List.take_append, List.take_of_length_le (l := T) hle]
    refine ⟨rfl, HS.out.1, Or.inr ⟨by rw [List.length_append, hl]; omega, ⟨_, _, rfl⟩, ?_⟩⟩
    rw [et]
    exact HS.out.2

/-- The copy of a slice's bytes into the buffer, behind the statement's draw. -/
theorem LW.copyS {w : World} {bw bb n : Nat} {T : List UInt8} (h : LW w bw bb n T) (ad : Addr) (out : List UInt8) (cap : Nat) (hc : ∀ j v, (bc out)[j]? = some v → w.cell? (ad.add j) = some v) :
    (Builtin.copy_ #[26, 26] 3 #[.slice (some ⟨bb, T.length, none⟩) (n - T.length) (n - T.length), .slice (some ad) out.length cap]).run Tryz.prog w.drew =
      .ok (.int .i64 (min (n - T.length) out.length : Nat)) ((w.setCells bb T.length (bc (out.take (n - T.length)))).drew) := by
  have hle := h.le
  rw [← drew_setCells]
  have hr := run_copy_cells (P := Tryz.prog) w.drew 26 26 3 5 bb T.length (n - T.length) (n - T.length) ad out.length cap (bc (out.take (n - T.length))) Tryz.underlying26 u8info
    (by rw [bc_length, List.length_take]; exact Nat.min_comm _ _)
    (fun j v hj => by
      rw [bc_take, List.getElem?_take] at hj
      split at hj
      · exact hc j v hj
      · cases hj)
    (fun j hj => by
      rw [bc_length, List.length_take] at hj
      obtain ⟨x, hx⟩ := h.bcell (T.length + j) (by omega)
      show (w.cell? _).isSome = true
      rw [hx]
      rfl) (fun j hj => h.bfree _) (bc_one _)
  rw [bc_length, List.length_take] at hr
  exact hr

set_option maxRecDepth 100000 in
set_option maxHeartbeats 400000 in
theorem write_any (ad : Addr) (out : List UInt8) (cap : Nat) (w : World) (bw bb n : Nat) (T : List UInt8) (hn : n ≤ 65536) (h : LW w bw bb n T) (hlt : T.length < n) (ho : out.length ≤ 65536) (hc : ∀ j v, (bc out)[j]? = some v → w.cell? (ad.add j) = some v) :
    Calls Tryz.prog 257 #[.pointer (some ⟨bw, 0, none⟩), .slice (some ad) out.length cap] w (Wrote (fun k => k = bw ∨ k = bb) w bw bb n (T ++ out) (.tuple #[.int .i64 (out.length : Int), .nilIface])) := by
  have c0 := h.cell0
  have c1 := h.cell1
  have f1 := h.free 1
  have d0 : ∀ vs, (w.setCells bb T.length vs).cell? ⟨bw, 0, none⟩ = some (.slice (some ⟨bb, 0, none⟩) n n) := fun vs => by
    rw [World.cell?_setCells_out _ _ _ _ _ (fun e => absurd e h.ne)]; exact c0
  have d1 : ∀ vs, (w.setCells bb T.length vs).cell? ⟨bw, 1, none⟩ = some (.int .i64 (T.length : Int)) := fun vs => by
    rw [World.cell?_setCells_out _ _ _ _ _ (fun e => absurd e h.ne)]; exact c1
  have df : ∀ vs, (w.setCells bb T.length vs).frozen? ⟨bw, 1, none⟩ = false := fun vs => by
    rw [World.frozen?_setCells]; exact f1
  have hcp := h.copyS ad out cap hc
  clear hc
  by_cases hf : T.length + out.length < n
  · rw [show min (n - T.length) out.length = out.length by omega, List.take_of_length_le (by omega)] at hcp
    have hs := h.step out (by omega) 2
    rw [show ((T ++ out).length : Int) = (T.length : Int) + (out.length : Int) by rw [List.length_append]; omega] at hs
    have HS := Lib.hid hs
    clear hs
    go_enter Tryz.func257, Tryz.ntmps257
    go_wp2
    go_region
    all_goals go_wp2
    all_goals go_region
    all_goals go_wp2
    go_ret2
    exact ⟨HS.out.1, Or.inl ⟨by rw [List.length_append]; exact hf, rfl, HS.out.2⟩⟩
  · rw [show min (n - T.length) out.length = n - T.length by omega] at hcp
    have hs := h.step (out.take (n - T.length)) (by rw [List.length_take]; omega) 2
    rw [show ((T ++ out.take (n - T.length)).length : Int) = (T.length : Int) + ((n - T.length : Nat) : Int) by rw [List.length_append, List.length_take]; omega] at hs
    have HS := Lib.hid hs
    clear hs
    go_enter Tryz.func257, Tryz.ntmps257
    go_wp2
    go_region
    all_goals go_wp2
    all_goals go_region
    all_goals go_wp2
    have hle := h.le
    have et : (T ++ out).take n = T ++ out.take (n - T.length) := by rw [List.take_append, List.take_of_length_le (l := T) hle]
    refine ⟨rfl, HS.out.1, Or.inr ⟨by rw [List.length_append]; omega, ⟨_, _, rfl⟩, ?_⟩⟩
    rw [et]
    exact HS.out.2

/-- The bytes written so far. -/
theorem bytes_any (w : World) (bw bb n : Nat) (T : List UInt8) (hn : n ≤ 65536) (h : LW w bw bb n T) :
    Calls Tryz.prog 20 #[.pointer (some ⟨bw, 0, none⟩)] w fun e w' => e = .returned (.slice (some ⟨bb, 0, none⟩) T.length n) ∧ w' = w.drew := by
  have c0 := h.cell0
  have c1 := h.cell1
  have hle := h.le
  go_enter Tryz.func20, Tryz.ntmps20
  go_wp2
  go_region
  all_goals go_wp2
  go_ret
  exact ⟨rfl, rfl⟩
end Go.Proofs.YtcajagjgbalakaaGreatFmt
