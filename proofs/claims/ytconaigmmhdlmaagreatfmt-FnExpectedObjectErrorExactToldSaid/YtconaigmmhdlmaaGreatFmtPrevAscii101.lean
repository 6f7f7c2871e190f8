/-
  The laws' own preview of printable text (package n001_101), walked: it is the quoting of escA, cut past 30 bytes.
-/
import Derived.Test.YtconaigmmhdlmaaGreatFmtEscB
import Derived.Test.YtconaigmmhdlmaaGreatFmtTep
import Derived.Test.YtconaigmmhdlmaaGreatFmtWriter
import Derived.Laws.IdiomStrings
import Derived.Laws.AppendOwn
import Derived.OwnWalk
import Derived.WalkSpells
namespace Go.Proofs.YtconaigmmhdlmaaGreatFmt
set_option linter.unusedVariables false
set_option linter.unusedSimpArgs false
open Go.RowKit Go.Lib Go.Sort

theorem escA_append : ∀ (a b : List UInt8), escA (a ++ b) = escA a ++ escA b
  | [], b => rfl
  | c :: t, b => by rw [List.cons_append, escA, escA, escA_append t b, List.append_assoc]
theorem escA_len : ∀ (l : List UInt8), (escA l).length ≤ 2 * l.length
  | [] => Nat.le_refl _
  | b :: t => by
    have := escA_len t
    rw [escA, List.length_append, List.length_cons]
    split <;> simp <;> omega
theorem byteInfoA : (Tryz.prog.info? 5).map (fun i => (i.zero, i.size, i.bytes)) = some (some (.int .u8 0), 1, 1) := by kernel_rfl

/-- A buffer of the call's own that holds E. -/
structure Own (w wr : World) (v : Value) (E : List UInt8) : Prop where
  row : wr.ownsRow w.heap.size 5 1 v E.length (bc E)
  below : Below w.heap.size w wr
theorem Own.push {w wr w2 : World} {v v' : Value} {E : List UInt8} {o : Obj} (h : Own w wr v E) (b : UInt8) (hown : w2.ownsRow w.heap.size 5 1 v' (E.length + 1) (bc E ++ [.int .u8 (b.toNat : Int)])) (hgrow : (wr.alloc o).grownBy w2 v.ownBlock) : Own w w2 v' (E ++ [b]) :=
  ⟨by simpa [bc] using hown, (h.below.alloc h.below.size _).grown hgrow (by have := h.below.size; simp; omega) (fun k hk => (h.row.lt k hk).1)⟩
theorem one_cell (wr : World) (x : Value) (t : TypeId) : ∀ j u, [x][j]? = some u → (wr.alloc (.cells #[x] t)).cell? ((⟨wr.heap.size, 0, none⟩ : Addr).add j) = some u := by
  intro j u hj
  match j, hj with
  | 0, hj => simp at hj; subst hj; simp [Addr.add]
theorem one_one (k : IntKind) (x : Int) : ∀ u ∈ [Value.int k x], u.oneCell' = true := by
  intro u hu
  simp at hu
  subst hu
  rfl
theorem Own.text {w wr : World} {v : Value} {E : List UInt8} (h : Own w wr v E) (hne : 0 < E.length) : ∃ g cap, v = .slice (some ⟨g, 0, none⟩) E.length cap ∧ E.length ≤ cap ∧
    ∀ k, k ≤ E.length → ∀ c, (convert 49 9 (.slice (some ⟨g, 0, none⟩) k c)).run Tryz.prog wr = .ok (.string ⟨(E.take k).toArray⟩) wr := by
  rcases h.row.2 with ⟨_, h0⟩ | ⟨g, cap, cur, rfl, _, _, hc, _⟩
  · omega
  · refine ⟨g, cap, rfl, hc, fun k hk c => ?_⟩
    have hl : (E.take k).length = k := by rw [List.length_take]; omega
    have hr := run_convert_bytes_back (P := Tryz.prog) wr 49 9 5 ⟨g, 0, none⟩ c (E.take k) Tryz.underlying49 Tryz.underlying5 Tryz.underlying9 (fun j hj => by
      have hj' : j < E.length := by omega
      rw [h.row.cells (g := g) rfl j (.int .u8 (E[j].toNat : Int)) (bc_get E j hj'), List.getElem_take])
    rw [hl] at hr
    exact hr

set_option maxRecDepth 100000 in
set_option maxHeartbeats 3200000 in
theorem prevAscii101_any (s : ByteArray) (hs : s.size ≤ 2097152) (w : World) : Calls Tryz.prog 46 #[.string s] w (Says w (prevAscii s.data.toList)) := by
  obtain ⟨i0, hi, hz0, hz1, hz2⟩ := info_parts byteInfoA
  have hsl : s.data.toList.length = s.size := by rw [Array.length_toList]; rfl
  have hlen : ∀ k, (escA (s.data.toList.take k)).length ≤ 2 * s.size := fun k => Nat.le_trans (escA_len _) (by rw [List.length_take]; omega)
  have HL := Lib.hid hlen
  have hget : ∀ k (h : k < s.size), s.data.toList.take (k + 1) = s.data.toList.take k ++ [s[k]] := fun k h => by
    rw [List.take_succ_eq_append_getElem (by rw [hsl]; exact h), Array.getElem_toList]
    rfl
  have HG := Lib.hid hget
  clear hlen hget
  go_enter Tryz.func46, Tryz.ntmps46
  go_wp2_with (at_make; refine wpList_make_own _ rfl _ _ 49 rfl w.heap.size 5 i0 (.int .u8 0) 1 Tryz.underlying49 hi hz0 hz1 _ _ _ (2 * s.size + 2) rfl rfl (by push_cast; omega) (by rw [hz2]; omega) (by unfold maxLen; omega) (Nat.le_refl _) ?_)
  intro w1 hown1 hgrow1
  have o1 : Own w w1 _ [] := ⟨hown1, (Below.refl _ w).grown hgrow1 (Nat.le_refl _) (fun k hk => by cases hk)⟩
  generalize Value.slice (some ⟨w.heap.size, 0, none⟩) 0 (2 * s.size + 2) = v1 at o1 ⊢
  have O1 := Lib.hid o1
  clear o1 hown1 hgrow1
  go_wp2_with (at_builtin; refine wpList_append_own _ rfl _ _ 49 rfl w.heap.size 5 i0 (.int .u8 0) 1 1 Tryz.underlying49 hi hz0 hz1 hz2 rfl (by decide) _ _ _ rfl (O1.out.row.alloc _) ⟨w1.heap.size, 0, none⟩ 1 1 [.int .u8 34] rfl rfl (one_cell _ _ _) (one_one _ _) (by unfold maxLen; simp) (by simp) (by have := O1.out.below.size; simp; omega) ?_)
  intro v2 w2 hown2 hgrow2 _
  have O2 := Lib.hid (O1.out.push 34 hown2 hgrow2)
  clear hown2 hgrow2
  go_wp2_with fail
  go_loopw [3, 4] (fun ve vi wr => ∃ k : Nat, vi = .int .i64 (k : Int) ∧ k ≤ s.size ∧ Own w wr ve (34 :: escA (s.data.toList.take k))) (fun _ vi _ => s.size - (RowKit.intOf vi).toNat)
  case atStart => exact ⟨0, rfl, Nat.zero_le _, O2.out⟩
  case round =>
    obtain ⟨k, rfl, hk, ho⟩ := hrel
    have O3 := Lib.hid ho
    clear ho
    have l1 := HL.out k
    by_cases hks : k < s.size
    · have q0 : (k : Int) < (s.size : Int) := by omega
      have hg := HG.out k hks
      by_cases hesc : s[k].toNat = 34 ∨ s[k].toNat = 92
      · have et : 34 :: escA (s.data.toList.take (k + 1)) = (34 :: escA (s.data.toList.take k)) ++ [92] ++ [s[k]] := by
          rw [hg, escA_append]
          have : s[k] = 34 ∨ s[k] = 92 := by exact hesc.imp (fun h => UInt8.toNat_inj.1 h) (fun h => UInt8.toNat_inj.1 h)
          simp [escA, this]
        have ET := Lib.hid et
        clear et hg
        have q1 : (((s[k].toNat : Int) == 34) || ((s[k].toNat : Int) == 92)) = true := by rcases hesc with h | h <;> simp [h]
        rcases hesc with h | h
        · have q2 : ((s[k].toNat : Int) == 34) = true := by rw [beq_iff_eq]; omega
          clear h q1
          go_wp2_with (at_builtin; refine wpList_append_own _ rfl _ _ 49 rfl w.heap.size 5 i0 (.int .u8 0) 1 1 Tryz.underlying49 hi hz0 hz1 hz2 rfl (by decide) _ _ _ rfl (O3.out.row.alloc _) ⟨_, 0, none⟩ 1 1 [.int .u8 92] rfl rfl (one_cell _ _ _) (one_one _ _) (by unfold maxLen; simp; omega) (by simp; omega) (by have := O3.out.below.size; simp; omega) ?_)
          intro v4 w4 hown4 hgrow4 _
          have O4 := Lib.hid (O3.out.push 92 hown4 hgrow4)
          clear hown4 hgrow4
          go_wp2_with (at_builtin; refine wpList_append_own _ rfl _ _ 49 rfl w.heap.size 5 i0 (.int .u8 0) 1 1 Tryz.underlying49 hi hz0 hz1 hz2 rfl (by decide) _ _ _ rfl (O4.out.row.alloc _) ⟨w4.heap.size, 0, none⟩ 1 1 [.int .u8 (s[k].toNat : Int)] rfl rfl (one_cell _ _ _) (one_one _ _) (by unfold maxLen; simp; omega) (by simp; omega) (by have := O4.out.below.size; simp; omega) ?_)
          intro v5 w5 hown5 hgrow5 _
          have O5 := Lib.hid (O4.out.push s[k] (by simpa using hown5) hgrow5)
          clear hown5 hgrow5
          go_wp2_with fail
          go_roundw
          case rel => exact ⟨k + 1, by go_num, by omega, by rw [ET.out]; exact O5.out⟩
          case measure => simp [RowKit.intOf]; omega
        · have q2 : ((s[k].toNat : Int) == 34) = false := by rw [beq_eq_false_iff_ne]; omega
          have q3 : ((s[k].toNat : Int) == 92) = true := by rw [beq_iff_eq]; omega
          clear h q1
          go_wp2_with (at_builtin; refine wpList_append_own _ rfl _ _ 49 rfl w.heap.size 5 i0 (.int .u8 0) 1 1 Tryz.underlying49 hi hz0 hz1 hz2 rfl (by decide) _ _ _ rfl (O3.out.row.alloc _) ⟨_, 0, none⟩ 1 1 [.int .u8 92] rfl rfl (one_cell _ _ _) (one_one _ _) (by unfold maxLen; simp; omega) (by simp; omega) (by have := O3.out.below.size; simp; omega) ?_)
          intro v4 w4 hown4 hgrow4 _
          have O4 := Lib.hid (O3.out.push 92 hown4 hgrow4)
          clear hown4 hgrow4
          go_wp2_with (at_builtin; refine wpList_append_own _ rfl _ _ 49 rfl w.heap.size 5 i0 (.int .u8 0) 1 1 Tryz.underlying49 hi hz0 hz1 hz2 rfl (by decide) _ _ _ rfl (O4.out.row.alloc _) ⟨w4.heap.size, 0, none⟩ 1 1 [.int .u8 (s[k].toNat : Int)] rfl rfl (one_cell _ _ _) (one_one _ _) (by unfold maxLen; simp; omega) (by simp; omega) (by have := O4.out.below.size; simp; omega) ?_)
          intro v5 w5 hown5 hgrow5 _
          have O5 := Lib.hid (O4.out.push s[k] (by simpa using hown5) hgrow5)
          clear hown5 hgrow5
          go_wp2_with fail
          go_roundw
          case rel => exact ⟨k + 1, by go_num, by omega, by rw [ET.out]; exact O5.out⟩
          case measure => simp [RowKit.intOf]; omega
      · have et : 34 :: escA (s.data.toList.take (k + 1)) = (34 :: escA (s.data.toList.take k)) ++ [s[k]] := by
          rw [hg, escA_append]
          have : ¬ (s[k] = 34 ∨ s[k] = 92) := fun h => hesc (h.imp (fun h => by rw [h]; rfl) (fun h => by rw [h]; rfl))
          simp [escA, this]
        have ET := Lib.hid et
        clear et hg
        have q2 : ((s[k].toNat : Int) == 34) = false := by rw [beq_eq_false_iff_ne]; omega
        have q3 : ((s[k].toNat : Int) == 92) = false := by rw [beq_eq_false_iff_ne]; omega
        go_wp2_with (at_builtin; refine wpList_append_own _ rfl _ _ 49 rfl w.heap.size 5 i0 (.int .u8 0) 1 1 Tryz.underlying49 hi hz0 hz1 hz2 rfl (by decide) _ _ _ rfl (O3.out.row.alloc _) ⟨_, 0, none⟩ 1 1 [.int .u8 (s[k].toNat : Int)] rfl rfl (one_cell _ _ _) (one_one _ _) (by unfold maxLen; simp; omega) (by simp; omega) (by have := O3.out.below.size; simp; omega) ?_)
        intro v4 w4 hown4 hgrow4 _
        have O4 := Lib.hid (O3.out.push s[k] hown4 hgrow4)
        clear hown4 hgrow4
        go_wp2_with fail
        go_roundw
        case rel => exact ⟨k + 1, by go_num, by omega, by rw [ET.out]; exact O4.out⟩
        case measure => simp [RowKit.intOf]; omega
    · obtain rfl : k = s.size := by omega
      have q0 : ¬ (s.size : Int) < (s.size : Int) := by omega
      go_wp2_with (at_builtin; refine wpList_append_own _ rfl _ _ 49 rfl w.heap.size 5 i0 (.int .u8 0) 1 1 Tryz.underlying49 hi hz0 hz1 hz2 rfl (by decide) _ _ _ rfl (O3.out.row.alloc _) ⟨_, 0, none⟩ 1 1 [.int .u8 34] rfl rfl (one_cell _ _ _) (one_one _ _) (by unfold maxLen; simp; omega) (by simp; omega) (by have := O3.out.below.size; simp; omega) ?_)
      intro v4 w4 hown4 hgrow4 _
      have O4 := O3.out.push 34 hown4 hgrow4
      clear hown4 hgrow4
      have hq : (34 :: escA (s.data.toList.take s.size)) ++ [34] = 34 :: (escA s.data.toList ++ [34]) := by rw [← hsl, List.take_length]; rfl
      rw [hq] at O4
      have hb4 := O4.below
      obtain ⟨g, cap, rfl, hcap, hconv⟩ := O4.text (by simp)
      generalize hE : 34 :: (escA s.data.toList ++ [34]) = E at *
      have hp : prevAscii s.data.toList = if E.length ≤ 30 then E else E.take 25 ++ dots := by rw [← hE]; rfl
      have HPP := Lib.hid hp
      by_cases h30 : E.length ≤ 30
      · have l2 : ¬ (30 : Int) < (E.length : Int) := by omega
        have c1 := hconv E.length (Nat.le_refl _) cap
        rw [List.take_length] at c1
        clear hconv hp hE hq O4
        go_wp2_with fail
        go_ret
        refine ⟨?_, hb4⟩
        show Ending.returned (.string ⟨E.toArray⟩) = _
        rw [HPP.out, if_pos h30]
      · have l2 : (30 : Int) < (E.length : Int) := by omega
        have c1 := hconv 25 (by omega) cap
        have l3 : (25 : Int) ≤ (cap : Int) := by omega
        have l4 : (E.take 25).length = 25 := by rw [List.length_take]; omega
        have z1 : ¬ 9223372036854775807 < (E.take 25).length + 5 := by omega
        clear hconv hp hE hq O4
        go_wp2_with fail
        go_ret
        refine ⟨says_str ?_, hb4⟩
        rw [HPP.out, if_neg h30]
        simp [dots]
end Go.Proofs.YtconaigmmhdlmaaGreatFmt
