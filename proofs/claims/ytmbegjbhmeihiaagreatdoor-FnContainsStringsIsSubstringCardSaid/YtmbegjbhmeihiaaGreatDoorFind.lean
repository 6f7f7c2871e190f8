/-
  Where a text occurs in another: the program's own search, and the laws' own, walked (package n001_108).
-/
import Derived.Test.YtmbegjbhmeihiaaGreatDoorSays
import Derived.WalkSpells
import Derived.Handy
import Derived.Lib.Hide
import Derived.Laws.Strings2
namespace Go.Proofs.YtmbegjbhmeihiaaGreatDoor
set_option linter.unusedVariables false
set_option linter.unusedSimpArgs false
open Go.RowKit Go.Lib

/-- b stands in a at place i. -/
def Hit (a b : ByteArray) (i : Nat) : Prop := i + b.size ≤ a.size ∧ a.extract i (i + b.size) = b
theorem ba_get (t : ByteArray) (k : Nat) (h : k < t.size) : t.data.toList[k]? = some t[k] := by rw [Array.getElem?_toList, Array.getElem?_eq_getElem h]; rfl
theorem hit_iff (a b : ByteArray) (i : Nat) (hi : i + b.size ≤ a.size) : Hit a b i ↔ ∀ (j : Nat) (hj : j < b.size), a[i + j]'(by omega) = b[j] := by
  have ha : a.data.toList.length = a.size := by rw [Array.length_toList]; rfl
  have hb : b.data.toList.length = b.size := by rw [Array.length_toList]; rfl
  have hx : (a.extract i (i + b.size)).data.toList = (a.data.toList.drop i).take b.size := by rw [Lib.extract_data]; congr 1; omega
  constructor
  · rintro ⟨_, h⟩ j hj
    rw [h] at hx
    have h1 := ba_get b j hj
    rw [hx, List.getElem?_take, if_pos hj, List.getElem?_drop, ba_get a (i + j) (by omega)] at h1
    exact Option.some.inj h1
  · intro h
    refine ⟨hi, ?_⟩
    apply ByteArray.ext
    apply Array.toList_inj.1
    rw [hx]
    apply List.ext_getElem?
    intro j
    by_cases hj : j < b.size
    · rw [List.getElem?_take, if_pos hj, List.getElem?_drop, ba_get a (i + j) (by omega), ba_get b j hj, h j hj]
    · rw [List.getElem?_eq_none (by rw [List.length_take]; omega), List.getElem?_eq_none (by omega)]
/-- b occurs in a. -/
def Occurs (a b : ByteArray) : Prop := ∃ i, Hit a b i
theorem text_eq (a b : ByteArray) (h : a = b) : (a.toList == b.toList) = true := by subst h; exact beq_self_eq_true _
theorem text_ne (a b : ByteArray) (h : a ≠ b) : (a.toList == b.toList) = false := by
  rw [beq_eq_false_iff_ne]
  intro e
  apply h
  rw [Lib.toList_data, Lib.toList_data] at e
  exact ByteArray.ext (Array.toList_inj.1 e)
theorem cut_at (a : ByteArray) (i m : Nat) (h : i + m ≤ a.size) (wx : World) : (Instr.slice 9 (.string a) (some (.int .i64 (i : Int))) (some (.int .i64 ((i : Int) + (m : Int)))) none).run Tryz.prog wx = .ok (.string (a.extract i (i + m))) wx := by
  have := run_slice_string (P := Tryz.prog) wx 9 a .i64 .i64 (i : Int) ((i : Int) + (m : Int)) Tryz.underlying9 (by omega) (by omega) (by omega)
  rw [this]
  congr 2

set_option maxRecDepth 100000 in
set_option maxHeartbeats 1600000 in
theorem index_any (a b : ByteArray) (ha : a.size ≤ 2097152) (hb : b.size ≤ 2097152) (w : World) :
    Calls Tryz.prog 50 #[.string a, .string b] w fun e w' => (∃ r : Int, e = .returned (.int .i64 r) ∧ (0 ≤ r ↔ Occurs a b)) ∧ Below w.heap.size w w' := by
  go_enter Tryz.func50, Tryz.ntmps50
  go_wp2_with fail
  go_loopw [5] (fun vi wr => ∃ k : Nat, vi = .int .i64 (k : Int) ∧ k ≤ a.size + 1 ∧ (∀ j, j < k → ¬ Hit a b j) ∧ Below w.heap.size w wr) (fun vi _ => a.size + 2 - (RowKit.intOf vi).toNat)
  case atStart => exact ⟨0, rfl, by omega, fun j h => absurd h (Nat.not_lt_zero _), Below.refl _ _⟩
  case round =>
    obtain ⟨k, rfl, hk, hall, hbl⟩ := hrel
    have HA := Lib.hid hall
    clear hall
    by_cases hks : k + b.size ≤ a.size
    · have q0 : (k : Int) + (b.size : Int) ≤ (a.size : Int) := by omega
      have sl := cut_at a k b.size hks
      by_cases hh : a.extract k (k + b.size) = b
      · have e1 := text_eq _ _ hh
        have HO := Lib.hid (⟨k, hks, hh⟩ : Occurs a b)
        clear hh
        go_wp2_with fail
        try (go_region; go_wp2_with fail)
        go_ret
        exact ⟨⟨_, rfl, ⟨fun _ => HO.out, fun _ => by omega⟩⟩, by first | exact hbl | exact hbl.drew⟩
      · have e1 := text_ne _ _ hh
        have HN := Lib.hid (fun h : Hit a b k => hh h.2)
        clear hh
        go_wp2_with fail
        try (go_region; go_wp2_with fail)
        go_roundw
        case rel => exact ⟨k + 1, by go_num, by omega, fun j hj h => by
          rcases Nat.lt_or_ge j k with hjk | hjk
          · exact HA.out j hjk h
          · obtain rfl : j = k := by omega
            exact HN.out h, by first | exact hbl | exact hbl.drew⟩
        case measure => simp [RowKit.intOf]; omega
    · have q0 : ¬ (k : Int) + (b.size : Int) ≤ (a.size : Int) := by omega
      have HN := Lib.hid (fun h : Occurs a b => by
        obtain ⟨i, h1, h2⟩ := h
        rcases Nat.lt_or_ge i k with h | h
        · exact HA.out i h ⟨h1, h2⟩
        · omega : ¬ Occurs a b)
      go_wp2_with fail
      go_ret
      exact ⟨⟨_, rfl, ⟨fun h => absurd h (by omega), fun h => absurd h HN.out⟩⟩, hbl⟩

set_option maxRecDepth 100000 in
set_option maxHeartbeats 1600000 in
theorem contains_any (a b : ByteArray) (ha : a.size ≤ 2097152) (hb : b.size ≤ 2097152) (w : World) :
    Calls Tryz.prog 37 #[.string a, .string b] w fun e w' => (∃ r : Bool, e = .returned (.bool r) ∧ (r = true ↔ Occurs a b)) ∧ Below w.heap.size w w' := by
  have HI := Lib.hid (index_any a b ha hb w)
  go_enter Tryz.func37, Tryz.ntmps37
  go_wp2_with fail
  refine HI.out.mono ?_
  rintro e w1 ⟨⟨r, rfl, hr⟩, hb1⟩
  go_wp2_with fail
  all_goals go_ret
  all_goals (refine ⟨⟨_, rfl, ?_⟩, hb1⟩; rw [← hr]; simp)

set_option maxRecDepth 100000 in
set_option maxHeartbeats 3200000 in
theorem hasSub_any (a b : ByteArray) (ha : a.size ≤ 2097152) (hb : b.size ≤ 2097152) (w : World) :
    Calls Tryz.prog 10 #[.string a, .string b] w fun e w' => (∃ r : Bool, e = .returned (.bool r) ∧ (r = true ↔ Occurs a b)) ∧ Below w.heap.size w w' := by
  by_cases h0 : b.size = 0
  · have q0 : ((b.size : Int) == 0) = true := by rw [beq_iff_eq]; omega
    have HO := Lib.hid (⟨0, by omega, by apply ByteArray.ext; apply Array.toList_inj.1; rw [Lib.extract_data, Nat.zero_add, h0]; simp; exact Array.eq_empty_of_size_eq_zero h0⟩ : Occurs a b)
    go_enter Tryz.func10, Tryz.ntmps10
    go_wp2_with fail
    go_ret
    first | exact ⟨⟨_, rfl, ⟨fun _ => HO.out, fun _ => rfl⟩⟩, by go_grown⟩ | exact ⟨Or.inr ⟨rfl, HO.out⟩, by go_grown⟩
  · have q0 : ((b.size : Int) == 0) = false := by rw [beq_eq_false_iff_ne]; omega
    go_enter Tryz.func10, Tryz.ntmps10
    go_wp2_with fail
    go_loopw [5] (fun vi wr => ∃ k : Nat, vi = .int .i64 (k : Int) ∧ k ≤ a.size + 1 ∧ (∀ j, j < k → ¬ Hit a b j) ∧ Below w.heap.size w wr) (fun vi _ => a.size + 2 - (RowKit.intOf vi).toNat)
    case atStart => exact ⟨0, rfl, by omega, fun j h => absurd h (Nat.not_lt_zero _), Below.refl _ _⟩
    case round =>
      obtain ⟨k, rfl, hk, hall, hbl⟩ := hrel
      have HA := Lib.hid hall
      have HBL := Lib.hid hbl
      clear hall hbl
      by_cases hks : k + b.size ≤ a.size
      · have q1 : (k : Int) + (b.size : Int) ≤ (a.size : Int) := by omega
        have HH := Lib.hid (hit_iff a b k hks)
        go_wp2_with fail
        go_loopw [6] (fun vj wj => ∃ m : Nat, vj = .int .i64 (m : Int) ∧ m ≤ b.size ∧ (∀ (j : Nat) (hj : j < b.size), j < m → a[k + j]'(by omega) = b[j]) ∧ Below w.heap.size w wj) (fun vj _ => b.size - (RowKit.intOf vj).toNat)
        case atStart => exact ⟨0, rfl, Nat.zero_le _, fun j _ h => absurd h (Nat.not_lt_zero _), HBL.out⟩
        case round =>
          obtain ⟨m, rfl, hm, heq, hbj⟩ := hrel
          have HE := Lib.hid heq
          clear heq
          by_cases hmb : m < b.size
          · have r0 : (m : Int) < (b.size : Int) := by omega
            have ra : ∀ wx : World, (Instr.index 9 (.string a) (.int .i64 ((k : Int) + (m : Int)))).run Tryz.prog wx = .ok (.int .u8 ((a[k + m]'(by omega)).toNat : Int)) wx := fun wx => by
              rw [run_index_string wx 9 a .i64 _ Tryz.underlying9, dif_pos ⟨by omega, by omega⟩]
              rfl
            have rb : ∀ wx : World, (Instr.index 9 (.string b) (.int .i64 (m : Int))).run Tryz.prog wx = .ok (.int .u8 (b[m].toNat : Int)) wx := fun wx => by
              rw [run_index_string wx 9 b .i64 _ Tryz.underlying9, dif_pos ⟨by omega, by omega⟩]
              rfl
            by_cases hx : a[k + m]'(by omega) = b[m]
            · have HX := Lib.hid hx
              have r1 : (((a[k + m]'(by omega)).toNat : Int) == (b[m].toNat : Int)) = true := by rw [hx]; exact beq_self_eq_true _
              clear hx
              go_wp2_with fail
              try (go_region; go_wp2_with fail)
              go_roundw
              case rel => exact ⟨m + 1, by go_num, by omega, fun j hj hjm => by
                rcases Nat.lt_or_ge j m with h | h
                · exact HE.out j hj h
                · obtain rfl : j = m := by omega
                  exact HX.out, by first | exact hbj | exact hbj.drew⟩
              case measure => simp [RowKit.intOf]; omega
            · have r1 : (((a[k + m]'(by omega)).toNat : Int) == (b[m].toNat : Int)) = false := by
                rw [beq_eq_false_iff_ne]
                intro e
                exact hx (UInt8.toNat_inj.1 (by omega))
              have r2 : ((m : Int) == (b.size : Int)) = false := by rw [beq_eq_false_iff_ne]; omega
              have HN := Lib.hid (fun h : Hit a b k => hx (HH.out.1 h m hmb))
              clear hx
              go_wp2_with fail
              try (go_region; go_wp2_with fail)
              go_roundw
              case rel => exact ⟨k + 1, by go_num, by omega, fun j hj h => by
                rcases Nat.lt_or_ge j k with hjk | hjk
                · exact HA.out j hjk h
                · obtain rfl : j = k := by omega
                  exact HN.out h, by first | exact hbj | exact hbj.drew⟩
              case measure => simp [RowKit.intOf]; omega
          · obtain rfl : m = b.size := by omega
            have r0 : ¬ (b.size : Int) < (b.size : Int) := by omega
            have r2 : ((b.size : Int) == (b.size : Int)) = true := beq_self_eq_true _
            have HO := Lib.hid (⟨k, HH.out.2 (fun j hj => HE.out j hj hj)⟩ : Occurs a b)
            go_wp2_with fail
            go_region
            go_wp2_with fail
            go_ret
            first | exact ⟨⟨_, rfl, ⟨fun _ => HO.out, fun _ => rfl⟩⟩, hbj⟩ | exact ⟨Or.inr ⟨rfl, HO.out⟩, hbj⟩ | exact ⟨⟨_, rfl, ⟨fun _ => HO.out, fun _ => rfl⟩⟩, hbj.drew⟩ | exact ⟨⟨true, rfl, ⟨fun _ => HO.out, fun _ => rfl⟩⟩, hbj.drew⟩ | exact ⟨Or.inr ⟨rfl, HO.out⟩, hbj.drew⟩
      · have q1 : ¬ (k : Int) + (b.size : Int) ≤ (a.size : Int) := by omega
        have HN := Lib.hid (fun h : Occurs a b => by
          obtain ⟨i, h1, h2⟩ := h
          rcases Nat.lt_or_ge i k with h | h
          · exact HA.out i h ⟨h1, h2⟩
          · omega : ¬ Occurs a b)
        go_wp2_with fail
        go_ret
        first | exact ⟨⟨_, rfl, ⟨fun h => absurd h (by simp), fun h => absurd h HN.out⟩⟩, HBL.out⟩ | exact ⟨Or.inl ⟨rfl, HN.out⟩, HBL.out⟩
end Go.Proofs.YtmbegjbhmeihiaaGreatDoor
