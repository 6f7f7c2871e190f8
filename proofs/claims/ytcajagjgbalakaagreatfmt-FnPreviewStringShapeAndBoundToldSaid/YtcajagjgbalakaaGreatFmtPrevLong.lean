/-
  Preview of a string whose JSON text has more than 30 bytes: it is trimmed rune by rune.
-/
import Derived.Test.YtcajagjgbalakaaGreatFmtPreview
import Derived.Test.YtcajagjgbalakaaGreatFmtEscB
import Derived.Test.YtcajagjgbalakaaGreatFmtRune
import Derived.Test.YtcajagjgbalakaaGreatFmtAppInt
import Derived.Test.YtcajagjgbalakaaGreatFmtShelf
import Derived.WalkSpells
namespace Go.Proofs.YtcajagjgbalakaaGreatFmt
set_option linter.unusedVariables false
set_option linter.unusedSimpArgs false
open Go.RowKit Go.Lib Go.Sort

/-- The bytes in hand: a beginning of the buffer, trimmed as far as L. -/
structure Hand (w w' : World) (bb : Nat) (m : Nat) (L full : List UInt8) : Prop where
  below : Below w.heap.size w w'
  cur : ∃ cur : List Value, w'.heap[bb]? = some (.cells cur.toArray 5 (0, 0)) ∧ cur.length = 32 ∧ cur.take m = bc L
  len : L.length = m
  m32 : m ≤ 32
  trim : trimmed 25 L = trimmed 25 (full.take 32)

theorem Hand.lt {w w' : World} {bb m : Nat} {L full : List UInt8} (h : Hand w w' bb m L full) : bb < w'.heap.size := by
  obtain ⟨cur, h1, _⟩ := h.cur
  rcases Nat.lt_or_ge bb w'.heap.size with h | h
  · exact h
  · rw [Array.getElem?_eq_none h] at h1; cases h1
theorem Hand.step {w w1 w2 : World} {bb m' k : Nat} {L full : List UInt8} (h : Hand w w1 bb (m' + k) L full) (hk : (Lib.decodeLastL L).2 = k) (hm : 25 < m' + k) (hb : Below w1.heap.size w1 w2) : Hand w w2 bb m' (L.take m') full := by
  have hl := h.len
  obtain ⟨cur, h1, h2, h3⟩ := h.cur
  refine ⟨h.below.trans (below_of hb h.below.size), ⟨cur, by rw [hb.block bb h.lt]; exact h1, h2, ?_⟩, by rw [List.length_take]; omega, by have := h.m32; omega, ?_⟩
  · have := congrArg (List.take m') h3
    rw [List.take_take, Nat.min_eq_left (by omega)] at this
    rw [this, bc_take]
  · rw [← h.trim, trimmed_step 25 L (by omega), hk, hl, Nat.add_sub_cancel]
theorem Hand.last {w w1 : World} {bb m : Nat} {L full : List UInt8} (h : Hand w w1 bb m L full) (hT : Tabs w1) :
    Calls Tryz.prog 18 #[.slice (some ⟨bb, 0, none⟩) m 32] w1 fun e w' => e = .returned (.tuple #[.int .i32 ((Lib.decodeLastL L).1 : Nat), .int .i64 ((Lib.decodeLastL L).2 : Nat)]) ∧ Below w1.heap.size w1 w' := by
  have hl := h.len
  have h32 := h.m32
  obtain ⟨cur, h1, h2, h3⟩ := h.cur
  have hsz : (⟨L.toArray⟩ : ByteArray).size = m := by simpa [ByteArray.size] using hl
  have := Any7.utf8_DecodeLastRune Tryz.lays7n33 ⟨L.toArray⟩ bb 0 32 w1 (by omega) (fun j hj => by
    have hj' : j < L.length := by omega
    rw [Nat.zero_add, cell_whole h1]
    have e := bc_get L j hj'
    rw [← h3, List.getElem?_take] at e
    have e2 : (if j < m then cur[j]? else none) = cur[j]? := if_pos (by omega)
    rw [e2] at e
    rw [e]
    congr 2
    simp [ByteArray.get!, hj']) (by omega) hT.utf
  rw [hsz] at this
  exact this
def sliceLen : Value → Nat
  | .slice _ n _ => n
  | _ => 0

set_option maxRecDepth 100000 in
set_option maxHeartbeats 1600000 in
theorem preview_long (s : ByteArray) (full : List UInt8) (w : World) (hT : Tabs w) (hl : 30 < full.length) (hm : Calls Tryz.prog 17 #[.iface 9 (.string s), .int .i64 32] w (Marshalled w 32 full)) :
    Calls Tryz.prog 10 #[.iface 9 (.string s)] w (Says w (trimmed 25 (full.take 32) ++ dots)) := by
  have as6 := asStrStr
  have HM := Lib.hid hm
  obtain ⟨m0, hm0⟩ : ∃ m0, (full.take 32).length = m0 := ⟨_, rfl⟩
  have h30 : (30 : Int) < (m0 : Int) := by rw [← hm0, List.length_take]; omega
  have h32 : m0 ≤ 32 := by rw [← hm0, List.length_take]; omega
  clear hm
  go_enter Tryz.func10, Tryz.ntmps10
  go_wp2_with fail
  refine HM.out.mono ?_
  rintro e w1 ⟨hB, bb, hbb, rfl, cur, c1, c2, c3⟩
  rw [hm0] at c3 ⊢
  have HH := Lib.hid (⟨hB, ⟨cur, c1, c2, c3⟩, hm0, h32, rfl⟩ : Hand w w1 bb m0 (full.take 32) full)
  clear hB c1 c2 c3 HM
  go_wp2_with fail
  go_loopw [3] (fun vb wr => ∃ (m : Nat) (L : List UInt8), vb = .slice (some ⟨bb, 0, none⟩) m 32 ∧ Hid (Hand w wr bb m L full)) (fun vb _ => sliceLen vb)
  case atStart => exact ⟨m0, full.take 32, rfl, HH⟩
  case round =>
    obtain ⟨m, L, rfl, HR⟩ := hrel
    clear HH
    have hm32 := HR.out.m32
    by_cases hm : 25 < m
    · have q : (25 : Int) < (m : Int) := by omega
      have hlast := HR.out.last (hT.on HR.out.below)
      have hw := decodeLastL_width L (by intro e; have := HR.out.len; rw [e] at this; simp at this; omega)
      obtain ⟨k, hk⟩ : ∃ k, (Lib.decodeLastL L).2 = k := ⟨_, rfl⟩
      obtain ⟨r, hr⟩ : ∃ r, (Lib.decodeLastL L).1 = r := ⟨_, rfl⟩
      rw [hk, HR.out.len] at hw
      rw [hk, hr] at hlast
      obtain ⟨m, rfl⟩ : ∃ m', m = m' + k := ⟨m - k, by omega⟩
      have HL := Lib.hid hlast
      have HW := Lib.hid hw
      have g1 : (0 : Int) ≤ (m : Int) := by omega
      have g2 : (m : Int) ≤ 32 := by omega
      clear hlast hw hr
      go_wp2_with fail
      refine HL.out.mono ?_
      rintro e w2 ⟨rfl, hb2⟩
      have HS := Lib.hid (HR.out.step hk hm hb2)
      clear HR HL hb2
      go_wp2_with fail
      go_roundw
      case rel => exact ⟨m, L.take m, by go_num, HS⟩
      case measure => have := HW.out; simp [sliceLen]; omega
    · have q : (m : Int) ≤ 25 := by omega
      have hLt : L = trimmed 25 (full.take 32) := by rw [← HR.out.trim, trimmed_le 25 L (by rw [HR.out.len]; omega)]
      obtain ⟨i, hi, hsz⟩ := Option.map_eq_some_iff.1 u8info
      have hlen := HR.out.len
      obtain ⟨cur, h1, h2, h3⟩ := HR.out.cur
      have C1 := Lib.hid (row_cells h1 (0 + m) 5 (by omega))
      have C2 := Lib.hid (row_free h1 (0 + m) 5)
      have hX : Only (fun k => k = bb) wr (wr.setCells bb (0 + m) (bc dots)) := Only.setCells (S := fun k => k = bb) (Only.refl _ wr) rfl _ _
      have hY := heap_setCells bb 5 (0, 0) (bc dots) (0 + m) wr cur h1 (by rw [bc_length, h2]; simp only [dots, List.length_cons, List.length_nil]; omega)
      have hB3 : Below w.heap.size w (wr.setCells bb (0 + m) (bc dots)) := HR.out.below.trans (hX.below HR.out.below.size (fun k hk => by have hk' : k = bb := hk; omega))
      have hc := to_string (c := 32) (T := L ++ dots) hY (by
        unfold splice
        rw [Nat.zero_add, ← List.append_assoc, h3, ← bc_append, List.take_left' (by rw [bc_length])])
      rw [List.length_append, hlen, show dots.length = 5 from rfl] at hc
      have hB := Lib.hid hB3
      clear h1 h2 h3 hX hY hB3 HR
      rw [← hLt]
      have hdd : bc (⟨#[32, 46, 46, 46, 34]⟩ : ByteArray).data.toList = bc dots := rfl
      have hss : (⟨#[32, 46, 46, 46, 34]⟩ : ByteArray).size = 5 := rfl
      have hroom : m + (⟨#[32, 46, 46, 46, 34]⟩ : ByteArray).size ≤ 32 := by rw [hss]; omega
      have C3 : ∀ j, j < (⟨#[32, 46, 46, 46, 34]⟩ : ByteArray).size → (wr.cell? ⟨bb, 0 + m + j, none⟩).isSome = true := by rw [hss]; exact C1.out
      have C4 : ∀ j, j < (⟨#[32, 46, 46, 46, 34]⟩ : ByteArray).size → wr.frozen? ⟨bb, 0 + m + j, none⟩ = false := by rw [hss]; exact C2.out
      have D3 := Lib.hid C3
      have D4 := Lib.hid C4
      have DR := Lib.hid hroom
      have DD := Lib.hid hdd
      have DS := Lib.hid hss
      clear C1 C2 C3 C4 hroom hdd hss
      go_wp2_with (at_builtin; refine wpList_append_room_string rfl _ _ 26 9 rfl 5 i Tryz.underlying26 Tryz.underlying9 hi hsz bb 0 m 32 ⟨#[32, 46, 46, 46, 34]⟩ rfl rfl DR.out D3.out D4.out ?_; rw [DD.out, DS.out]; generalize wr.setCells bb (0 + m) (bc dots) = w3 at hB hc ⊢)
      go_ret
      exact ⟨rfl, hB.out⟩
end Go.Proofs.YtcajagjgbalakaaGreatFmt
