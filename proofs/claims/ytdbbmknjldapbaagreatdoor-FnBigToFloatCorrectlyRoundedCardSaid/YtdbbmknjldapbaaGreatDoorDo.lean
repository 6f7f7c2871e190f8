/-
  The library's decimal (internal/strconv.decimal) as an object: 800 digits, their number, the point, two flags. trim, walked.
-/
import Derived.Test.YtdbbmknjldapbaaGreatDoorDc
import Derived.Test.YtdbbmknjldapbaaGreatDoorAid
import Derived.Test.YtdbbmknjldapbaaGreatDoorSays
import Derived.WalkSpells
import Derived.Handy
import Derived.Lib.Hide
import Derived.KernelRfl
import Derived.Deep.QuietTactic
import Derived.BigQuiet
namespace Go.Proofs.YtdbbmknjldapbaaGreatDoor
set_option linter.unusedVariables false
set_option linter.unusedSimpArgs false
open Go.RowKit Go.Lib

/-- The decimal at block b: digits f, nd of them, the point at dp. -/
structure DcAt (w0 w : World) (b : Nat) (f : Nat → UInt8) (nd dp : Int) (neg tr : Bool) : Prop where
  only : Only (fun k => k = b) w0 w
  cur : ∃ cs : List Value, w.heap[b]? = some (.cells cs.toArray 114 (0, 0)) ∧ cs.length = 804 ∧ (∀ i, i < 800 → cs[i]? = some (.int .u8 ((f i).toNat : Int))) ∧ cs[800]? = some (.int .i64 nd) ∧ cs[801]? = some (.int .i64 dp) ∧ cs[802]? = some (.bool neg) ∧ cs[803]? = some (.bool tr)
section
variable {w0 w : World} {b : Nat} {f : Nat → UInt8} {nd dp : Int} {neg tr : Bool}
theorem DcAt.dig (h : DcAt w0 w b f nd dp neg tr) (i : Nat) (hi : i < 800) : w.cell? ⟨b, i, none⟩ = some (.int .u8 ((f i).toNat : Int)) := by
  obtain ⟨cs, h1, h2, h3, h4, h5, h6, h7⟩ := h.cur
  rw [cell_whole h1, h3 i hi]
theorem DcAt.cnt (h : DcAt w0 w b f nd dp neg tr) : w.cell? ⟨b, 800, none⟩ = some (.int .i64 nd) := by
  obtain ⟨cs, h1, h2, h3, h4, h5, h6, h7⟩ := h.cur
  rw [cell_whole h1, h4]
theorem DcAt.pt (h : DcAt w0 w b f nd dp neg tr) : w.cell? ⟨b, 801, none⟩ = some (.int .i64 dp) := by
  obtain ⟨cs, h1, h2, h3, h4, h5, h6, h7⟩ := h.cur
  rw [cell_whole h1, h5]
theorem DcAt.sgn (h : DcAt w0 w b f nd dp neg tr) : w.cell? ⟨b, 802, none⟩ = some (.bool neg) := by
  obtain ⟨cs, h1, h2, h3, h4, h5, h6, h7⟩ := h.cur
  rw [cell_whole h1, h6]
theorem DcAt.cut (h : DcAt w0 w b f nd dp neg tr) : w.cell? ⟨b, 803, none⟩ = some (.bool tr) := by
  obtain ⟨cs, h1, h2, h3, h4, h5, h6, h7⟩ := h.cur
  rw [cell_whole h1, h7]
theorem DcAt.free (h : DcAt w0 w b f nd dp neg tr) (j : Nat) : w.frozen? ⟨b, j, none⟩ = false := by
  obtain ⟨cs, h1, h2, h3, h4, h5, h6, h7⟩ := h.cur
  exact free_whole h1 j
theorem DcAt.drew (h : DcAt w0 w b f nd dp neg tr) : DcAt w0 w.drew b f nd dp neg tr := ⟨h.only.drew, h.cur⟩
theorem DcAt.drewN (h : DcAt w0 w b f nd dp neg tr) (n : Nat) : DcAt w0 (w.drewN n) b f nd dp neg tr := ⟨h.only.drewN n, h.cur⟩
theorem DcAt.lt (h : DcAt w0 w b f nd dp neg tr) : b < w.heap.size := by
  obtain ⟨cs, h1, _⟩ := h.cur
  exact (Array.getElem?_eq_some_iff.1 h1).1
theorem DcAt.here (h : DcAt w0 w b f nd dp neg tr) : DcAt w w b f nd dp neg tr := ⟨Only.refl _ _, h.cur⟩
theorem DcAt.from_ {w1 : World} (h : DcAt w1 w b f nd dp neg tr) (h0 : Only (fun k => k = b) w0 w1) : DcAt w0 w b f nd dp neg tr := ⟨h0.trans h.only, h.cur⟩
theorem set_cells {cs : List Value} {t : TypeId} (h : w.heap[b]? = some (.cells cs.toArray t (0, 0))) (j : Nat) (v : Value) : (w.setCell ⟨b, j, none⟩ v).heap[b]? = some (.cells (cs.set j v).toArray t (0, 0)) := by
  simp only [World.setCell, Array.getElem?_modify, if_true, h, Option.map_some]
  simp
theorem DcAt.setDig (h : DcAt w0 w b f nd dp neg tr) (j : Nat) (hj : j < 800) (c : UInt8) : DcAt w0 (w.setCell ⟨b, j, none⟩ (.int .u8 (c.toNat : Int))) b (fun i => if i = j then c else f i) nd dp neg tr := by
  obtain ⟨cs, h1, h2, h3, h4, h5, h6, h7⟩ := h.cur
  refine ⟨h.only.setCell rfl _, cs.set j (.int .u8 (c.toNat : Int)), set_cells h1 j _, by simpa using h2, fun i hi => ?_, ?_, ?_, ?_, ?_⟩
  · by_cases e : i = j
    · subst e
      rw [List.getElem?_set_self (by omega), if_pos rfl]
    · rw [List.getElem?_set_ne (by omega), if_neg e, h3 i hi]
  all_goals rw [List.getElem?_set_ne (by omega)]; assumption
theorem DcAt.setCnt (h : DcAt w0 w b f nd dp neg tr) (m : Int) : DcAt w0 (w.setCell ⟨b, 800, none⟩ (.int .i64 m)) b f m dp neg tr := by
  obtain ⟨cs, h1, h2, h3, h4, h5, h6, h7⟩ := h.cur
  refine ⟨h.only.setCell rfl _, cs.set 800 (.int .i64 m), set_cells h1 _ _, by simpa using h2, fun i hi => ?_, ?_, ?_, ?_, ?_⟩
  · rw [List.getElem?_set_ne (by omega), h3 i hi]
  · rw [List.getElem?_set_self (by omega)]
  all_goals rw [List.getElem?_set_ne (by omega)]; assumption
theorem DcAt.setPt (h : DcAt w0 w b f nd dp neg tr) (m : Int) : DcAt w0 (w.setCell ⟨b, 801, none⟩ (.int .i64 m)) b f nd m neg tr := by
  obtain ⟨cs, h1, h2, h3, h4, h5, h6, h7⟩ := h.cur
  refine ⟨h.only.setCell rfl _, cs.set 801 (.int .i64 m), set_cells h1 _ _, by simpa using h2, fun i hi => ?_, ?_, ?_, ?_, ?_⟩
  · rw [List.getElem?_set_ne (by omega), h3 i hi]
  · rw [List.getElem?_set_ne (by omega)]; assumption
  · rw [List.getElem?_set_self (by omega)]
  all_goals rw [List.getElem?_set_ne (by omega)]; assumption
theorem DcAt.setSgn (h : DcAt w0 w b f nd dp neg tr) (m : Bool) : DcAt w0 (w.setCell ⟨b, 802, none⟩ (.bool m)) b f nd dp m tr := by
  obtain ⟨cs, h1, h2, h3, h4, h5, h6, h7⟩ := h.cur
  refine ⟨h.only.setCell rfl _, cs.set 802 (.bool m), set_cells h1 _ _, by simpa using h2, fun i hi => ?_, ?_, ?_, ?_, ?_⟩
  · rw [List.getElem?_set_ne (by omega), h3 i hi]
  · rw [List.getElem?_set_ne (by omega)]; assumption
  · rw [List.getElem?_set_ne (by omega)]; assumption
  · rw [List.getElem?_set_self (by omega)]
  all_goals rw [List.getElem?_set_ne (by omega)]; assumption
theorem DcAt.setCut (h : DcAt w0 w b f nd dp neg tr) (m : Bool) : DcAt w0 (w.setCell ⟨b, 803, none⟩ (.bool m)) b f nd dp neg m := by
  obtain ⟨cs, h1, h2, h3, h4, h5, h6, h7⟩ := h.cur
  refine ⟨h.only.setCell rfl _, cs.set 803 (.bool m), set_cells h1 _ _, by simpa using h2, fun i hi => ?_, ?_, ?_, ?_, ?_⟩
  · rw [List.getElem?_set_ne (by omega), h3 i hi]
  · rw [List.getElem?_set_ne (by omega)]; assumption
  · rw [List.getElem?_set_ne (by omega)]; assumption
  · rw [List.getElem?_set_ne (by omega)]; assumption
  · rw [List.getElem?_set_self (by omega)]
end
/-- The first n digits of f. -/
def pre (f : Nat → UInt8) (n : Nat) : List UInt8 := (List.range n).map f
theorem pre_length (f : Nat → UInt8) (n : Nat) : (pre f n).length = n := by simp [pre]
theorem pre_get (f : Nat → UInt8) (n k : Nat) (h : k < (pre f n).length) : (pre f n)[k] = f k := by simp [pre]
theorem pre_succ (f : Nat → UInt8) (n : Nat) : pre f (n + 1) = pre f n ++ [f n] := by simp [pre, List.range_succ]
theorem pre_congr (f g : Nat → UInt8) (n : Nat) (h : ∀ i, i < n → f i = g i) : pre f n = pre g n := by
  unfold pre
  exact List.map_congr_left (fun i hi => h i (List.mem_range.1 hi))
theorem trim_pre (f : Nat → UInt8) (n m : Nat) (hm : m ≤ n) (h : ∀ i, m ≤ i → i < n → (f i).toNat = 48) : pre f n = pre f m ++ List.replicate (n - m) 48 := by
  induction n with
  | zero =>
    obtain rfl : m = 0 := by omega
    rfl
  | succ n ih =>
    rcases Nat.lt_or_ge n m with hlt | hge
    · obtain rfl : m = n + 1 := by omega
      simp
    · rw [pre_succ, ih hge (fun i h1 h2 => h i h1 (by omega)), show n + 1 - m = n - m + 1 by omega, List.replicate_succ', List.append_assoc]
      have : f n = 48 := UInt8.toNat_inj.1 (h n hge (by omega))
      rw [this]
set_option maxRecDepth 100000 in
set_option maxHeartbeats 1600000 in
/-- trim: the zeros at the end go. -/
theorem trim_any (b n : Nat) (f : Nat → UInt8) (dp : Int) (neg tr : Bool) (hn : n ≤ 800) (hp : ∃ i, i < n ∧ (f i).toNat ≠ 48) (w : World) (h : DcAt w w b f (n : Int) dp neg tr) :
    Calls Tryz.prog 161 #[.pointer (some ⟨b, 0, none⟩)] w fun e w' => e = .returned (.tuple #[]) ∧ ∃ m : Nat, 0 < m ∧ m ≤ n ∧ (f (m - 1)).toNat ≠ 48 ∧ (∀ i, m ≤ i → i < n → (f i).toNat = 48) ∧ DcAt w w' b f (m : Int) dp neg tr := by
  have H := Lib.hid h
  have HP := Lib.hid hp
  clear h hp
  go_enter Tryz.func161, Tryz.ntmps161
  go_wp2_with fail
  go_loopw [] (fun wr => ∃ m : Nat, m ≤ n ∧ (∀ i, m ≤ i → i < n → (f i).toNat = 48) ∧ DcAt w wr b f (m : Int) dp neg tr) (fun wr => (match wr.cell? ⟨b, 800, none⟩ with | some v => (RowKit.intOf v).toNat | none => 0))
  case atStart => exact ⟨n, Nat.le_refl _, fun i h1 h2 => absurd h2 (by omega), H.out⟩
  case round =>
    obtain ⟨m, hm, hz, hD⟩ := hrel
    have HD := Lib.hid hD
    have HZ := Lib.hid hz
    have hm0 : 0 < m := by
      rcases Nat.eq_zero_or_pos m with e | e
      · obtain ⟨i, h1, h2⟩ := HP.out
        exact absurd (hz i (by omega) h1) h2
      · exact e
    clear hD hz
    obtain ⟨k, rfl⟩ : ∃ k, m = k + 1 := ⟨m - 1, by omega⟩
    have c0 := HD.out.cnt
    have c1 := HD.out.dig k (by omega)
    have f0 := HD.out.free 800
    have q1 : (0 : Int) < (k : Int) + 1 := by omega
    have q2 : (k : Int) < 800 := by omega
    rw [Int.natCast_add, Int.natCast_one] at c0
    obtain ⟨c, hc⟩ : ∃ c, (f k).toNat = c := ⟨_, rfl⟩
    rw [hc] at c1
    by_cases h48 : c = 48
    · have q3 : ((c : Int) == 48) = true := by rw [beq_iff_eq]; omega
      have HC := Lib.hid (show (f k).toNat = 48 by omega)
      clear hc h48
      go_wp2_with fail
      go_quiet (fail)
      have hD2 := HD.out.drewN nq
      have k0 := hD2.cnt
      have k1 := hD2.free 800
      rw [Int.natCast_add, Int.natCast_one] at k0
      have hD3 := hD2.setCnt (k : Int)
      have HD3 := Lib.hid hD3
      clear c0 c1 f0 hD2 hD3
      generalize wr.drewN nq = w2 at *
      go_wp2_with fail
      go_roundw
      case rel => exact ⟨k, by omega, fun i h1 h2 => by
        rcases Nat.lt_or_ge k i with e | e
        · exact HZ.out i (by omega) h2
        · obtain rfl : i = k := by omega
          exact HC.out, HD3.out⟩
      case measure => rw [HD3.out.cnt, HD.out.cnt]; show (k : Int).toNat < ((k + 1 : Nat) : Int).toNat; omega
    · have q3 : ((c : Int) == 48) = false := by rw [beq_eq_false_iff_ne]; omega
      have HC := Lib.hid (show (f k).toNat ≠ 48 by omega)
      clear hc h48
      go_wp2_with fail
      go_quiet (fail)
      have hD2 := HD.out.drewN nq
      have k0 := hD2.cnt
      rw [Int.natCast_add, Int.natCast_one] at k0
      have HD3 := Lib.hid hD2
      have q4 : ((k : Int) + 1 == 0) = false := by rw [beq_eq_false_iff_ne]; omega
      clear c0 c1 f0 hD2
      generalize wr.drewN nq = w2 at *
      go_wp2_with fail
      go_end0
      exact ⟨rfl, k + 1, by omega, hm, HC.out, HZ.out, HD3.out⟩
end Go.Proofs.YtdbbmknjldapbaaGreatDoor
