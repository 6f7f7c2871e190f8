/-
  The decimal text of a big integer beyond int64's bounds (package bigall: Text, String), walked.
-/
import Derived.Test.YtdbbmknjldapbaaGreatDoorIu
import Derived.Test.YtdbbmknjldapbaaGreatDoorPa
import Derived.Laws.IdiomStrings
import Derived.Deep.RegionLaw
namespace Go.Proofs.YtdbbmknjldapbaaGreatDoor
set_option linter.unusedVariables false
set_option linter.unusedSimpArgs false
open Go.RowKit Go.Lib Go.Sort

/-- A big integer at block b: its words in block G. -/
structure BigQ (w : World) (b G c : Nat) (neg : Bool) (Q : Nat) : Prop where
  head : w.heap[b]? = some (.cells #[.bool neg, .slice (some ⟨G, 0, none⟩) (nw Q) c] 31 (0, 0))
  words : QAt w G c Q
  lt : G < w.heap.size
  pos : Q ≠ 0
  ne : b ≠ G
theorem cells_at {w : World} {b : Nat} {t : TypeId} {cs : Array Value} (h : w.heap[b]? = some (.cells cs t (0, 0))) (j : Nat) : w.cell? ⟨b, j, none⟩ = cs[j]? := by simp [World.cell?, h]
theorem tail_string {w : World} {v : Value} {T : List UInt8} (h : Tail w v T) : (convert 74 9 v).run Tryz.prog w = .ok (.string ⟨T.toArray⟩) w := by
  obtain ⟨S, o, c, L, rfl, hr, hd, ho⟩ := h.at_
  refine run_convert_bytes_back w 74 9 5 ⟨S, o, none⟩ _ T Tryz.underlying74 Tryz.underlying5 Tryz.underlying9 (fun j hj => ?_)
  have hl : o + j < L.length := by
    have := congrArg List.length hd
    rw [List.length_drop] at this
    omega
  have := hr.cell (o + j) (by rw [bc_length]; exact hl)
  subst hd
  simp [bc] at this
  by_cases hj0 : j = 0
  · subst hj0; simpa [Addr.add] using this
  · simpa [Addr.add, hj0] using this
theorem undrew' {w w2 : World} (h : Below w.drew.heap.size w.drew w2) : Below w.heap.size w w2 := ⟨h.os, h.tape, h.output, h.size, h.block⟩
set_option maxRecDepth 100000 in
set_option maxHeartbeats 1600000 in
theorem text_pos (b G c Q B : Nat) (hB0 : 64 ≤ B) (hB1 : B ≤ 128) (h0 : 2 ^ (B - 1) ≤ Q) (h1 : Q < 2 ^ B) (w : World) (h : BigQ w b G c false Q) (h8 : w.cell? ⟨6, 0, none⟩ = some (.int .i64 8)) :
    Calls Tryz.prog 42 #[.pointer (some ⟨b, 0, none⟩), .int .i64 10] w fun e w' => (∃ T : List UInt8, e = .returned (.string ⟨T.toArray⟩) ∧ Numeral T Q) ∧ Below w.heap.size w w' := by
  have HI := Lib.hid (itoa_pos G c Q B hB0 hB1 h0 h1 w.drew (h.words.drewN 1) h.lt h8)
  have c0 := cells_at h.head 0
  have c1 := cells_at h.head 1
  simp at c0 c1
  clear hB0 hB1 h0 h1 h8 h
  go_enter Tryz.func42, Tryz.ntmps42
  go_wp2_with fail
  go_region_law (first
      | (go_simp; go_at_call 54; refine HI.out.mono ?_; rintro e w2 ⟨⟨v, T, rfl, hT, hN⟩, hb2⟩; have hcv := tail_string hT; have HN := Lib.hid hN; have HB2 := Lib.hid hb2; clear hT hN hb2))
  all_goals
    go_wp2_with fail
    go_ret
    exact ⟨⟨T, rfl, HN.out⟩, undrew' HB2.out⟩
theorem string_pos (b G c Q B : Nat) (hB0 : 64 ≤ B) (hB1 : B ≤ 128) (h0 : 2 ^ (B - 1) ≤ Q) (h1 : Q < 2 ^ B) (w : World) (h : BigQ w b G c false Q) (h8 : w.cell? ⟨6, 0, none⟩ = some (.int .i64 8)) :
    Calls Tryz.prog 25 #[.pointer (some ⟨b, 0, none⟩)] w fun e w' => (∃ T : List UInt8, e = .returned (.string ⟨T.toArray⟩) ∧ Numeral T Q) ∧ Below w.heap.size w w' := by
  have HI := Lib.hid (text_pos b G c Q B hB0 hB1 h0 h1 w h h8)
  clear hB0 hB1 h0 h1 h8 h
  go_enter Tryz.func25, Tryz.ntmps25
  go_wp2_with fail
  refine HI.out.mono ?_
  rintro e w2 ⟨⟨T, rfl, hN⟩, hb2⟩
  have HN := Lib.hid hN
  have HB2 := Lib.hid hb2
  clear hN hb2
  go_wp2_with fail
  go_ret
  exact ⟨⟨T, rfl, HN.out⟩, HB2.out⟩
set_option maxRecDepth 100000 in
set_option maxHeartbeats 1600000 in
theorem text_neg (b G c Q B : Nat) (hB0 : 64 ≤ B) (hB1 : B ≤ 128) (h0 : 2 ^ (B - 1) ≤ Q) (h1 : Q < 2 ^ B) (w : World) (h : BigQ w b G c true Q) (h8 : w.cell? ⟨6, 0, none⟩ = some (.int .i64 8)) :
    Calls Tryz.prog 42 #[.pointer (some ⟨b, 0, none⟩), .int .i64 10] w fun e w' => (∃ T : List UInt8, e = .returned (.string ⟨(45 :: T).toArray⟩) ∧ Numeral T Q) ∧ Below w.heap.size w w' := by
  have HI := Lib.hid (itoa_neg G c Q B hB0 hB1 h0 h1 w.drew (h.words.drewN 1) h.lt h8)
  have c0 := cells_at h.head 0
  have c1 := cells_at h.head 1
  simp at c0 c1
  clear hB0 hB1 h0 h1 h8 h
  go_enter Tryz.func42, Tryz.ntmps42
  go_wp2_with fail
  go_region_law (first
      | (go_simp; go_at_call 54; refine HI.out.mono ?_; rintro e w2 ⟨⟨v, T, rfl, hT, hN⟩, hb2⟩; have hcv := tail_string hT; have HN := Lib.hid hN; have HB2 := Lib.hid hb2; clear hT hN hb2))
  all_goals
    go_wp2_with fail
    go_ret
    exact ⟨⟨T, rfl, HN.out⟩, undrew' HB2.out⟩
theorem string_neg (b G c Q B : Nat) (hB0 : 64 ≤ B) (hB1 : B ≤ 128) (h0 : 2 ^ (B - 1) ≤ Q) (h1 : Q < 2 ^ B) (w : World) (h : BigQ w b G c true Q) (h8 : w.cell? ⟨6, 0, none⟩ = some (.int .i64 8)) :
    Calls Tryz.prog 25 #[.pointer (some ⟨b, 0, none⟩)] w fun e w' => (∃ T : List UInt8, e = .returned (.string ⟨(45 :: T).toArray⟩) ∧ Numeral T Q) ∧ Below w.heap.size w w' := by
  have HI := Lib.hid (text_neg b G c Q B hB0 hB1 h0 h1 w h h8)
  clear hB0 hB1 h0 h1 h8 h
  go_enter Tryz.func25, Tryz.ntmps25
  go_wp2_with fail
  refine HI.out.mono ?_
  rintro e w2 ⟨⟨T, rfl, hN⟩, hb2⟩
  have HN := Lib.hid hN
  have HB2 := Lib.hid hb2
  clear hN hb2
  go_wp2_with fail
  go_ret
  exact ⟨⟨T, rfl, HN.out⟩, HB2.out⟩
/-- The digits' number. -/
theorem Numeral.len {T : List UInt8} {Q : Nat} (h : Numeral T Q) (h0 : 2 ^ 63 ≤ Q) (h1 : Q < 2 ^ 128) : 19 ≤ T.length ∧ T.length ≤ 39 := by
  have a := valD_lt_pow T h.digs
  have b := valD_ge_pow T h.digs h.pos (h.head h.pos)
  rw [h.val] at a b
  constructor
  · refine Decidable.byContradiction fun hlt => ?_
    have := Nat.pow_le_pow_right (n := 10) (by decide) (show T.length ≤ 18 by omega)
    have h10 : 10 ^ 18 < 2 ^ 63 := by decide
    omega
  · refine Decidable.byContradiction fun hlt => ?_
    have := Nat.pow_le_pow_right (n := 10) (by decide) (show 39 ≤ T.length - 1 by omega)
    have h10 : 2 ^ 128 < 10 ^ 39 := by decide
    omega
theorem Numeral.big0 {T : List UInt8} {Q : Nat} (h : Numeral T Q) (h0 : 2 ^ 63 ≤ Q) (h1 : Q < 2 ^ 128) : NumW ⟨T.toArray⟩ 0 T := by
  obtain ⟨a, b⟩ := h.len h0 h1
  refine ⟨by simp [ByteArray.size], a, b, fun k hk hk' => ?_, fun k hk => h.digs _ (List.getElem_mem hk)⟩
  simp [ByteArray.getElem_eq_getElem_data]
theorem Numeral.big1 {T : List UInt8} {Q : Nat} (h : Numeral T Q) (h0 : 2 ^ 63 ≤ Q) (h1 : Q < 2 ^ 128) : NumW ⟨(45 :: T).toArray⟩ 1 T := by
  obtain ⟨a, b⟩ := h.len h0 h1
  refine ⟨by simp [ByteArray.size], a, b, fun k hk hk' => ?_, fun k hk => h.digs _ (List.getElem_mem hk)⟩
  simp [ByteArray.getElem_eq_getElem_data]
end Go.Proofs.YtdbbmknjldapbaaGreatDoor
/-
  bigToFloat of a big integer of at most two words: the nearest float. Walked.
-/
namespace Go.Proofs.YtdbbmknjldapbaaGreatDoor
set_option linter.unusedVariables false
set_option linter.unusedSimpArgs false
open Go.RowKit Go.Lib Go.Sort

/-- The float of a big integer. -/
def fw (neg : Bool) (Q : Nat) : Nat := if Q = 0 then 0 else (if neg then 9223372036854775808 else 0) + rung Q
theorem low_one (G c m : Nat) (w : World) (h : w.cell? ⟨G, 0, none⟩ = some (.int .u64 (m : Int))) (hm : m < 18446744073709551616) :
    Calls Tryz.prog 39 #[.slice (some ⟨G, 0, none⟩) 1 c] w fun e w' => e = .returned (.int .u64 (m : Int)) ∧ w' = w := by
  have w1 : IntKind.u64.wrap (m : Int) = (m : Int) := by rw [IntKind.wrap_u64]; omega
  clear hm
  go_enter Tryz.func39, Tryz.ntmps39
  go_wp2_with fail
  go_ret
  exact ⟨rfl, rfl⟩
theorem low_zero (w : World) : Calls Tryz.prog 39 #[.slice none 0 0] w fun e w' => e = .returned (.int .u64 0) ∧ w' = w := by
  go_enter Tryz.func39, Tryz.ntmps39
  go_wp2_with fail
  go_ret
  exact ⟨rfl, rfl⟩
/-- What the walks read of a big integer of one word. -/
structure One (w : World) (b G c : Nat) (neg : Bool) (m : Nat) : Prop where
  c0 : w.cell? ⟨b, 0, none⟩ = some (.bool neg)
  c1 : w.cell? ⟨b, 1, none⟩ = some (.slice (some ⟨G, 0, none⟩) 1 c)
  g0 : w.cell? ⟨G, 0, none⟩ = some (.int .u64 (m : Int))
theorem BigQ.one {w : World} {b G c Q : Nat} {neg : Bool} (h : BigQ w b G c neg Q) (hQ : Q < 18446744073709551616) : One w b G c neg Q := by
  have c0 := cells_at h.head 0
  have c1 := cells_at h.head 1
  have e2 : nw Q = 1 := by unfold nw; rw [if_neg h.pos, if_pos hQ]
  have g0 := h.words.c0 h.pos
  rw [Nat.mod_eq_of_lt hQ] at g0
  rw [e2] at c1
  exact ⟨c0, c1, g0⟩
set_option maxRecDepth 100000 in
theorem isInt_two (b G c Q : Nat) (neg : Bool) (w : World) (h : BigQ w b G c neg Q) (hQ : 18446744073709551616 ≤ Q) :
    Calls Tryz.prog 22 #[.pointer (some ⟨b, 0, none⟩)] w fun e w' => e = .returned (.bool false) ∧ ∃ k, w' = w.drewN k := by
  have c1 := cells_at h.head 1
  have e2 : nw Q = 2 := by unfold nw; rw [if_neg h.pos, if_neg (by omega)]
  rw [e2] at c1
  simp at c1
  clear hQ h e2
  go_enter Tryz.func22, Tryz.ntmps22
  go_wp2_with fail
  go_ret
  exact ⟨rfl, 0, rfl⟩
set_option maxRecDepth 100000 in
theorem isInt_small (b G c m : Nat) (neg : Bool) (w : World) (h : One w b G c neg m) (hm : m < 9223372036854775808) :
    Calls Tryz.prog 22 #[.pointer (some ⟨b, 0, none⟩)] w fun e w' => e = .returned (.bool true) ∧ ∃ k, w' = w.drewN k := by
  have c1 := h.c1
  have HL := Lib.hid (fun w h => low_one G c m w h (by omega))
  have HG := Lib.hid h.g0
  have w1 : IntKind.i64.wrap (m : Int) = (m : Int) := by rw [IntKind.wrap_i64]; omega
  clear hm h
  go_enter Tryz.func22, Tryz.ntmps22
  go_wp2_with fail
  refine (HL.out _ HG.out).mono ?_
  rintro e w2 ⟨rfl, rfl⟩
  go_wp2_with fail
  go_ret
  exact ⟨rfl, 0, rfl⟩
set_option maxRecDepth 100000 in
theorem isInt_big (b G c m : Nat) (w : World) (h : One w b G c false m) (h0 : 9223372036854775808 ≤ m) (h1 : m < 18446744073709551616) :
    Calls Tryz.prog 22 #[.pointer (some ⟨b, 0, none⟩)] w fun e w' => e = .returned (.bool false) ∧ ∃ k, w' = w.drewN k := by
  have c0 := h.c0
  have c1 := h.c1
  have HL := Lib.hid (fun w h => low_one G c m w h (by omega))
  have HG := Lib.hid h.g0
  obtain ⟨z, hz⟩ : ∃ z : Int, (m : Int) - 18446744073709551616 = z := ⟨_, rfl⟩
  have w1 : IntKind.i64.wrap (m : Int) = z := by rw [IntKind.wrap_i64]; omega
  have g1 : decide ((0 : Int) ≤ z) = false := decide_eq_false (by omega)
  clear hz h0 h1
  clear h
  go_enter Tryz.func22, Tryz.ntmps22
  go_wp2_with fail
  refine (HL.out _ HG.out).mono ?_
  rintro e w2 ⟨rfl, rfl⟩
  go_wp2_with fail
  try (go_quiet (fail); go_wp2_with fail)
  go_ret
  exact ⟨rfl, by first | exact ⟨0, rfl⟩ | exact ⟨_, rfl⟩⟩
set_option maxRecDepth 100000 in
theorem isInt_big_neg (b G c m : Nat) (w : World) (h : One w b G c true m) (h0 : 9223372036854775808 < m) (h1 : m < 18446744073709551616) :
    Calls Tryz.prog 22 #[.pointer (some ⟨b, 0, none⟩)] w fun e w' => e = .returned (.bool false) ∧ ∃ k, w' = w.drewN k := by
  have c0 := h.c0
  have c1 := h.c1
  have HL := Lib.hid (fun w h => low_one G c m w h (by omega))
  have HG := Lib.hid h.g0
  obtain ⟨z, hz⟩ : ∃ z : Int, (m : Int) - 18446744073709551616 = z := ⟨_, rfl⟩
  have w1 : IntKind.i64.wrap (m : Int) = z := by rw [IntKind.wrap_i64]; omega
  have g1 : decide ((0 : Int) ≤ z) = false := decide_eq_false (by omega)
  have w2 : IntKind.i64.wrap (-z) = -z := by rw [IntKind.wrap_i64]; omega
  have g2 : (z == -z) = false := by rw [beq_eq_false_iff_ne]; omega
  clear hz h0 h1
  clear h
  go_enter Tryz.func22, Tryz.ntmps22
  go_wp2_with fail
  refine (HL.out _ HG.out).mono ?_
  rintro e w2 ⟨rfl, rfl⟩
  go_wp2_with fail
  try (go_quiet (fail); go_wp2_with fail)
  go_ret
  exact ⟨rfl, by first | exact ⟨0, rfl⟩ | exact ⟨_, rfl⟩⟩
set_option maxRecDepth 100000 in
theorem isInt_min (b G c m : Nat) (w : World) (h : One w b G c true m) (h0 : m = 9223372036854775808) :
    Calls Tryz.prog 22 #[.pointer (some ⟨b, 0, none⟩)] w fun e w' => e = .returned (.bool true) ∧ ∃ k, w' = w.drewN k := by
  have c0 := h.c0
  have c1 := h.c1
  have HL := Lib.hid (fun w h => low_one G c m w h (by omega))
  have HG := Lib.hid h.g0
  obtain ⟨z, hz⟩ : ∃ z : Int, (m : Int) - 18446744073709551616 = z := ⟨_, rfl⟩
  have w1 : IntKind.i64.wrap (m : Int) = z := by rw [IntKind.wrap_i64]; omega
  have g1 : decide ((0 : Int) ≤ z) = false := decide_eq_false (by omega)
  have w2 : IntKind.i64.wrap (-z) = z := by rw [IntKind.wrap_i64]; omega
  clear hz h0
  clear h
  go_enter Tryz.func22, Tryz.ntmps22
  go_wp2_with fail
  refine (HL.out _ HG.out).mono ?_
  rintro e w2 ⟨rfl, rfl⟩
  go_wp2_with fail
  try (go_quiet (fail); go_wp2_with fail)
  go_ret
  exact ⟨rfl, by first | exact ⟨0, rfl⟩ | exact ⟨_, rfl⟩⟩
set_option maxRecDepth 100000 in
theorem int_pos (b G c m : Nat) (w : World) (h : One w b G c false m) (h0 : m < 9223372036854775808) :
    Calls Tryz.prog 23 #[.pointer (some ⟨b, 0, none⟩)] w fun e w' => e = .returned (.int .i64 ((m : Int))) ∧ ∃ k, w' = w.drewN k := by
  have c0 := h.c0
  have c1 := h.c1
  have HL := Lib.hid (fun w h => low_one G c m w h (by omega))
  have HG := Lib.hid h.g0
  have w1 : IntKind.i64.wrap (m : Int) = (m : Int) := by rw [IntKind.wrap_i64]; omega
  clear h0
  clear h
  go_enter Tryz.func23, Tryz.ntmps23
  go_wp2_with fail
  refine (HL.out _ HG.out).mono ?_
  rintro e w2 ⟨rfl, rfl⟩
  go_wp2_with fail
  go_ret
  exact ⟨rfl, 0, rfl⟩
set_option maxRecDepth 100000 in
theorem int_neg (b G c m : Nat) (w : World) (h : One w b G c true m) (h0 : m < 9223372036854775808) :
    Calls Tryz.prog 23 #[.pointer (some ⟨b, 0, none⟩)] w fun e w' => e = .returned (.int .i64 (-(m : Int))) ∧ ∃ k, w' = w.drewN k := by
  have c0 := h.c0
  have c1 := h.c1
  have HL := Lib.hid (fun w h => low_one G c m w h (by omega))
  have HG := Lib.hid h.g0
  have w1 : IntKind.i64.wrap (m : Int) = (m : Int) := by rw [IntKind.wrap_i64]; omega
  have w2 : IntKind.i64.wrap (-(m : Int)) = -(m : Int) := by rw [IntKind.wrap_i64]; omega
  clear h0
  clear h
  go_enter Tryz.func23, Tryz.ntmps23
  go_wp2_with fail
  refine (HL.out _ HG.out).mono ?_
  rintro e w2 ⟨rfl, rfl⟩
  go_wp2_with fail
  go_ret
  exact ⟨rfl, 0, rfl⟩
set_option maxRecDepth 100000 in
theorem int_min (b G c m : Nat) (w : World) (h : One w b G c true m) (h0 : m = 9223372036854775808) :
    Calls Tryz.prog 23 #[.pointer (some ⟨b, 0, none⟩)] w fun e w' => e = .returned (.int .i64 (-(m : Int))) ∧ ∃ k, w' = w.drewN k := by
  have c0 := h.c0
  have c1 := h.c1
  have HL := Lib.hid (fun w h => low_one G c m w h (by omega))
  have HG := Lib.hid h.g0
  obtain ⟨z, hz⟩ : ∃ z : Int, -(m : Int) = z := ⟨_, rfl⟩
  have w1 : IntKind.i64.wrap (m : Int) = z := by rw [IntKind.wrap_i64]; omega
  have w2 : IntKind.i64.wrap (-z) = z := by rw [IntKind.wrap_i64]; omega
  rw [hz]
  clear h0 hz
  clear h
  go_enter Tryz.func23, Tryz.ntmps23
  go_wp2_with fail
  refine (HL.out _ HG.out).mono ?_
  rintro e w2 ⟨rfl, rfl⟩
  go_wp2_with fail
  go_ret
  exact ⟨rfl, 0, rfl⟩
theorem One.drewN {w : World} {b G c m : Nat} {neg : Bool} (h : One w b G c neg m) (k : Nat) : One (w.drewN k) b G c neg m := ⟨h.c0, h.c1, h.g0⟩
theorem BigQ.drewN {w : World} {b G c Q : Nat} {neg : Bool} (h : BigQ w b G c neg Q) (k : Nat) : BigQ (w.drewN k) b G c neg Q := ⟨h.head, h.words.drewN k, h.lt, h.pos, h.ne⟩
set_option maxRecDepth 100000 in
set_option maxHeartbeats 1600000 in
/-- .. inside int64's bounds. -/
theorem btf_int (b G c m : Nat) (neg : Bool) (n : Int) (F : Nat) (w : World) (h : One w b G c neg m)
    (HI0 : ∀ w, One w b G c neg m → Calls Tryz.prog 22 #[.pointer (some ⟨b, 0, none⟩)] w fun e w' => e = .returned (.bool true) ∧ ∃ k, w' = w.drewN k)
    (HV0 : ∀ w, One w b G c neg m → Calls Tryz.prog 23 #[.pointer (some ⟨b, 0, none⟩)] w fun e w' => e = .returned (.int .i64 n) ∧ ∃ k, w' = w.drewN k)
    (hF : floatOfInt .f64 n = F) :
    Calls Tryz.prog 10 #[.pointer (some ⟨b, 0, none⟩)] w fun e w' => e = .returned (.float .f64 F) ∧ Below w.heap.size w w' := by
  have HI := Lib.hid HI0
  have HV := Lib.hid HV0
  have HO := Lib.hid h
  clear h HI0 HV0
  go_enter Tryz.func10, Tryz.ntmps10
  go_wp2_with fail
  refine (HI.out _ HO.out).mono ?_
  rintro e w2 ⟨rfl, k, rfl⟩
  go_wp2_with fail
  refine (HV.out _ (HO.out.drewN k)).mono ?_
  rintro e w2 ⟨rfl, k2, rfl⟩
  go_wp2_with fail
  go_ret
  exact ⟨rfl, ⟨rfl, rfl, rfl, Nat.le_refl _, fun _ _ => rfl⟩⟩
set_option maxRecDepth 100000 in
set_option maxHeartbeats 1600000 in
/-- .. beyond. -/
theorem btf_text (b : Nat) (Good : ByteArray → Prop) (F : Nat) {P L : Addr} {T1 T53 : ByteArray} (w : World) (hT : TabQ P L T1 T53 w)
    (HI0 : Calls Tryz.prog 22 #[.pointer (some ⟨b, 0, none⟩)] w fun e w' => e = .returned (.bool false) ∧ ∃ k, w' = w.drewN k)
    (HS0 : ∀ k, Calls Tryz.prog 25 #[.pointer (some ⟨b, 0, none⟩)] (w.drewN k) fun e w' => (∃ s, e = .returned (.string s) ∧ Good s) ∧ Below w.heap.size w w')
    (HP0 : ∀ s w, Good s → TabQ P L T1 T53 w → Calls Tryz.prog 24 #[.string s, .int .i64 64] w fun e w' => e = .returned (.tuple #[.float .f64 F, .nilIface]) ∧ Below w.heap.size w w') :
    Calls Tryz.prog 10 #[.pointer (some ⟨b, 0, none⟩)] w fun e w' => e = .returned (.float .f64 F) ∧ Below w.heap.size w w' := by
  have HI := Lib.hid HI0
  have HS := Lib.hid HS0
  have HP := Lib.hid HP0
  have HT := Lib.hid hT
  clear hT HI0 HS0 HP0
  go_enter Tryz.func10, Tryz.ntmps10
  go_wp2_with fail
  refine HI.out.mono ?_
  rintro e w2 ⟨rfl, k, rfl⟩
  go_wp2_with fail
  refine (HS.out k).mono ?_
  rintro e w2 ⟨⟨s, rfl, hs⟩, hb2⟩
  have HB2 := Lib.hid hb2
  have HGS := Lib.hid hs
  clear hb2 hs
  go_wp2_with fail
  refine (HP.out _ _ HGS.out (HT.out.on HB2.out)).mono ?_
  rintro e w3 ⟨rfl, hb3⟩
  have HB3 := Lib.hid (HB2.out.trans (below_of hb3 HB2.out.size))
  clear hb3
  go_wp2_with fail
  go_ret
  exact ⟨rfl, HB3.out⟩
/-- bigToFloat of a big integer that is not zero. -/
theorem btf_any (b G c Q : Nat) (neg : Bool) (hQ : Q < 340282366920938463463374607431768211456) {P L : Addr} {T1 T53 : ByteArray} (w : World) (hT : TabQ P L T1 T53 w) (h : BigQ w b G c neg Q) (h8 : w.cell? ⟨6, 0, none⟩ = some (.int .i64 8)) :
    Calls Tryz.prog 10 #[.pointer (some ⟨b, 0, none⟩)] w fun e w' => e = .returned (.float .f64 (fw neg Q)) ∧ Below w.heap.size w w' := by
  have hp := h.pos
  have hfw : fw neg Q = (if neg then 9223372036854775808 else 0) + rung Q := by unfold fw; rw [if_neg hp]
  rw [hfw]
  by_cases hs : Q < 9223372036854775808 ∨ (neg = true ∧ Q = 9223372036854775808)
  · have hone := h.one (by omega)
    cases neg
    · have hs' : Q < 9223372036854775808 := by rcases hs with h | h; exact h; exact absurd h.1 (by decide)
      rw [if_neg (by decide), Nat.zero_add]
      exact btf_int b G c Q false (Q : Int) _ w hone (fun w h => isInt_small b G c Q false w h hs') (fun w h => int_pos b G c Q w h hs') (float_nat Q)
    · rw [if_pos rfl]
      by_cases hs' : Q < 9223372036854775808
      · exact btf_int b G c Q true (-(Q : Int)) _ w hone (fun w h => isInt_small b G c Q true w h hs') (fun w h => int_neg b G c Q w h hs') (float_neg Q (by omega))
      · have hm : Q = 9223372036854775808 := by rcases hs with h | h; exact absurd h hs'; exact h.2
        exact btf_int b G c Q true (-(Q : Int)) _ w hone (fun w h => isInt_min b G c Q w h hm) (fun w h => int_min b G c Q w h hm) (float_neg Q (by omega))
  · have h63 : 9223372036854775808 ≤ Q := by
      refine Decidable.byContradiction fun hlt => hs (Or.inl (by omega))
    have h2 : neg = true → 9223372036854775808 < Q := fun hn => by
      refine Decidable.byContradiction fun hlt => hs (Or.inr ⟨hn, by omega⟩)
    have HI : Calls Tryz.prog 22 #[.pointer (some ⟨b, 0, none⟩)] w fun e w' => e = .returned (.bool false) ∧ ∃ k, w' = w.drewN k := by
      by_cases hM : 18446744073709551616 ≤ Q
      · exact isInt_two b G c Q neg w h hM
      · have hone := h.one (by omega)
        cases neg
        · exact isInt_big b G c Q w hone h63 (by omega)
        · exact isInt_big_neg b G c Q w hone (h2 rfl) (by omega)
    obtain ⟨b0, b1⟩ := log2_lt Q hp
    have l0 : 63 ≤ Q.log2 := (Nat.le_log2 hp).2 (by omega)
    have l1 : Q.log2 < 128 := (Nat.log2_lt hp).2 (by omega)
    cases neg
    · rw [if_neg (by decide)]
      refine btf_text b (fun s => ∃ T : List UInt8, s = ⟨T.toArray⟩ ∧ Numeral T Q) _ w hT HI (fun k => ?_) (fun s w' hg hT' => ?_)
      · refine (string_pos b G c Q (Q.log2 + 1) (by omega) (by omega) (by rw [Nat.add_sub_cancel]; exact b0) b1 (w.drewN k) (h.drewN k) h8).mono ?_
        rintro e w' ⟨⟨T, rfl, hN⟩, hb⟩
        exact ⟨⟨_, rfl, T, rfl, hN⟩, ⟨hb.os, hb.tape, hb.output, hb.size, hb.block⟩⟩
      · obtain ⟨T, rfl, hN⟩ := hg
        refine parse_big _ _ (fun wz hz => ?_) w' hT'
        have := atof_big_pos ⟨T.toArray⟩ T (hN.big0 (by omega) (by omega)) hN.head (by rw [hN.val]; omega) wz hz
        rw [hN.val] at this
        exact this
    · rw [if_pos rfl]
      refine btf_text b (fun s => ∃ T : List UInt8, s = ⟨(45 :: T).toArray⟩ ∧ Numeral T Q) _ w hT HI (fun k => ?_) (fun s w' hg hT' => ?_)
      · refine (string_neg b G c Q (Q.log2 + 1) (by omega) (by omega) (by rw [Nat.add_sub_cancel]; exact b0) b1 (w.drewN k) (h.drewN k) h8).mono ?_
        rintro e w' ⟨⟨T, rfl, hN⟩, hb⟩
        exact ⟨⟨_, rfl, T, rfl, hN⟩, ⟨hb.os, hb.tape, hb.output, hb.size, hb.block⟩⟩
      · obtain ⟨T, rfl, hN⟩ := hg
        refine parse_big _ _ (fun wz hz => ?_) w' hT'
        have := atof_big_neg ⟨(45 :: T).toArray⟩ T (hN.big1 (by omega) (by omega)) (fun h => by rfl) hN.head (by rw [hN.val]; omega) wz hz
        rw [hN.val] at this
        exact this
end Go.Proofs.YtdbbmknjldapbaaGreatDoor
