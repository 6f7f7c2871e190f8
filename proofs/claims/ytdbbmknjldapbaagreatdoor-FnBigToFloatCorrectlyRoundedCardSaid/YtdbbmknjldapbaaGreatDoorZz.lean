/-
  Big integers made of two words (package bigall): Neg in place. Walked.
-/
import Derived.Test.YtdbbmknjldapbaaGreatDoorZj
import Derived.LaidEqlPtr
namespace Go.Proofs.YtdbbmknjldapbaaGreatDoor
set_option linter.unusedVariables false
set_option linter.unusedSimpArgs false
open Go.RowKit Go.Lib Go.Sort

theorem big_size : (Tryz.prog.info? 31).map (·.size) = some 2 := by kernel_rfl
theorem big_same (b : Nat) (w : World) : (binOp .neq 27 (.pointer (some ⟨b, 0, none⟩)) (.pointer (some ⟨b, 0, none⟩))).run Tryz.prog w = .ok (.bool false) w := by
  obtain ⟨j, hj, hs⟩ := Option.map_eq_some_iff.1 big_size
  have hs0 : j.size ≠ 0 := by rw [hs]; decide
  have h : ∀ d : Nat, (Op.equalIn (d + 1) 27 (.pointer (some ⟨b, 0, none⟩)) (.pointer (some ⟨b, 0, none⟩))).run Tryz.prog w = .ok true w := fun d => by
    simp [Op.equalIn, run_underlying Tryz.underlying27, sizeOf, typeInfo, hj, hs0, run_sameAddr_same (P := Tryz.prog) (w := w)]
  simp only [binOp]
  simp [Op.equal, Op.maxDepth, h 9999]
set_option maxRecDepth 100000 in
set_option maxHeartbeats 1600000 in
theorem set_same (b : Nat) (w : World) : Calls Tryz.prog 21 #[.pointer (some ⟨b, 0, none⟩), .pointer (some ⟨b, 0, none⟩)] w fun e w' => e = .returned (.pointer (some ⟨b, 0, none⟩)) ∧ w' = w := by
  have hpe := big_same b
  go_enter Tryz.func21, Tryz.ntmps21
  go_wp2_with fail
  go_ret
  exact ⟨rfl, rfl⟩
set_option maxRecDepth 100000 in
set_option maxHeartbeats 1600000 in
theorem neg_zero (b : Nat) (w : World) (hz : w.heap[b]? = some (.cells #[.bool false, .slice none 0 0] 31 (0, 0))) :
    Calls Tryz.prog 9 #[.pointer (some ⟨b, 0, none⟩), .pointer (some ⟨b, 0, none⟩)] w fun e w' => e = .returned (.pointer (some ⟨b, 0, none⟩)) ∧ w'.heap[b]? = some (.cells #[.bool false, .slice none 0 0] 31 (0, 0)) ∧ Only (fun k => k = b) w w' := by
  have z0 := cells_at hz 0
  have z1 := cells_at hz 1
  simp at z0 z1
  have zf0 := free_whole hz 0
  have zf1 := free_whole hz 1
  have HZ := Lib.hid hz
  have HS := Lib.hid (set_same b)
  clear hz
  go_enter Tryz.func9, Tryz.ntmps9
  go_wp2_with fail
  refine (HS.out _).mono ?_
  rintro e w1 ⟨rfl, rfl⟩
  go_wp2_with fail
  go_ret
  exact ⟨rfl, head_set0 HZ.out _, (Only.refl (fun k => k = b) _).setCell (p := ⟨b, 0, none⟩) rfl _⟩
set_option maxRecDepth 100000 in
set_option maxHeartbeats 1600000 in
theorem neg_any (b L c : Nat) (p : Option Addr) (hL : 0 < L) (w : World) (hz : w.heap[b]? = some (.cells #[.bool false, .slice p L c] 31 (0, 0))) :
    Calls Tryz.prog 9 #[.pointer (some ⟨b, 0, none⟩), .pointer (some ⟨b, 0, none⟩)] w fun e w' => e = .returned (.pointer (some ⟨b, 0, none⟩)) ∧ w'.heap[b]? = some (.cells #[.bool true, .slice p L c] 31 (0, 0)) ∧ Only (fun k => k = b) w w' := by
  have z0 := cells_at hz 0
  have z1 := cells_at hz 1
  simp at z0 z1
  have zf0 := free_whole hz 0
  have zf1 := free_whole hz 1
  have HZ := Lib.hid hz
  have HS := Lib.hid (set_same b)
  clear hz
  go_enter Tryz.func9, Tryz.ntmps9
  go_wp2_with fail
  refine (HS.out _).mono ?_
  rintro e w1 ⟨rfl, rfl⟩
  go_wp2_with fail
  go_ret
  exact ⟨rfl, head_set0 HZ.out _, (Only.refl (fun k => k = b) _).setCell (p := ⟨b, 0, none⟩) rfl _⟩
end Go.Proofs.YtdbbmknjldapbaaGreatDoor
/-
  The law's own door to bigToFloat (package n001_105): a big integer out of a sign and two words, made a float. Walked.
-/
namespace Go.Proofs.YtdbbmknjldapbaaGreatDoor
set_option linter.unusedVariables false
set_option linter.unusedSimpArgs false
open Go.RowKit Go.Lib Go.Sort

set_option maxRecDepth 100000 in
theorem isInt_zero (b : Nat) (neg : Bool) (w : World) (hz : w.heap[b]? = some (.cells #[.bool neg, .slice none 0 0] 31 (0, 0))) :
    Calls Tryz.prog 22 #[.pointer (some ⟨b, 0, none⟩)] w fun e w' => e = .returned (.bool true) ∧ w' = w := by
  have z1 := cells_at hz 1
  simp at z1
  have HL := Lib.hid low_zero
  clear hz
  go_enter Tryz.func22, Tryz.ntmps22
  go_wp2_with fail
  refine (HL.out _).mono ?_
  rintro e w2 ⟨rfl, rfl⟩
  go_wp2_with fail
  go_ret
  exact ⟨rfl, rfl⟩
set_option maxRecDepth 100000 in
theorem int_zero (b : Nat) (neg : Bool) (w : World) (hz : w.heap[b]? = some (.cells #[.bool neg, .slice none 0 0] 31 (0, 0))) :
    Calls Tryz.prog 23 #[.pointer (some ⟨b, 0, none⟩)] w fun e w' => e = .returned (.int .i64 0) ∧ w' = w := by
  have z0 := cells_at hz 0
  have z1 := cells_at hz 1
  simp at z0 z1
  have HL := Lib.hid low_zero
  clear hz
  cases neg
  all_goals
    go_enter Tryz.func23, Tryz.ntmps23
    go_wp2_with fail
    refine (HL.out _).mono ?_
    rintro e w2 ⟨rfl, rfl⟩
    go_wp2_with fail
    go_ret
    exact ⟨rfl, rfl⟩
set_option maxRecDepth 100000 in
set_option maxHeartbeats 1600000 in
theorem btf_zero (b : Nat) (neg : Bool) (w : World) (hz : w.heap[b]? = some (.cells #[.bool neg, .slice none 0 0] 31 (0, 0))) :
    Calls Tryz.prog 10 #[.pointer (some ⟨b, 0, none⟩)] w fun e w' => e = .returned (.float .f64 0) ∧ Below w.heap.size w w' := by
  have HI := Lib.hid (isInt_zero b neg w hz)
  have HV := Lib.hid (int_zero b neg w hz)
  have hf : floatOfInt .f64 0 = 0 := by kernel_rfl
  clear hz
  go_enter Tryz.func10, Tryz.ntmps10
  go_wp2_with fail
  refine HI.out.mono ?_
  rintro e w2 ⟨rfl, rfl⟩
  go_wp2_with fail
  refine HV.out.mono ?_
  rintro e w2 ⟨rfl, rfl⟩
  go_wp2_with fail
  go_ret
  exact ⟨rfl, Below.refl _ _⟩
/-- A big integer of at most one word. -/
def U1 (B : Nat) (w : World) (b v : Nat) : Prop :=
  B ≤ b ∧ ((v = 0 ∧ w.heap[b]? = some (.cells #[.bool false, .slice none 0 0] 31 (0, 0))) ∨ (v ≠ 0 ∧ ∃ G, B ≤ G ∧ G ≠ b ∧ w.heap[b]? = some (.cells #[.bool false, .slice (some ⟨G, 0, none⟩) 1 1] 31 (0, 0)) ∧ Row w G 53 [.int .u64 (v : Int)]))
/-- .. of a high word alone. -/
def U2 (B : Nat) (w : World) (b h : Nat) : Prop :=
  B ≤ b ∧ ((h = 0 ∧ w.heap[b]? = some (.cells #[.bool false, .slice none 0 0] 31 (0, 0))) ∨ (h ≠ 0 ∧ ∃ G, B ≤ G ∧ G ≠ b ∧ w.heap[b]? = some (.cells #[.bool false, .slice (some ⟨G, 0, none⟩) 2 7] 31 (0, 0)) ∧ Row w G 53 [.int .u64 0, .int .u64 (h : Int), .int .u64 0, .int .u64 0, .int .u64 0, .int .u64 0, .int .u64 0]))
/-- .. of two words. -/
def U3 (B : Nat) (w : World) (b : Nat) (neg : Bool) (Q : Nat) : Prop :=
  B ≤ b ∧ ((Q = 0 ∧ w.heap[b]? = some (.cells #[.bool false, .slice none 0 0] 31 (0, 0))) ∨ (Q ≠ 0 ∧ ∃ G c, B ≤ G ∧ BigQ w b G c neg Q))
theorem s1 (B b v : Nat) (hv : v < 18446744073709551616) (hB : B ≤ b) (w : World) (hz : w.heap[b]? = some (.cells #[.bool false, .slice none 0 0] 31 (0, 0))) :
    Calls Tryz.prog 6 #[.pointer (some ⟨b, 0, none⟩), .int .u64 (v : Int)] w fun e w' => e = .returned (.pointer (some ⟨b, 0, none⟩)) ∧ U1 B w' b v ∧ Only (fun k => k = b) w w' := by
  have hlt := head_lt hz
  by_cases h0 : v = 0
  · subst h0
    exact (bigU_zero b w hz).mono (fun e w' hx => ⟨hx.1, ⟨hB, Or.inl ⟨rfl, hx.2.1⟩⟩, hx.2.2⟩)
  · exact (bigU_any b v h0 hv w hz).mono (fun e w' hx => ⟨hx.1, ⟨hB, Or.inr ⟨h0, w.heap.size, by omega, by omega, hx.2.1.1, hx.2.1.2⟩⟩, hx.2.2⟩)
theorem s2 (B b h : Nat) (hh : h < 18446744073709551616) (w : World) (hu : U1 B w b h) :
    Calls Tryz.prog 7 #[.pointer (some ⟨b, 0, none⟩), .pointer (some ⟨b, 0, none⟩), .int .u64 64] w fun e w' => e = .returned (.pointer (some ⟨b, 0, none⟩)) ∧ U2 B w' b h ∧ Only (fun k => k = b) w w' := by
  obtain ⟨hB, hu⟩ := hu
  rcases hu with ⟨h0, hz⟩ | ⟨h0, G, g1, g2, hz, hr⟩
  · exact (bigLsh_zero b w hz).mono (fun e w' hx => ⟨hx.1, ⟨hB, Or.inl ⟨h0, hx.2.1⟩⟩, hx.2.2⟩)
  · have hlt := head_lt hz
    exact (bigLsh_any b G h h0 hh w hz hr).mono (fun e w' hx => ⟨hx.1, ⟨hB, Or.inr ⟨h0, w.heap.size, by omega, by omega, hx.2.1.1, hx.2.1.2⟩⟩, hx.2.2⟩)
theorem nw_two (h l : Nat) (h0 : h ≠ 0) : nw (h * 18446744073709551616 + l) = 2 := by unfold nw; rw [if_neg (by omega), if_neg (by omega)]
theorem nw_one (l : Nat) (h0 : l ≠ 0) (hl : l < 18446744073709551616) : nw l = 1 := by unfold nw; rw [if_neg h0, if_pos hl]
theorem words_two (h l : Nat) (h0 : h ≠ 0) (hl : l < 18446744073709551616) : wordsL (h * 18446744073709551616 + l) = [.int .u64 (l : Int), .int .u64 (h : Int)] := by
  unfold wordsL
  obtain ⟨a, b⟩ := split_words h l hl
  rw [if_neg (by omega), a, b]
theorem words_one (l : Nat) (hl : l < 18446744073709551616) : wordsL l = [.int .u64 (l : Int)] := by
  unfold wordsL
  rw [if_pos hl, Nat.mod_eq_of_lt hl]
theorem big_two {w : World} {b G h l : Nat} (h0 : h ≠ 0) (hh : h < 18446744073709551616) (hl : l < 18446744073709551616) (hne : G ≠ b) (hz : w.heap[b]? = some (.cells #[.bool false, .slice (some ⟨G, 0, none⟩) 2 7] 31 (0, 0))) (hr : Row w G 53 [.int .u64 (l : Int), .int .u64 (h : Int), .int .u64 0, .int .u64 0, .int .u64 0, .int .u64 0, .int .u64 0]) : BigQ w b G 7 false (h * 18446744073709551616 + l) :=
  ⟨by rw [nw_two h l h0]; exact hz, QAt.ofRow (cs := [.int .u64 0, .int .u64 0, .int .u64 0, .int .u64 0, .int .u64 0]) (by decide) (fun _ => by decide) (by omega) (by rw [words_two h l h0 hl]; exact hr), hr.lt, by omega, fun e => hne e.symm⟩
theorem s4 (B b y h l : Nat) (hh : h < 18446744073709551616) (hl : l < 18446744073709551616) (w : World) (hx : U2 B w b h) (hy : U1 B w y l) (hs : B ≤ w.heap.size) :
    Calls Tryz.prog 8 #[.pointer (some ⟨b, 0, none⟩), .pointer (some ⟨b, 0, none⟩), .pointer (some ⟨y, 0, none⟩)] w fun e w' => e = .returned (.pointer (some ⟨b, 0, none⟩)) ∧ U3 B w' b false (h * 18446744073709551616 + l) ∧ Below B w w' := by
  obtain ⟨hB, hx⟩ := hx
  obtain ⟨hB2, hy⟩ := hy
  rcases hx with ⟨h0, hz⟩ | ⟨h0, G, g1, g2, hz, hr⟩
  · subst h0
    rw [Nat.zero_mul, Nat.zero_add]
    have hlt := head_lt hz
    rcases hy with ⟨l0, hyz⟩ | ⟨l0, Gy, y1, y2, hyz, hry⟩
    · exact (bigOr_zero b y w hz hyz).mono (fun e w' hq => ⟨hq.1, ⟨hB, Or.inl ⟨l0, hq.2.1⟩⟩, hq.2.2.below hs (fun k hk => by omega)⟩)
    · exact (bigOr_low b y Gy l l0 w hz hyz hry).mono (fun e w' hq => ⟨hq.1, ⟨hB, Or.inr ⟨l0, w.heap.size, 1, hs, by rw [nw_one l l0 hl]; exact hq.2.1.1, QAt.ofRow (cs := []) (by decide) (fun hge => absurd hl (by omega)) (by omega) (by rw [words_one l hl]; exact hq.2.1.2), hq.2.1.2.lt, l0, by omega⟩⟩, hq.2.2.below hs (fun k hk => by omega)⟩)
  · rcases hy with ⟨l0, hyz⟩ | ⟨l0, Gy, y1, y2, hyz, hry⟩
    · subst l0
      exact (bigOr_high b y G h h0 (fun e => g2 e.symm) w hz hyz hr).mono (fun e w' hq => ⟨hq.1, ⟨hB, Or.inr ⟨by omega, G, 7, g1, big_two h0 hh (by decide) g2 hq.2.1.1 hq.2.1.2⟩⟩, hq.2.2.below hs (fun k hk => by rcases hk with hk | hk <;> omega)⟩)
    · exact (bigOr_both b y G Gy h l h0 hl (fun e => g2 e.symm) w hz hyz hr hry).mono (fun e w' hq => ⟨hq.1, ⟨hB, Or.inr ⟨by omega, G, 7, g1, big_two h0 hh hl g2 hq.2.1.1 hq.2.1.2⟩⟩, hq.2.2.below hs (fun k hk => by rcases hk with hk | hk <;> omega)⟩)
theorem s5 (B b Q : Nat) (w : World) (hu : U3 B w b false Q) (hs : B ≤ w.heap.size) :
    Calls Tryz.prog 9 #[.pointer (some ⟨b, 0, none⟩), .pointer (some ⟨b, 0, none⟩)] w fun e w' => e = .returned (.pointer (some ⟨b, 0, none⟩)) ∧ U3 B w' b true Q ∧ Below B w w' := by
  obtain ⟨hB, hu⟩ := hu
  rcases hu with ⟨h0, hz⟩ | ⟨h0, G, c, g1, hq⟩
  · exact (neg_zero b w hz).mono (fun e w' hx => ⟨hx.1, ⟨hB, Or.inl ⟨h0, hx.2.1⟩⟩, hx.2.2.below hs (fun k hk => by omega)⟩)
  · have hL : 0 < nw Q := by unfold nw; rw [if_neg h0]; split <;> omega
    exact (neg_any b (nw Q) c _ hL w hq.head).mono (fun e w' hx => ⟨hx.1, ⟨hB, Or.inr ⟨h0, G, c, g1, hx.2.1, hq.words.on hx.2.2 (fun e => hq.ne e.symm) hq.lt, Nat.lt_of_lt_of_le hq.lt hx.2.2.size, h0, hq.ne⟩⟩, hx.2.2.below hs (fun k hk => by omega)⟩)
theorem s6 (B b Q : Nat) (neg : Bool) {P L : Addr} {T1 T53 : ByteArray} (w : World) (hT : TabQ P L T1 T53 w) (h8 : w.cell? ⟨6, 0, none⟩ = some (.int .i64 8)) (hu : U3 B w b neg Q) (hQ : Q < 340282366920938463463374607431768211456) :
    Calls Tryz.prog 10 #[.pointer (some ⟨b, 0, none⟩)] w fun e w' => e = .returned (.float .f64 (fw neg Q)) ∧ Below w.heap.size w w' := by
  obtain ⟨hB, hu⟩ := hu
  rcases hu with ⟨h0, hz⟩ | ⟨h0, G, c, g1, hq⟩
  · have : fw neg Q = 0 := by unfold fw; rw [if_pos h0]
    rw [this]
    exact btf_zero b false w hz
  · exact btf_any b G c Q neg hQ w hT hq h8
end Go.Proofs.YtdbbmknjldapbaaGreatDoor
/-
  The law's own door to bigToFloat (package n001_105): walked whole.
-/
namespace Go.Proofs.YtdbbmknjldapbaaGreatDoor
set_option linter.unusedVariables false
set_option linter.unusedSimpArgs false
open Go.RowKit Go.Lib Go.Sort

theorem U2.on {B b h : Nat} {w w' : World} (hu : U2 B w b h) (hb : Below w.heap.size w w') : U2 B w' b h := by
  obtain ⟨hB, hu⟩ := hu
  rcases hu with ⟨h0, hz⟩ | ⟨h0, G, g1, g2, hz, hr⟩
  · exact ⟨hB, Or.inl ⟨h0, (hb.block b (head_lt hz)).trans hz⟩⟩
  · exact ⟨hB, Or.inr ⟨h0, G, g1, g2, (hb.block b (head_lt hz)).trans hz, hr.on hb⟩⟩
theorem new_head (w : World) : (w.alloc (.cells #[.bool false, .slice none 0 0] 31)).heap[w.heap.size]? = some (.cells #[.bool false, .slice none 0 0] 31 (0, 0)) := by
  show (w.heap.push _)[w.heap.size]? = _
  rw [Array.getElem?_push, if_pos rfl]
set_option maxRecDepth 100000 in
set_option maxHeartbeats 3200000 in
theorem zz_pos (hi lo : Nat) (hh : hi < 18446744073709551616) (hl : lo < 18446744073709551616) {P L : Addr} {T1 T53 : ByteArray} (w : World) (hT : TabQ P L T1 T53 w) (h8 : w.cell? ⟨6, 0, none⟩ = some (.int .i64 8)) :
    Calls Tryz.prog 4 #[.bool false, .int .u64 (hi : Int), .int .u64 (lo : Int)] w fun e w' => e = .returned (.float .f64 (fw false (hi * 18446744073709551616 + lo))) ∧ Below w.heap.size w w' := by
  have HT := Lib.hid hT
  have H8 := Lib.hid h8
  have HH := Lib.hid hh
  have HL := Lib.hid hl
  clear hT h8 hh hl
  go_enter Tryz.func4, Tryz.ntmps4
  go_wp2_with fail
  obtain ⟨B, hB⟩ : ∃ B, w.heap.size = B := ⟨_, rfl⟩
  have hn := new_head w
  have hb0 : Below w.heap.size w (w.alloc (.cells #[.bool false, .slice none 0 0] 31)) := by go_grown
  have hs0 : (w.alloc (.cells #[.bool false, .slice none 0 0] 31)).heap.size = w.heap.size + 1 := by simp
  have HBs := Lib.hid hB
  rw [hB] at hn hb0 hs0 ⊢
  have HN := Lib.hid hn
  have HB0 := Lib.hid hb0
  have HS0 := Lib.hid hs0
  clear hn hb0 hs0 hB
  generalize w.alloc (.cells #[.bool false, .slice none 0 0] 31) = w1 at *
  refine (s1 B B hi HH.out (Nat.le_refl _) w1 HN.out).mono ?_
  rintro e w2 ⟨rfl, hu, ho⟩
  have HU := Lib.hid hu
  have HB2 := Lib.hid (HB0.out.trans (ho.below (by have := HS0.out; omega) (fun k hk => by omega)))
  have HS2 : Hid (B + 1 ≤ w2.heap.size) := Lib.hid (by have := HS0.out; have := ho.size; omega)
  clear hu ho
  go_wp2_with fail
  refine (s2 B B hi HH.out w2 HU.out).mono ?_
  rintro e w3 ⟨rfl, hu, ho⟩
  have HU3 := Lib.hid hu
  have HB3 := Lib.hid (HB2.out.trans (ho.below (by have := HS2.out; omega) (fun k hk => by omega)))
  have HS3 : Hid (B + 1 ≤ w3.heap.size) := Lib.hid (by have := HS2.out; have := ho.size; omega)
  clear hu ho
  go_wp2_with fail
  obtain ⟨y, hy⟩ : ∃ y, w3.heap.size = y := ⟨_, rfl⟩
  have hn := new_head w3
  have hb0 : Below w3.heap.size w3 (w3.alloc (.cells #[.bool false, .slice none 0 0] 31)) := by go_grown
  have hs0 : (w3.alloc (.cells #[.bool false, .slice none 0 0] 31)).heap.size = w3.heap.size + 1 := by simp
  rw [hy] at hn hb0 hs0 HS3 ⊢
  have HNy := Lib.hid hn
  have HB4 := Lib.hid (HB3.out.trans (hb0.mono (by have := HS3.out; omega)))
  have HS4 := Lib.hid hs0
  have HBy := Lib.hid hb0
  have HY := Lib.hid hy
  clear hn hb0 hs0 hy
  generalize w3.alloc (.cells #[.bool false, .slice none 0 0] 31) = w4 at *
  refine (s1 B y lo HL.out (by have := HS3.out; omega) w4 HNy.out).mono ?_
  rintro e w5 ⟨rfl, hu, ho⟩
  have HUy := Lib.hid hu
  have HB5 := Lib.hid (HB4.out.trans (ho.below (by have := HS4.out; have := HS3.out; omega) (fun k hk => by have := HS3.out; omega)))
  have HU5 := Lib.hid (HU3.out.on (by rw [HY.out]; exact HBy.out.trans (ho.below (by have := HS4.out; omega) (fun k hk => by omega))))
  have HS5 : Hid (y + 1 ≤ w5.heap.size) := Lib.hid (by have := HS4.out; have := ho.size; omega)
  clear hu ho
  go_wp2_with fail
  refine (s4 B B y hi lo HH.out HL.out w5 HU5.out HUy.out (by have := HS5.out; have := HS3.out; omega)).mono ?_
  rintro e w6 ⟨rfl, hu, hb⟩
  have HU6 := Lib.hid hu
  have HB6 := Lib.hid (HB5.out.trans hb)
  have HS6 : Hid (B ≤ w6.heap.size) := Lib.hid (by have := HS5.out; have := HS3.out; have := hb.size; omega)
  clear hu hb
  go_wp2_with fail
  have hbw : Below w.heap.size w w6 := by rw [HBs.out]; exact HB6.out
  have hlf := (hbw.cell (p := ⟨6, 0, none⟩) (lt_of_cell' H8.out)).trans H8.out
  refine (s6 B B (hi * 18446744073709551616 + lo) false w6 (HT.out.on hbw) hlf HU6.out (by have := HH.out; have := HL.out; omega)).mono ?_
  rintro e w8 ⟨rfl, hb⟩
  have HB8 := Lib.hid (HB6.out.trans (hb.mono HS6.out))
  clear hb hbw hlf
  obtain ⟨F, hF⟩ : ∃ F, fw false (hi * 18446744073709551616 + lo) = F := ⟨_, rfl⟩
  rw [hF]
  have HF := Lib.hid hF
  clear hF
  go_wp2_with fail
  go_ret
  exact ⟨by rw [HF.out]; rfl, by rw [HBs.out]; exact HB8.out⟩
set_option maxRecDepth 100000 in
set_option maxHeartbeats 3200000 in
theorem zz_neg (hi lo : Nat) (hh : hi < 18446744073709551616) (hl : lo < 18446744073709551616) {P L : Addr} {T1 T53 : ByteArray} (w : World) (hT : TabQ P L T1 T53 w) (h8 : w.cell? ⟨6, 0, none⟩ = some (.int .i64 8)) :
    Calls Tryz.prog 4 #[.bool true, .int .u64 (hi : Int), .int .u64 (lo : Int)] w fun e w' => e = .returned (.float .f64 (fw true (hi * 18446744073709551616 + lo))) ∧ Below w.heap.size w w' := by
  have HT := Lib.hid hT
  have H8 := Lib.hid h8
  have HH := Lib.hid hh
  have HL := Lib.hid hl
  clear hT h8 hh hl
  go_enter Tryz.func4, Tryz.ntmps4
  go_wp2_with fail
  obtain ⟨B, hB⟩ : ∃ B, w.heap.size = B := ⟨_, rfl⟩
  have hn := new_head w
  have hb0 : Below w.heap.size w (w.alloc (.cells #[.bool false, .slice none 0 0] 31)) := by go_grown
  have hs0 : (w.alloc (.cells #[.bool false, .slice none 0 0] 31)).heap.size = w.heap.size + 1 := by simp
  have HBs := Lib.hid hB
  rw [hB] at hn hb0 hs0 ⊢
  have HN := Lib.hid hn
  have HB0 := Lib.hid hb0
  have HS0 := Lib.hid hs0
  clear hn hb0 hs0 hB
  generalize w.alloc (.cells #[.bool false, .slice none 0 0] 31) = w1 at *
  refine (s1 B B hi HH.out (Nat.le_refl _) w1 HN.out).mono ?_
  rintro e w2 ⟨rfl, hu, ho⟩
  have HU := Lib.hid hu
  have HB2 := Lib.hid (HB0.out.trans (ho.below (by have := HS0.out; omega) (fun k hk => by omega)))
  have HS2 : Hid (B + 1 ≤ w2.heap.size) := Lib.hid (by have := HS0.out; have := ho.size; omega)
  clear hu ho
  go_wp2_with fail
  refine (s2 B B hi HH.out w2 HU.out).mono ?_
  rintro e w3 ⟨rfl, hu, ho⟩
  have HU3 := Lib.hid hu
  have HB3 := Lib.hid (HB2.out.trans (ho.below (by have := HS2.out; omega) (fun k hk => by omega)))
  have HS3 : Hid (B + 1 ≤ w3.heap.size) := Lib.hid (by have := HS2.out; have := ho.size; omega)
  clear hu ho
  go_wp2_with fail
  obtain ⟨y, hy⟩ : ∃ y, w3.heap.size = y := ⟨_, rfl⟩
  have hn := new_head w3
  have hb0 : Below w3.heap.size w3 (w3.alloc (.cells #[.bool false, .slice none 0 0] 31)) := by go_grown
  have hs0 : (w3.alloc (.cells #[.bool false, .slice none 0 0] 31)).heap.size = w3.heap.size + 1 := by simp
  rw [hy] at hn hb0 hs0 HS3 ⊢
  have HNy := Lib.hid hn
  have HB4 := Lib.hid (HB3.out.trans (hb0.mono (by have := HS3.out; omega)))
  have HS4 := Lib.hid hs0
  have HBy := Lib.hid hb0
  have HY := Lib.hid hy
  clear hn hb0 hs0 hy
  generalize w3.alloc (.cells #[.bool false, .slice none 0 0] 31) = w4 at *
  refine (s1 B y lo HL.out (by have := HS3.out; omega) w4 HNy.out).mono ?_
  rintro e w5 ⟨rfl, hu, ho⟩
  have HUy := Lib.hid hu
  have HB5 := Lib.hid (HB4.out.trans (ho.below (by have := HS4.out; have := HS3.out; omega) (fun k hk => by have := HS3.out; omega)))
  have HU5 := Lib.hid (HU3.out.on (by rw [HY.out]; exact HBy.out.trans (ho.below (by have := HS4.out; omega) (fun k hk => by omega))))
  have HS5 : Hid (y + 1 ≤ w5.heap.size) := Lib.hid (by have := HS4.out; have := ho.size; omega)
  clear hu ho
  go_wp2_with fail
  refine (s4 B B y hi lo HH.out HL.out w5 HU5.out HUy.out (by have := HS5.out; have := HS3.out; omega)).mono ?_
  rintro e w6 ⟨rfl, hu, hb⟩
  have HU6 := Lib.hid hu
  have HB6 := Lib.hid (HB5.out.trans hb)
  have HS6 : Hid (B ≤ w6.heap.size) := Lib.hid (by have := HS5.out; have := HS3.out; have := hb.size; omega)
  clear hu hb
  go_wp2_with fail
  refine (s5 B B (hi * 18446744073709551616 + lo) w6 HU6.out HS6.out).mono ?_
  rintro e w7 ⟨rfl, hu, hb⟩
  have HU7 := Lib.hid hu
  have HB7 := Lib.hid (HB6.out.trans hb)
  have HS7 : Hid (B ≤ w7.heap.size) := Lib.hid (Nat.le_trans HS6.out hb.size)
  clear hu hb
  go_wp2_with fail
  have hbw : Below w.heap.size w w7 := by rw [HBs.out]; exact HB7.out
  have hlf := (hbw.cell (p := ⟨6, 0, none⟩) (lt_of_cell' H8.out)).trans H8.out
  refine (s6 B B (hi * 18446744073709551616 + lo) true w7 (HT.out.on hbw) hlf HU7.out (by have := HH.out; have := HL.out; omega)).mono ?_
  rintro e w8 ⟨rfl, hb⟩
  have HB8 := Lib.hid (HB7.out.trans (hb.mono HS7.out))
  clear hb hbw hlf
  obtain ⟨F, hF⟩ : ∃ F, fw true (hi * 18446744073709551616 + lo) = F := ⟨_, rfl⟩
  rw [hF]
  have HF := Lib.hid hF
  clear hF
  go_wp2_with fail
  go_ret
  exact ⟨by rw [HF.out]; rfl, by rw [HBs.out]; exact HB8.out⟩
end Go.Proofs.YtdbbmknjldapbaaGreatDoor
