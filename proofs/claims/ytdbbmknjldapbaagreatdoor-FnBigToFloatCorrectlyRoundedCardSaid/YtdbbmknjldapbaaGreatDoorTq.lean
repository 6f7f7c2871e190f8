/-
  What strconv reads of its variables where a whole number of up to 39 digits is made a float; parseFloat64 at these powers of ten.
-/
import Derived.Test.YtdbbmknjldapbaaGreatDoorAtof
import Derived.Test.YtdbbmknjldapbaaGreatDoorFb
import Derived.Test.YtdbbmknjldapbaaGreatDoorSt
import Derived.Test.YtdbbmknjldapbaaGreatDoorUo
namespace Go.Proofs.YtdbbmknjldapbaaGreatDoor
set_option linter.unusedVariables false
set_option linter.unusedSimpArgs false
open Go.RowKit Go.Lib Go.Sort

/-- The library's word for 10^p. -/
def tabT (p : Nat) : Nat := 10 ^ p * 9223372036854775808 / 2 ^ (p * 108853 / 32768)
theorem tabT_facts (p : Nat) (hp : p ≤ 20) : 9223372036854775808 ≤ tabT p ∧ tabT p < 18374686479671623680 ∧ tabT p % 2 = 0 ∧ 10 ^ p * 9223372036854775808 = tabT p * 2 ^ (p * 108853 / 32768) ∧ p * 108853 / 32768 ≤ 73 := by
  have h : ∀ p : Fin 21, 9223372036854775808 ≤ tabT p.1 ∧ tabT p.1 < 18374686479671623680 ∧ tabT p.1 % 2 = 0 ∧ 10 ^ p.1 * 9223372036854775808 = tabT p.1 * 2 ^ (p.1 * 108853 / 32768) ∧ p.1 * 108853 / 32768 ≤ 73 := by decide
  exact h ⟨p, by omega⟩
/-- What is read of the library's variables. -/
structure TabQ (P L : Addr) (T1 T53 : ByteArray) (w : World) : Prop where
  opt : w.cell? ⟨4, 0, none⟩ = some (.bool true)
  tw : ∀ p, p ≤ 20 → w.cell? ⟨14, (p + 348) * 2, none⟩ = some (.int .u64 (tabT p : Int)) ∧ w.cell? ⟨14, (p + 348) * 2 + 1, none⟩ = some (.int .u64 0)
  ps : w.cell? ⟨8, 0, none⟩ = some (.slice (some ⟨P.block, P.off, none⟩) 9 9)
  pw : ∀ i, i < 9 → w.cell? ⟨P.block, P.off + i, none⟩ = some (.int .i64 (pw9 i : Int))
  c1 : Cheat w L 1 1 [53] T1
  c53 : Cheat w L 53 16 five53 T53
  i0 : w.cell? ⟨5, 0, none⟩ = some (.int .u64 52)
  i1 : w.cell? ⟨5, 1, none⟩ = some (.int .u64 11)
  i2 : w.cell? ⟨5, 2, none⟩ = some (.int .i64 (-1023))
theorem Cheat.below {L : Addr} {k dl : Nat} {S : List UInt8} {T : ByteArray} {w w' : World} (h : Cheat w L k dl S T) (hb : Below w.heap.size w w') : Cheat w' L k dl S T :=
  ⟨cell_on hb h.tab, cell_on hb h.num, cell_on hb h.str, h.size, h.at_, h.digs, h.len, h.last, h.five, h.cnt, h.lo, h.hi, h.pos, h.kk⟩
theorem TabQ.on {P L : Addr} {T1 T53 : ByteArray} {w w' : World} (h : TabQ P L T1 T53 w) (hb : Below w.heap.size w w') : TabQ P L T1 T53 w' :=
  ⟨cell_on hb h.opt, fun p hp => ⟨cell_on hb (h.tw p hp).1, cell_on hb (h.tw p hp).2⟩, cell_on hb h.ps, fun i hi => cell_on hb (h.pw i hi), h.c1.below hb, h.c53.below hb, cell_on hb h.i0, cell_on hb h.i1, cell_on hb h.i2⟩
/-- .. for a decimal in a block of its own. -/
theorem TabQ.dec {P L : Addr} {T1 T53 : ByteArray} {w w' : World} (h : TabQ P L T1 T53 w) (hb : Below w.heap.size w w') (b : Nat) (hB : w.heap.size ≤ b) : TabD P L b T1 T53 w' := by
  have h2 := h.on hb
  have n1 := lt_of_cell' (h.pw 0 (by decide))
  have n2 := lt_of_cell' h.c1.num
  have n3 := lt_of_cell' h.ps
  have n4 := lt_of_cell' h.c1.tab
  have n5 := lt_of_cell' h.i0
  exact ⟨h2.ps, h2.pw, h2.c1, h2.c53, h2.i0, h2.i1, h2.i2, by omega, by omega, by omega, by omega, by omega⟩
set_option maxRecDepth 100000 in
set_option maxHeartbeats 1600000 in
/-- parseFloat64 at d * 10^p. -/
theorem pf_pow (d p sg : Nat) (hs : sg = 0 ∨ sg = 9223372036854775808) (h0 : 4503599627370496 ≤ d) (h1 : d < 18446744073709551616) (hp : p ≤ 20) {P L : Addr} {T1 T53 : ByteArray} (w : World) (hT : TabQ P L T1 T53 w) :
    Calls Tryz.prog 84 #[.int .u64 (d : Int), .int .i64 (p : Int), .int .u64 (sg : Int)] w fun r w' => r = .returned (.tuple #[.float .f64 (sg + rung (d * 10 ^ p)), .nilIface]) ∧ Below w.heap.size w w' := by
  obtain ⟨b, b1, b2, b3, b4⟩ := log2_bits d h0 h1
  obtain ⟨t1, t2, t3, t4, t5⟩ := tabT_facts p hp
  obtain ⟨u1, u2⟩ := hT.tw p hp
  have hX : d * 2 ^ (64 - b) < 18446744073709551616 := by
    have := (Nat.mul_lt_mul_right (Nat.two_pow_pos (64 - b))).2 b4
    rw [← Nat.pow_add, show b + (64 - b) = 64 by omega] at this
    exact this
  refine pf64 (d * 10 ^ p) d b p (p * 108853 / 32768) (tabT p) sg hs (by omega) b2 b3 b4 (by omega) rfl (by omega) t1 (by omega) t3 ?_ ?_ w u1 u2
  · refine Nat.lt_of_le_of_lt (Nat.mul_le_mul (Nat.le_of_lt hX) (Nat.le_of_lt t2)) (by decide)
  · generalize p * 108853 / 32768 = lp at *
    generalize tabT p = T at *
    have e1 : (2 : Nat) ^ (64 - b) * 2 ^ b = 18446744073709551616 := by rw [← Nat.pow_add, show 64 - b + b = 64 by omega]
    calc d * 10 ^ p * 2 ^ 127 = d * (10 ^ p * 9223372036854775808) * 18446744073709551616 := by
          rw [show (2 : Nat) ^ 127 = 9223372036854775808 * 18446744073709551616 by decide]
          simp only [Nat.mul_assoc]
      _ = d * (T * 2 ^ lp) * (2 ^ (64 - b) * 2 ^ b) := by rw [t4, e1]
      _ = d * 2 ^ (64 - b) * T * 2 ^ (b + lp) := by
          rw [Nat.pow_add]
          simp only [Nat.mul_assoc, Nat.mul_comm, Nat.mul_left_comm]
set_option maxRecDepth 100000 in
theorem exact_off (d p : Nat) (hd : 4503599627370496 ≤ d) (hd2 : d < 18446744073709551616) (neg : Bool) (w : World) (hT : w.cell? ⟨5, 0, none⟩ = some (.int .u64 52)) :
    Calls Tryz.prog 83 #[.int .u64 (d : Int), .int .i64 (p : Int), .bool neg] w fun e w' => e = .returned (.tuple #[.float .f64 0, .bool false]) ∧ Below w.heap.size w w' := by
  have h1 : ((d : Int) / 4503599627370496 != 0) = true := by rw [bne_iff_ne]; omega
  go_enter Tryz.func83, Tryz.ntmps83
  go_wp2
  go_ret2
  exact ⟨rfl, Below.refl _ _⟩
/-- What the law's walk asks of the start. -/
structure TabW (w : World) : Prop where
  tq : ∃ (P L : Addr) (T1 T53 : ByteArray), TabQ P L T1 T53 w
  leaf : w.cell? ⟨6, 0, none⟩ = some (.int .i64 8)
end Go.Proofs.YtdbbmknjldapbaaGreatDoor
