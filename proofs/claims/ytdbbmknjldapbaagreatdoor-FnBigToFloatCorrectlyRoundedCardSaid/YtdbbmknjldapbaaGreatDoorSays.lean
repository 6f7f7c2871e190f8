/-
  'Says': a call that hands back a text and lays only new memory; carried to every later world.
-/
import Derived.Test.YtdbbmknjldapbaaGreatDoorTabs
namespace Go.Proofs.YtdbbmknjldapbaaGreatDoor
set_option linter.unusedVariables false
set_option linter.unusedSimpArgs false
open Go.RowKit Go.Lib

/-- The text is handed back; nothing old has turned. -/
def Says (w : World) (t : List UInt8) (e : Ending) (w' : World) : Prop := e = .returned (.string ⟨t.toArray⟩) ∧ Below w.heap.size w w'

/-- At every world that the start has grown to. -/
theorem says_from {f : FuncId} {args : Array Value} {t : List UInt8} {W : World} (h : ∀ w, Tabs w → Calls Tryz.prog f args w (Says w t)) (hT : Tabs W) :
    ∀ w, Below W.heap.size W w → Calls Tryz.prog f args w fun e w' => e = .returned (.string ⟨t.toArray⟩) ∧ Below W.heap.size W w' := fun w hb =>
  (h w (hT.on hb)).mono fun e w' ⟨he, hb'⟩ => ⟨he, hb.trans ⟨hb'.os, hb'.tape, hb'.output, hb'.size, fun k hk => hb'.block k (Nat.lt_of_lt_of_le hk hb.size)⟩⟩
theorem below_of {B : Nat} {w w' : World} (h : Below w.heap.size w w') (hB : B ≤ w.heap.size) : Below B w w' :=
  ⟨h.os, h.tape, h.output, h.size, fun k hk => h.block k (Nat.lt_of_lt_of_le hk hB)⟩
theorem eq_text {a : List UInt8} {b : ByteArray} (h : b.data.toList = a) : (a == b.toList) = true := by rw [beq_iff_eq, Lib.toList_data, h]
theorem bounds_int {n : Int} (h : (Lit.int .i64 n).wf = true) : -9223372036854775808 ≤ n ∧ n ≤ 9223372036854775807 := by
  simpa [Lit.wf, IntKind.min, IntKind.max, IntKind.signed, IntKind.bits] using h
end Go.Proofs.YtdbbmknjldapbaaGreatDoor
