/-
  make of a slice whose elements take one cell: the block that it lays. No program in this text.
-/
import Derived.Test.YtdbbmknjldapbaaGreatDoorAid
import Derived.Laws.MakeOwn
namespace Go.Proofs.YtdbbmknjldapbaaGreatDoor
set_option linter.unusedVariables false
set_option linter.unusedSimpArgs false
open Go.RowKit

/-- What make lays: n zeros. -/
theorem made_zeros (z : Value) (hz : z.cells = #[z]) (n : Nat) : madeCells z.cells n = (List.replicate n z).toArray := by
  unfold madeCells
  rw [hz]
  apply Array.ext
  · simp
  · intro i h1 h2
    simp [Nat.mod_one]
theorem run_mk {P : Program} (t e : TypeId) (z : Value) (by' : Nat) (hu : P.underlying t = some (.slice e)) (hi : (P.info? e).map (fun i => (i.zero, i.size, i.bytes)) = some (some z, 1, by')) (hz : z.cells = #[z]) (l c : Nat) (hlc : l ≤ c) (hb : by' * c ≤ 281474976710656) (hc : c ≤ 281474976710656) (w : World) :
    (Instr.makeSlice t (.int .i64 (l : Int)) (.int .i64 (c : Int))).run P w = .ok (.slice (some ⟨w.heap.size, 0, none⟩) l c) (w.alloc (.cells (Array.replicate c z) e)) := by
  cases hq : P.info? e with
  | none => simp [hq] at hi
  | some i =>
    simp [hq] at hi
    obtain ⟨h1, h2, h3⟩ := hi
    have hb' : (i.bytes : Int) * (c : Int) ≤ 281474976710656 := by
      have h : ((i.bytes * c : Nat) : Int) ≤ 281474976710656 := by rw [h3]; omega
      rwa [Int.natCast_mul] at h
    have hr := run_make (P := P) w t e i z hu hq h1 .i64 .i64 (l : Int) (c : Int) (by omega) (by omega) hb' (by omega)
    rw [hr, h2]
    simp only [Int.toNat_natCast, Nat.mul_one]
    rw [made_zeros z hz, List.toArray_replicate]
end Go.Proofs.YtdbbmknjldapbaaGreatDoor
