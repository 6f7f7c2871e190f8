/-
  copy into a block of the call's own, as a run. No program in this text.
-/
import Derived.Test.YtdbbmknjldapbaaGreatDoorSlc
import Derived.Laws.CopyOwn
namespace Go.Proofs.YtdbbmknjldapbaaGreatDoor
set_option linter.unusedVariables false
set_option linter.unusedSimpArgs false
open Go.RowKit

/-- copy(dst[o:], src): dst's block holds cur. -/
theorem copy_run {P : Program} (dT sT ty elem : TypeId) (hu : P.underlying dT = some (.slice elem)) (hsz : (P.info? elem).map (·.size) = some 1) (G o m mc n c : Nat) (sp : Option Addr) (xs cur : List Value) (t : TypeId) (hn : xs.length = n) (hm : n ≤ m) (hcur : o + n ≤ cur.length) (h1 : ∀ v ∈ xs, v.oneCell' = true)
    (w : World) (hG : Row w G t cur) (hS : SliceOf w (.slice sp n c) xs) :
    ∃ w2, (Builtin.copy_ #[dT, sT] ty #[.slice (some ⟨G, o, none⟩) m mc, .slice sp n c]).run P w = .ok (.int .i64 (n : Int)) w2 ∧ Row w2 G t (splice cur o xs) ∧ Only (fun k => k = G) w w2 := by
  rcases hS with ⟨rfl, a, c', hv⟩ | ⟨hne, b, o', c', hv, hb, hc⟩
  · have hn0 : n = 0 := by rw [← hn]; rfl
    subst hn0
    refine ⟨w, ?_, by simpa [splice] using hG, Only.refl _ _⟩
    have := run_copy_none (P := P) w dT sT ty elem (some ⟨G, o, none⟩) sp m mc 0 c hu hsz (by simp)
    rw [this]
    rfl
  · injection hv with e1 e2 e3
    subst e1
    have hr := run_copy_cells (P := P) w dT sT ty elem G o m mc ⟨b, o', none⟩ n c xs hu hsz (by rw [hn]; exact (Nat.min_eq_left hm).symm) (fun j v hj => by rw [WideShapes.add_plain]; exact hc j v hj)
      (fun j hj => by rw [hG.cell (o + j) (by omega)]; rfl) (fun j hj => hG.free _) h1
    rw [hn] at hr
    exact ⟨_, hr, heap_setCells G t (0, 0) xs o w cur hG (by omega), (Only.refl (fun k => k = G) w).setCells rfl _ _⟩
end Go.Proofs.YtdbbmknjldapbaaGreatDoor
