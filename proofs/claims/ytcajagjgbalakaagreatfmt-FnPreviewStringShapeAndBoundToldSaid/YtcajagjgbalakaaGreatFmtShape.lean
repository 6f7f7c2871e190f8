/-
  Every preview of a string stands between two quotes. No program in this text.
-/
import Derived.Test.YtcajagjgbalakaaGreatFmtEscB
import Derived.Test.YtcajagjgbalakaaGreatFmtRune
namespace Go.Proofs.YtcajagjgbalakaaGreatFmt
set_option linter.unusedVariables false
set_option linter.unusedSimpArgs false

theorem preview_shape (L : List UInt8) : ∃ mid, previewOf (quoted L) dots = 34 :: (mid ++ [34]) := by
  by_cases hl : (quoted L).length ≤ 30
  · rw [previewOf_short _ _ hl]
    exact ⟨escL L, rfl⟩
  · rw [previewOf_long _ _ (by omega)]
    obtain ⟨r, c, y, h1, h2, h3, h4, h5, h6⟩ := cut_good (quoted_good L) (by omega)
    have hc := h5.four
    rw [show 30 - dots.length = 25 from rfl, h1]
    cases r with
    | nil =>
      simp only [List.length_nil] at h6
      omega
    | cons b r' =>
      unfold quoted at h2
      have hb : 34 = b := (List.cons.inj h2).1
      subst hb
      exact ⟨r' ++ [32, 46, 46, 46], by simp [dots]⟩
end Go.Proofs.YtcajagjgbalakaaGreatFmt
