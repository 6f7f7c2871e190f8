/-
  localtime of a float, walked.
-/
import Derived.Test.YtmbegjbhmeihiaaGreatDoorEpoch
import Derived.Test.YtmbegjbhmeihiaaGreatDoorAs
namespace Go.Proofs.YtmbegjbhmeihiaaGreatDoor
set_option linter.unusedVariables false
set_option linter.unusedSimpArgs false
open Go.RowKit Go.Lib

theorem asFloatInt (v : Value) (w : World) : (Instr.typeAssert (.iface 33 v) 20 3 true).run Tryz.prog w = .ok (.tuple #[.int .i64 0, .bool false]) w := by kernel_rfl
theorem asFloatFloat (v : Value) (w : World) : (Instr.typeAssert (.iface 33 v) 20 33 true).run Tryz.prog w = .ok (.tuple #[v, .bool true]) w := by kernel_rfl
theorem asArrArr (v : Value) (w : World) : (Instr.typeAssert (.iface 47 v) 20 47 true).run Tryz.prog w = .ok (.tuple #[v, .bool true]) w := by kernel_rfl
/-- What localtime hands back. -/
def Local (w : World) (u k : Int) (e : Ending) (w' : World) : Prop := ∃ (b r : Nat), e = .returned (.iface 47 (.slice (some ⟨b, 0, none⟩) 8 8)) ∧ w.heap.size ≤ b ∧ Fl r (512 * ((u + 9223372028741760000) % 60) + k) ∧
  w'.heap[b]? = some (.cells #[.iface 3 (.int .i64 (gY ((u + 9223372028741760000) / 86400))), .iface 3 (.int .i64 (gM ((u + 9223372028741760000) / 86400) - 1)), .iface 3 (.int .i64 (gD ((u + 9223372028741760000) / 86400))),
    .iface 3 (.int .i64 ((u + 9223372028741760000) % 86400 / 3600)), .iface 3 (.int .i64 ((u + 9223372028741760000) % 3600 / 60)), .iface 33 (.float .f64 r), .iface 3 (.int .i64 (((u + 9223372028741760000) / 86400 + 3) % 7)),
    .iface 3 (.int .i64 (gYday ((u + 9223372028741760000) / 86400) - 1))] 20 (0, 0)) ∧ Below w.heap.size w w'
set_option maxRecDepth 100000 in
set_option maxHeartbeats 1600000 in
theorem local_any (x : Nat) (z : Int) (h : Fl x z) (hz0 : -562949953421312 ≤ z) (hz1 : z ≤ 562949953421823) (w : World) :
    Calls Tryz.prog 26 #[.iface 33 (.float .f64 x)] w (Local w (z.tdiv 512) (z % 512)) := by
  have HE := Lib.hid (fun b w hb hU => epoch_any x z h hz0 hz1 b w hb hU)
  have as1 := asFloatInt
  have as2 := asFloatFloat
  clear h hz0 hz1
  generalize z.tdiv 512 = u at HE ⊢
  generalize z % 512 = k at HE ⊢
  go_enter Tryz.func26, Tryz.ntmps26
  go_wp2_with (first | (go_at_call 44; go_in) | (go_at_call 42; go_in))
  refine (HE.out _ _ (by simp) ?_).mono ?_
  · unfold Utc
    go_simp
  rintro e w1 ⟨b, r, rfl, h1, h2, h3, h4⟩
  have H2 := Lib.hid h2
  have H3 := Lib.hid h3
  have hsz : w.heap.size ≤ b := by simp at h1; omega
  have hb := below_alloc h4
  clear h1 h2 h3 h4
  unfold Local
  go_wp2_with fail
  go_ret
  exact ⟨b, r, rfl, hsz, H2.out, H3.out, hb⟩
end Go.Proofs.YtmbegjbhmeihiaaGreatDoor
