/-
  The text of a jsonParseError at the end of input: the walk of the law FnJSONParseErrorTextIgnoresContentsAndOffset.
-/
import Derived.Test.YtogpfacfifajgaaGreatFmtProg
import Derived.Test.YtogpfacfifajgaaGreatFmtAid
import Derived.Handy
import Derived.Lib.Hide
import Derived.WalkSpells
import Derived.Deep.RegionWith
namespace Go.Proofs.YtogpfacfifajgaaGreatFmt
open Go.RowKit

set_option maxHeartbeats 400000 in
theorem json_room (s0 s1 s2 : ByteArray) (n1 n2 : Int) (w : World) (h0 : s0.size ≤ 140737488351232) (h1 : s1.size ≤ 140737488351232) (h2 : s2.size ≤ 140737488351232) :
    Calls Tryz.prog 18 #[.string s0, .string s1, .string s2, .int .i64 n1, .int .i64 n2] w fun e w' => (∃ b, e = .returned (.bool b)) ∧ Below w.heap.size w w' := by
  go_enter Tryz.func18, Tryz.ntmps18
  go_wp2
  repeat (any_goals go_region; any_goals go_wp2)
  all_goals (go_ret; exact ⟨⟨_, rfl⟩, by go_grown⟩)

/-- A jsonParseError at block b, its inner error a ParseError at end of input at block c. -/
structure JErr (w : World) (b c : Nat) (s0 s1 : ByteArray) (n1 : Int) : Prop where
  outer : w.heap[b]? = some (.cells #[.string s0, .string s1, .iface 44 (.pointer (some ⟨c, 0, none⟩))] 50 (0, 0))
  inner : w.heap[c]? = some (.cells #[.int .i64 n1, .string ⟨#[]⟩, .int .i64 (-1)] 46 (0, 0))

set_option maxHeartbeats 400000 in
theorem json_new (s0 s1 : ByteArray) (n1 : Int) (w : World) :
    Calls Tryz.prog 20 #[.string s0, .string s1, .int .i64 n1] w fun e w' => ∃ b c, e = .returned (.pointer (some ⟨b, 0, none⟩)) ∧ JErr w' b c s0 s1 n1 ∧ Below w.heap.size w w' := by
  go_enter Tryz.func20, Tryz.ntmps20
  go_wp2
  repeat (any_goals go_region; any_goals go_wp2)
  go_ret
  refine ⟨w.heap.size + 1, w.heap.size, rfl, ⟨?_, ?_⟩, by go_grown⟩
  · show ((w.heap.push _).push _)[w.heap.size + 1]? = _
    rw [Array.getElem?_push, if_pos (by simp)]
  · show ((w.heap.push _).push _)[w.heap.size]? = _
    rw [Array.getElem?_push, if_neg (by simp), Array.getElem?_push, if_pos rfl]

set_option maxHeartbeats 400000 in
theorem eof_error (c : Nat) (n1 : Int) (w : World) (hc : w.heap[c]? = some (.cells #[.int .i64 n1, .string ⟨#[]⟩, .int .i64 (-1)] 46 (0, 0))) :
    Calls Tryz.prog 278 #[.pointer (some ⟨c, 0, none⟩)] w fun e w' => e = .returned (.string ⟨#[117, 110, 101, 120, 112, 101, 99, 116, 101, 100, 32, 69, 79, 70]⟩) ∧ ∃ m, w' = w.drewN m := by
  have c0 : w.cell? ⟨c, 2, none⟩ = some (.int .i64 (-1)) := by simp [World.cell?, hc]
  go_enter Tryz.func278, Tryz.ntmps278
  go_wp2
  repeat (any_goals go_region; any_goals go_wp2)
  go_ret
  exact ⟨rfl, 0, rfl⟩

/-- The text. -/
def jsonText (s0 : ByteArray) : ByteArray := ⟨#[105, 110, 118, 97, 108, 105, 100, 32, 106, 115, 111, 110, 58, 32]⟩ ++ s0 ++ ⟨#[58, 32]⟩ ++ ⟨#[117, 110, 101, 120, 112, 101, 99, 116, 101, 100, 32, 69, 79, 70]⟩

set_option maxRecDepth 100000 in
set_option maxHeartbeats 400000 in
theorem json_error (b c : Nat) (s0 s1 : ByteArray) (n1 : Int) (w : World) (h0 : s0.size ≤ 65536) (hj : JErr w b c s0 s1 n1) :
    Calls Tryz.prog 32 #[.pointer (some ⟨b, 0, none⟩)] w fun e w' => e = .returned (.string (jsonText s0)) ∧ ∃ m, w' = w.drewN m := by
  have c0 : w.cell? ⟨b, 0, none⟩ = some (.string s0) := by simp [World.cell?, hj.outer]
  have c2 : w.cell? ⟨b, 2, none⟩ = some (.iface 44 (.pointer (some ⟨c, 0, none⟩))) := by simp [World.cell?, hj.outer]
  have hin := hj.inner
  go_enter Tryz.func32, Tryz.ntmps32
  go_wp2
  go_region_with (go_at_call 278; have hh := eof_error c n1 w.drew hin; refine hh.mono ?_; rintro e w' ⟨he, m, hw⟩; subst he; subst hw)
  all_goals go_wp2
  all_goals go_ret
  all_goals exact ⟨rfl, 1 + m, rfl⟩
end Go.Proofs.YtogpfacfifajgaaGreatFmt
