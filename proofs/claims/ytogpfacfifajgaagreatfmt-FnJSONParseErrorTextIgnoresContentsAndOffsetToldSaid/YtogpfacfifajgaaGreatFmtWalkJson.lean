/-
  The walk of the law FnJSONParseErrorTextIgnoresContentsAndOffset.
-/
import Derived.Test.YtogpfacfifajgaaGreatFmtJson
import Derived.WalkSmall
namespace Go.Proofs.YtogpfacfifajgaaGreatFmt
open Go.RowKit

theorem jsonText_size (s0 : ByteArray) : (jsonText s0).size = 14 + s0.size + 2 + 14 := by
  simp [jsonText, ByteArray.size_append]
  rfl

theorem text_head (a b : ByteArray) : (a ++ b).extract 0 a.size = a := by
  apply ByteArray.ext
  simp [ByteArray.data_extract, ByteArray.data_append]

theorem JErr.below {w w' : World} {b c : Nat} {s0 s1 : ByteArray} {n1 : Int} (h : JErr w b c s0 s1 n1) (hb : Below w.heap.size w w') : JErr w' b c s0 s1 n1 := by
  have q : ∀ (k : Nat) (o : Obj), w.heap[k]? = some o → w'.heap[k]? = some o := fun k o hk => by
    rw [hb.block k (by
      rcases Nat.lt_or_ge k w.heap.size with h | h
      · exact h
      · rw [Array.getElem?_eq_none h] at hk; cases hk)]
    exact hk
  exact ⟨q _ _ h.outer, q _ _ h.inner⟩

set_option maxHeartbeats 400000 in
theorem json_said (b c : Nat) (s0 s1 : ByteArray) (n1 : Int) (w : World) (h0 : s0.size ≤ 65536) (hj : JErr w b c s0 s1 n1) :
    Calls Tryz.prog 19 #[.pointer (some ⟨b, 0, none⟩)] w fun e w' => e = .returned (.string (jsonText s0)) ∧ ∃ m, w' = w.drewN m := by
  go_enter Tryz.func19, Tryz.ntmps19
  go_wp2_with fail
  refine (json_error b c s0 s1 n1 _ h0 hj).mono ?_
  rintro e w' ⟨rfl, m, rfl⟩
  go_wp2
  go_ret
  exact ⟨rfl, m, rfl⟩

set_option maxHeartbeats 400000 in
theorem walk_FnJSONParseErrorTextIgnoresContentsAndOffset (s0 s1 s2 : ByteArray) (n1 n2 : Int) (w : World) (h0 : s0.size ≤ 140737488351232) (h1 : s1.size ≤ 140737488351232) (h2 : s2.size ≤ 140737488351232) (_ : (Lit.int .i64 n1).wf = true) (_ : (Lit.int .i64 n2).wf = true) :
    Calls Tryz.prog 6 #[.string s0, .string s1, .string s2, .int .i64 n1, .int .i64 n2] w fun e w' => e = .returned (.bool true) ∧ Below w.heap.size w w' := by
  go_enter Tryz.func6, Tryz.ntmps6
  go_wp2_with fail
  refine (json_room s0 s1 s2 n1 n2 _ h0 h1 h2).mono ?_
  rintro e w1 ⟨⟨b, rfl⟩, bel⟩
  cases b
  · go_wp2
    go_ret
    exact ⟨rfl, bel⟩
  · go_wp2_with fail
    all_goals first | (go_ret; exact ⟨rfl, by go_grown⟩) | skip
    have z0 : s0.size ≤ 65536 := by omega
    refine (json_new s0 s1 n1 _).mono ?_
    rintro e w2 ⟨b1, c1, rfl, j1, bel2⟩
    go_wp2_with fail
    refine (json_said b1 c1 s0 s1 n1 _ z0 j1).mono ?_
    rintro e w3 ⟨rfl, m1, rfl⟩
    go_wp2_with fail
    refine (json_new s0 s2 n2 _).mono ?_
    rintro e w4 ⟨b2, c2, rfl, j2, bel4⟩
    go_wp2_with fail
    refine (json_said b2 c2 s0 s2 n2 _ z0 j2).mono ?_
    rintro e w5 ⟨rfl, m2, rfl⟩
    have hsz := jsonText_size s0
    have BB : Below w.heap.size w (w4.drewN m2) := bel.trans (((below_drewN bel2 m1).trans (below_drewN (bel4.mono bel2.size) m2)).mono bel.size)
    go_wp2
    go_ret
    have hp : (jsonText s0).extract 0 (14 + s0.size) = ⟨#[105, 110, 118, 97, 108, 105, 100, 32, 106, 115, 111, 110, 58, 32]⟩ ++ s0 := by
      have := text_head (⟨#[105, 110, 118, 97, 108, 105, 100, 32, 106, 115, 111, 110, 58, 32]⟩ ++ s0) (⟨#[58, 32]⟩ ++ ⟨#[117, 110, 101, 120, 112, 101, 99, 116, 101, 100, 32, 69, 79, 70]⟩)
      rw [ByteArray.size_append, ← ByteArray.append_assoc] at this
      exact this
    refine ⟨?_, BB⟩
    show Ending.returned (Value.bool _) = _
    rw [hp]
    simp
end Go.Proofs.YtogpfacfifajgaaGreatFmt
