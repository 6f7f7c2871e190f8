/-
  The laws' own search by halves and insertion sort (package n001_108), walked.
-/
import Derived.Test.YtmbegjbhmeihiaaGreatDoorSlc
import Derived.Test.YtmbegjbhmeihiaaGreatDoorSortP
import Derived.Test.YtmbegjbhmeihiaaGreatDoorSays
import Derived.WalkSpells
import Derived.Handy
import Derived.Lib.Hide
namespace Go.Proofs.YtmbegjbhmeihiaaGreatDoor
set_option linter.unusedVariables false
set_option linter.unusedSimpArgs false
open Go.RowKit Go.Lib

set_option maxRecDepth 100000 in
set_option maxHeartbeats 1600000 in
theorem member_any (b n c : Nat) (l : List Int) (x : Int) (hl : Asc l) (hlen : l.length = n) (hn : n ≤ 4096) (w : World) (hS : Row w b 3 (l.map (Value.int .i64))) :
    Calls Tryz.prog 13 #[.slice (some ⟨b, 0, none⟩) n c, .int .i64 x] w fun e w' => (∃ r : Bool, e = .returned (.bool r) ∧ (r = true ↔ x ∈ l)) ∧ Below w.heap.size w w' := by
  have HL := Lib.hid hl
  have HS := Lib.hid hS
  have HN := Lib.hid hlen
  clear hl hS hlen
  go_enter Tryz.func13, Tryz.ntmps13
  go_wp2_with fail
  go_loopw [5, 6] (fun vlo vhi wr => ∃ lo hi : Nat, vlo = .int .i64 (lo : Int) ∧ vhi = .int .i64 (hi : Int) ∧ lo ≤ hi ∧ hi ≤ n ∧ Halves l x lo hi ∧ Below w.heap.size w wr) (fun vlo vhi _ => (RowKit.intOf vhi).toNat - (RowKit.intOf vlo).toNat)
  case atStart => exact ⟨0, n, rfl, rfl, Nat.zero_le _, Nat.le_refl _, by have := Halves.start l x; rwa [HN.out] at this, Below.refl _ _⟩
  case round =>
    obtain ⟨lo, hi, rfl, rfl, hle, hhi, hh, hbl⟩ := hrel
    have HH := Lib.hid hh
    have HB := Lib.hid hbl
    have hrow := Lib.hid (HS.out.on hbl)
    have hcell : ∀ (j : Nat) (hj : j < n), wr.cell? ⟨b, j, none⟩ = some (.int .i64 (l[j]'(by rw [HN.out]; exact hj))) := fun j hj => by
      rw [hrow.out.cell j (by rw [List.length_map, HN.out]; exact hj), List.getElem_map]
    have HC := Lib.hid hcell
    clear hh hbl hcell
    by_cases hlt : lo < hi
    · obtain ⟨m, hm⟩ : ∃ m : Nat, (lo : Int) + ((hi : Int) - (lo : Int)) / 2 = (m : Int) := ⟨lo + (hi - lo) / 2, by omega⟩
      have hm0 : lo ≤ m ∧ m < hi := by omega
      have hcm := HC.out m (by omega)
      by_cases hx : l[m]'(by rw [HN.out]; omega) < x
      · have HU := Lib.hid (HH.out.up HL.out m hm0.1 hm0.2 hx)
        go_wp2_with fail
        try (go_region; go_wp2_with fail)
        go_roundw
        case rel => exact ⟨m + 1, hi, by go_num, rfl, by omega, hhi, HU.out, by first | exact HB.out | exact HB.out.drew⟩
        case measure => simp [RowKit.intOf]; omega
      · have HU := Lib.hid (HH.out.down HL.out m hm0.1 hm0.2 hx)
        go_wp2_with fail
        try (go_region; go_wp2_with fail)
        go_roundw
        case rel => exact ⟨lo, m, rfl, rfl, by omega, by omega, HU.out, by first | exact HB.out | exact HB.out.drew⟩
        case measure => simp [RowKit.intOf]; omega
    · obtain rfl : lo = hi := by omega
      have HF := Lib.hid (HH.out.found HL.out)
      by_cases hln : lo < n
      · have hcm := HC.out lo hln
        by_cases hx : l[lo]'(by rw [HN.out]; exact hln) = x
        · have q1 : (l[lo]'(by rw [HN.out]; exact hln) == x) = true := by rw [beq_iff_eq]; exact hx
          have HX := Lib.hid (HF.out.2 ⟨by rw [HN.out]; exact hln, hx⟩)
          clear hx
          go_wp2_with fail
          try (go_region; go_wp2_with fail)
          go_ret
          first | exact ⟨⟨true, rfl, fun _ => HX.out, fun _ => rfl⟩, by first | exact HB.out | exact HB.out.drew⟩ | exact ⟨Or.inr ⟨rfl, HX.out⟩, by first | exact HB.out | exact HB.out.drew⟩
        · have q1 : (l[lo]'(by rw [HN.out]; exact hln) == x) = false := by rw [beq_eq_false_iff_ne]; exact hx
          have HX := Lib.hid (fun h : x ∈ l => hx (HF.out.1 h).2)
          clear hx
          go_wp2_with fail
          try (go_region; go_wp2_with fail)
          go_ret
          first | exact ⟨⟨false, rfl, fun h => absurd h (by decide), fun h => absurd h HX.out⟩, by first | exact HB.out | exact HB.out.drew⟩ | exact ⟨Or.inl ⟨rfl, HX.out⟩, by first | exact HB.out | exact HB.out.drew⟩
      · have HX := Lib.hid (fun h : x ∈ l => hln (by rw [← HN.out]; exact (HF.out.1 h).1))
        go_wp2_with fail
        try (go_region; go_wp2_with fail)
        go_ret
        first | exact ⟨⟨false, rfl, fun h => absurd h (by decide), fun h => absurd h HX.out⟩, by first | exact HB.out | exact HB.out.drew⟩ | exact ⟨Or.inl ⟨rfl, HX.out⟩, by first | exact HB.out | exact HB.out.drew⟩
end Go.Proofs.YtmbegjbhmeihiaaGreatDoor
