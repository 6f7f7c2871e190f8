/-
  The laws' own sorted copy (package n001_108), walked.
-/
import Derived.Test.YtmbegjbhmeihiaaGreatDoorSrt
import Derived.Test.YtmbegjbhmeihiaaGreatDoorMk
namespace Go.Proofs.YtmbegjbhmeihiaaGreatDoor
set_option linter.unusedVariables false
set_option linter.unusedSimpArgs false
open Go.RowKit Go.Lib

theorem SliceOf.form {w : World} {v : Value} {xs : List Value} (h : SliceOf w v xs) : ∃ a c, v = .slice a xs.length c ∧ (0 < xs.length → ∃ b o, a = some ⟨b, o, none⟩ ∧ b < w.heap.size ∧ ∀ j u, xs[j]? = some u → w.cell? ⟨b, o + j, none⟩ = some u) := by
  rcases h with ⟨rfl, a, c, rfl⟩ | ⟨h1, b, o, c, rfl, h2, h3⟩
  · exact ⟨a, c, rfl, fun h => absurd h (by simp)⟩
  · exact ⟨_, c, rfl, fun _ => ⟨b, o, rfl, h2, h3⟩⟩
theorem mk_ints (n : Nat) (hn : n ≤ 1048576) (w : World) : (Instr.makeSlice 25 (.int .i64 (n : Int)) (.int .i64 (n : Int))).run Tryz.prog w = .ok (.slice (some ⟨w.heap.size, 0, none⟩) n n) (w.alloc (.cells (Array.replicate n (.int .i64 0)) 3)) :=
  run_mk 25 3 (.int .i64 0) 8 Tryz.underlying25 (by kernel_rfl) rfl n n (by omega) (by omega) (by omega) w
def isInts (zs : List Int) : List Value := zs.map (Value.int .i64)
theorem isInts_len (zs : List Int) : (isInts zs).length = zs.length := by simp [isInts]
theorem isInts_get (zs : List Int) (k : Nat) (h : k < zs.length) : (isInts zs)[k]? = some (.int .i64 zs[k]) := by simp [isInts, h]
theorem isInts_get' (zs : List Int) (k : Nat) (h : k < (isInts zs).length) : (isInts zs)[k] = .int .i64 (zs[k]'(by simpa [isInts] using h)) := by simp [isInts]
theorem isInts_set (zs : List Int) (k : Nat) (x : Int) : isInts (zs.set k x) = (isInts zs).set k (.int .i64 x) := by simp [isInts, List.map_set]

/-- What the outer loop keeps: the first k are in order. -/
structure Part (zs P T : List Int) (k : Nat) : Prop where
  len : P.length = k
  all : (P ++ T).length = zs.length
  asc : Asc P
  mem : ∀ y, y ∈ P ++ T ↔ y ∈ zs
set_option maxRecDepth 100000 in
set_option maxHeartbeats 3200000 in
theorem sorted_any (v : Value) (zs : List Int) (n : Nat) (hlen : zs.length = n) (hn : n ≤ 4096) (w : World) (hS : SliceOf w v (isInts zs)) :
    Calls Tryz.prog 12 #[v] w fun e w' => (∃ ys : List Int, e = .returned (.slice (some ⟨w.heap.size, 0, none⟩) n n) ∧ Asc ys ∧ (∀ y, y ∈ ys ↔ y ∈ zs) ∧ ys.length = n ∧ Row w' w.heap.size 3 (isInts ys)) ∧ Below w.heap.size w w' := by
  obtain ⟨a, c, rfl, hat⟩ := hS.form
  rw [isInts_len, hlen] at hat ⊢
  have HA := Lib.hid hat
  have HN := Lib.hid hlen
  have mk := mk_ints n (by omega)
  clear hat hlen hS
  go_enter Tryz.func12, Tryz.ntmps12
  go_wp2_with fail
  have hF0 : Fill (w.alloc (.cells (Array.replicate n (.int .i64 0)) 3)) (w.alloc (.cells (Array.replicate n (.int .i64 0)) 3)) w.heap.size 3 (isInts zs) (.int .i64 0) 0 := by
    refine Fill.start ?_
    rw [isInts_len, HN.out]
    have := Row.alloc w 3 (List.replicate n (.int .i64 0))
    rwa [List.toArray_replicate] at this
  have HB0 := Lib.hid (show Below w.heap.size w (w.alloc (.cells (Array.replicate n (.int .i64 0)) 3)) by go_grown)
  have HF0 := Lib.hid hF0
  clear hF0 mk
  generalize hW0 : w.alloc (.cells (Array.replicate n (.int .i64 0)) 3) = W0 at HF0 HB0 ⊢
  clear hW0
  go_loopw [4] (fun vi wr => ∃ k : Nat, vi = .int .i64 (k : Int) ∧ k ≤ n ∧ Hid (Fill W0 wr w.heap.size 3 (isInts zs) (.int .i64 0) k)) (fun vi _ => n - (RowKit.intOf vi).toNat)
  case atStart => exact ⟨0, rfl, Nat.zero_le _, HF0⟩
  case round =>
    obtain ⟨k, rfl, hk, HF⟩ := hrel
    by_cases hkn : k < n
    · obtain ⟨b, o, rfl, hb, hc⟩ := HA.out (by omega)
      have hkz : k < zs.length := by rw [HN.out]; exact hkn
      have hne : b ≠ w.heap.size := by omega
      have c1 : wr.cell? ⟨b, o + k, none⟩ = some (.int .i64 zs[k]) := (HF.out.old (p := ⟨b, o + k, none⟩) (by have := HB0.out.size; show b < _; omega) hne).trans ((HB0.out.cell (p := ⟨b, o + k, none⟩) hb).trans (hc k _ (isInts_get zs k hkz)))
      obtain ⟨y, c2⟩ := HF.out.cell k (by rw [isInts_len]; exact hkz)
      have f2 := HF.out.free k
      have HS := Lib.hid (HF.out.step (by rw [isInts_len]; exact hkz) (.int .i64 zs[k]) (isInts_get' zs k _))
      clear hc
      go_wp2_with fail
      try (go_region; go_wp2_with fail)
      go_roundw
      case rel => exact ⟨k + 1, by go_num, by omega, HS⟩
      case measure => simp [RowKit.intOf]; omega
    · obtain rfl : k = n := by omega
      have hrow := HF.out.done (by rw [isInts_len, HN.out])
      have hO := HF.out.only
      by_cases hk0 : k = 0
      · subst hk0
        have hz : zs = [] := List.eq_nil_of_length_eq_zero HN.out
        have HR := Lib.hid hrow
        have HO := Lib.hid hO
        clear hrow hO
        go_wp2_with fail
        go_loopw [5] (fun vi wx => vi = .int .i64 1 ∧ wx = wr) (fun _ _ => 0)
        case atStart => exact ⟨rfl, rfl⟩
        case round =>
          obtain ⟨rfl, rfl⟩ := hrel
          go_wp2_with fail
          go_ret
          exact ⟨⟨[], rfl, List.Pairwise.nil, fun y => by rw [hz], rfl, by have := HR.out; rwa [hz] at this⟩, HF.out.below (Nat.le_refl _) HB0.out⟩
      · have hP : Part zs (zs.take 1) (zs.drop 1) 1 := by
          have hz1 := HN.out
          refine ⟨by simp; omega, by rw [List.take_append_drop], ?_, fun y => by rw [List.take_append_drop]⟩
          match zs, hz1 with
          | [], h => simp at h; omega
          | z :: _, _ => simp [Asc]
        have HP := Lib.hid hP
        have HR : Hid (Row wr w.heap.size 3 (isInts (zs.take 1 ++ zs.drop 1))) := Lib.hid (by rw [List.take_append_drop]; exact hrow)
        have HO := Lib.hid hO
        clear hrow hO hP
        go_wp2_with fail
        go_loopw [5] (fun vi wx => ∃ (q : Nat) (P T : List Int), vi = .int .i64 (q : Int) ∧ 1 ≤ q ∧ q ≤ k ∧ Hid (Part zs P T q) ∧ Hid (Row wx w.heap.size 3 (isInts (P ++ T))) ∧ Hid (Only (fun z => z = w.heap.size) W0 wx)) (fun vi _ => k - (RowKit.intOf vi).toNat)
        case atStart => exact ⟨1, zs.take 1, zs.drop 1, rfl, Nat.le_refl _, by omega, HP, HR, HO⟩
        case round =>
          obtain ⟨q, P, T, rfl, hq1, hqk, HPT, HRq, HOq⟩ := hrel
          by_cases hlt : q < k
          · obtain ⟨x, T', rfl⟩ : ∃ x T', T = x :: T' := by
              have h1 := HPT.out.all
              have h2 := HPT.out.len
              rw [List.length_append, h2, HN.out] at h1
              match T, h1 with
              | [], h => simp at h; omega
              | x :: T', _ => exact ⟨x, T', rfl⟩
            have hcx : wr.cell? ⟨w.heap.size, q, none⟩ = some (.int .i64 x) := by
              have h2 := HPT.out.len
              rw [HRq.out.cell q (by rw [isInts_len, List.length_append, h2]; simp), isInts_get']
              rw [List.getElem_append_right (by omega)]
              simp [h2]
            go_wp2_with fail
            go_loopw [7] (fun vj wx => ∃ (j : Nat) (u : Int), vj = .int .i64 (j : Int) ∧ j ≤ q ∧ (∀ y ∈ P.drop j, x < y) ∧ Hid (Row wx w.heap.size 3 (isInts (shiftTo P T' j u))) ∧ Hid (Only (fun z => z = w.heap.size) W0 wx)) (fun vj _ => (RowKit.intOf vj).toNat)
            case atStart => exact ⟨q, x, rfl, Nat.le_refl _, by rw [← HPT.out.len, List.drop_length]; simp, by rw [← HPT.out.len, shiftTo_start]; exact HRq, HOq⟩
            case round =>
              obtain ⟨j, u, rfl, hjq, hhi, HRj, HOj⟩ := hrel
              have HH := Lib.hid hhi
              clear hhi
              have hq2 := HPT.out.len
              have hln : (isInts (shiftTo P T' j u)).length = k := by
                have h1 := HPT.out.all
                rw [List.length_append, hq2, HN.out] at h1
                rw [isInts_len, shiftTo_len P T' j u (by omega)]
                simp at h1
                omega
              have hlo := Lib.hid hln
              -- what the store of x leaves
              have hfin : ∀ (h : ∀ (hp : 0 < j), P[j - 1]'(by omega) ≤ x), Hid (Part zs (P.take j ++ x :: P.drop j) T' (q + 1)) ∧ Hid (Row (wr.setCell ⟨w.heap.size, j, none⟩ (.int .i64 x)) w.heap.size 3 (isInts (P.take j ++ x :: P.drop j ++ T'))) := fun h => by
                refine ⟨Lib.hid ⟨by simp; omega, ?_, insert_asc P x j HPT.out.asc (by omega) h HH.out, fun y => ?_⟩, Lib.hid ?_⟩
                · have h1 := HPT.out.all
                  simp at h1 ⊢
                  omega
                · rw [insert_mem]
                  exact HPT.out.mem y
                · have := HRj.out.set j (.int .i64 x)
                  rw [← isInts_set, shiftTo_put P T' j u x (by omega)] at this
                  unfold shiftTo at this
                  simpa using this
              have HFIN := Lib.hid hfin
              have HOn := Lib.hid (HOj.out.setCell (p := ⟨w.heap.size, j, none⟩) rfl (.int .i64 x))
              have fj : wr.frozen? ⟨w.heap.size, j, none⟩ = false := HRj.out.free j
              obtain ⟨y0, cj⟩ : ∃ y, wr.cell? ⟨w.heap.size, j, none⟩ = some y := ⟨_, HRj.out.cell j (by rw [hln]; omega)⟩
              clear hfin hln
              rcases Nat.eq_zero_or_pos j with rfl | hj0
              · obtain ⟨HA1, HA2⟩ := HFIN.out (fun hp => absurd hp (by omega))
                clear HFIN
                go_wp2_with fail
                try (go_region; go_wp2_with fail)
                go_roundw
                case rel => exact ⟨q + 1, P.take 0 ++ x :: P.drop 0, T', by go_num, by omega, by omega, HA1, HA2, HOn⟩
                case measure => simp [RowKit.intOf]; omega
              · obtain ⟨i, rfl⟩ : ∃ i, j = i + 1 := ⟨j - 1, by omega⟩
                have ci : wr.cell? ⟨w.heap.size, i, none⟩ = some (.int .i64 (P[i]'(by omega))) := by
                  rw [HRj.out.cell i (by rw [hlo.out]; omega), isInts_get']
                  have := shiftTo_prev P T' i u (by omega)
                  rw [List.getElem?_eq_getElem (by have := hlo.out; rw [isInts_len] at this; omega)] at this
                  rw [Option.some.inj this]
                have hcast : ((i + 1 : Nat) : Int) = (i : Int) + 1 := by omega
                by_cases hgt : x < P[i]'(by omega)
                · have HR2 : Hid (Row (wr.setCell ⟨w.heap.size, i + 1, none⟩ (.int .i64 (P[i]'(by omega)))) w.heap.size 3 (isInts (shiftTo P T' i (P[i]'(by omega))))) := Lib.hid (by
                    have := HRj.out.set (i + 1) (.int .i64 (P[i]'(by omega)))
                    rwa [← isInts_set, shiftTo_step P T' i u (by omega)] at this)
                  have HO2 := Lib.hid (HOj.out.setCell (p := ⟨w.heap.size, i + 1, none⟩) rfl (.int .i64 (P[i]'(by omega))))
                  have HH2 : Hid (∀ y ∈ P.drop i, x < y) := Lib.hid (fun y hy => by
                    rw [List.drop_eq_getElem_cons (by omega)] at hy
                    rcases List.mem_cons.1 hy with rfl | hy
                    · exact hgt
                    · exact HH.out y hy)
                  clear HFIN HOn
                  generalize P[i]'(by omega) = pi at ci hgt HR2 HO2
                  rw [hcast]
                  go_wp2_with fail
                  go_roundw
                  case rel => exact ⟨i, pi, by go_num, by omega, HH2.out, HR2, HO2⟩
                  case measure => first | (simp [RowKit.intOf]; done) | (simp [RowKit.intOf]; omega)
                · obtain ⟨HA1, HA2⟩ := HFIN.out (fun hp => by simp; omega)
                  clear HFIN
                  generalize P[i]'(by omega) = pi at ci hgt
                  rw [hcast]
                  go_wp2_with fail
                  go_roundw
                  case rel => exact ⟨q + 1, _, T', by go_num, by omega, by omega, HA1, HA2, HOn⟩
                  case measure => simp [RowKit.intOf]; omega
          · obtain rfl : q = k := by omega
            go_wp2_with fail
            go_ret
            have hT : T = [] := by
              have h1 := HPT.out.all
              rw [List.length_append, HPT.out.len, HN.out] at h1
              exact List.eq_nil_of_length_eq_zero (by omega)
            subst hT
            exact ⟨⟨P, rfl, HPT.out.asc, fun y => by have := HPT.out.mem y; rwa [List.append_nil] at this, HPT.out.len, by have := HRq.out; rwa [List.append_nil] at this⟩, HB0.out.trans (HOq.out.below HB0.out.size (fun z hz => by rw [hz]; exact Nat.le_refl _))⟩
end Go.Proofs.YtmbegjbhmeihiaaGreatDoor
