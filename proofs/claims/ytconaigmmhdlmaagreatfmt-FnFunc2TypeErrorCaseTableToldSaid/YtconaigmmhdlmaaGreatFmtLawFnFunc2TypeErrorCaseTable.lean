/- FnFunc2TypeErrorCaseTable: the law returns true for every input. No condition of ours. -/
import Derived.Test.YtconaigmmhdlmaaGreatFmtTie
import Derived.Test.YtconaigmmhdlmaaGreatFmtCards
import Derived.Test.YtconaigmmhdlmaaGreatFmtDoor
import Derived.Test.YtconaigmmhdlmaaGreatFmtDoorLaid
import Derived.Test.YtconaigmmhdlmaaGreatFmtWalkFnFunc2TypeErrorCaseTable
namespace Go.Proofs.YtconaigmmhdlmaaGreatFmt
open Go.ChangeShapes Go.WideShapes Go.ChangeAt Go.RowKit Go.Extern.Stop Go.Stop Go.Extern
open Go.ChangeMaps (open_string shut_string)
set_option linter.unusedVariables false
set_option linter.unusedSimpArgs false
set_option maxRecDepth 100000 in
set_option maxHeartbeats 1000000 in
theorem lifted_FnFunc2TypeErrorCaseTable (os : Os) (started : os.Started) (H : Type) (enc : TypeId × Value → H) :
    ReturnsInTold none {} Tryz.checked os 10 .any Input.okWide ((OpenSpec.ofChange Rows.fnFunc2TypeErrorCaseTableSpec).preRow enc Tryz.prog Tryz.f10 Rows.fnFunc2TypeErrorCaseTableRow.domain false Rows.fnFunc2TypeErrorCaseTableRow.laid) (fun F => ((OpenSpec.ofChange Rows.fnFunc2TypeErrorCaseTableSpec).at F).post enc Tryz.prog Tryz.f10 false true false false) (aloneAtReturn Tryz.prog) nothingAlways := by
  refine returnsInTold_of_row (C := Tryz.checked) (s := (OpenSpec.ofChange Rows.fnFunc2TypeErrorCaseTableSpec)) (by as_aux_lemma => kernel_rfl) door_own started (by as_aux_lemma => kernel_rfl) Tryz.func10
    (witness_told false (World.laidAll Tryz.prog os laidAll) #[.string ByteArray.empty, .bool false, .int .i64 0, .int .i64 0, .int .i64 0, .string ByteArray.empty, .string ByteArray.empty, .string ByteArray.empty] (World.laidAll_os _ _ _) (door_shaped os _) (by as_aux_lemma => kernel_rfl) (OpenSpec.preRow_of_B (by as_aux_lemma => kernel_rfl) 8 (by as_aux_lemma => kernel_rfl) (by as_aux_lemma => kernel_rfl) (door_laid os _))) ?_
  intro FF W base args ds gs before _ _ hval0 hW _ _ hsz0 hL _
  have hval : ∀ (j : Nat) t v, Tryz.f10.params[j]? = some t → args[j]? = some v → Value.okWide Tryz.prog W .any base t v := hval0
  have hsz : (DataW.weightsEach Tryz.prog (Tryz.f10.params.toList ++ (OpenSpec.ofChange Rows.fnFunc2TypeErrorCaseTableSpec).bare.plain.varTypes Tryz.prog) (ds ++ gs)).all (· ≤ reachBytes) = true := hsz0
  have hW' := hW
  obtain ⟨p, q, hA0, hV, rfl, _, _⟩ := hW
  have hA : DataW.TrodAll enc Tryz.prog W 0 (fun _ => true) true Tryz.f10.params.toList args.toList ds p := hA0
  rw [Tryz.params10] at hA hval hsz
  obtain ⟨v0, vs0, d0, ds0, p0, q0, hargs, rfl, rfl, h0, r0⟩ := trodAll_cons hA
  obtain ⟨v1, vs1, d1, ds1, p1, q1, rfl, rfl, rfl, h1, r1⟩ := trodAll_cons r0
  obtain ⟨v2, vs2, d2, ds2, p2, q2, rfl, rfl, rfl, h2, r2⟩ := trodAll_cons r1
  obtain ⟨v3, vs3, d3, ds3, p3, q3, rfl, rfl, rfl, h3, r3⟩ := trodAll_cons r2
  obtain ⟨v4, vs4, d4, ds4, p4, q4, rfl, rfl, rfl, h4, r4⟩ := trodAll_cons r3
  obtain ⟨v5, vs5, d5, ds5, p5, q5, rfl, rfl, rfl, h5, r5⟩ := trodAll_cons r4
  obtain ⟨v6, vs6, d6, ds6, p6, q6, rfl, rfl, rfl, h6, r6⟩ := trodAll_cons r5
  obtain ⟨v7, vs7, d7, ds7, p7, q7, rfl, rfl, rfl, h7, r7⟩ := trodAll_cons r6
  obtain ⟨rfl, rfl, rfl⟩ := trodAll_nil r7
  obtain rfl : args = #[v0, v1, v2, v3, v4, v5, v6, v7] := by cases args; simp_all
  obtain ⟨g0, g1, g2, g3, g4, hgs⟩ := door_vars5 hV rfl
  subst hgs
  obtain ⟨a0, rfl, rfl, rfl, y0⟩ := open_string Tryz.underlying9 (hval 0 9 v0 rfl rfl) h0
  have w0 : a0.size ≤ 140737488351232 := by
    have z := sized_string hsz (j := 0) (t := 9) rfl rfl
    rw [Array.length_toList] at z
    exact z
  obtain ⟨a1, rfl, rfl, rfl⟩ := open_bool Tryz.underlying4 (hval 1 4 v1 rfl rfl) h1
  obtain ⟨a2, rfl, rfl, rfl, w2⟩ := open_int Tryz.underlying3 (hval 2 3 v2 rfl rfl) h2
  obtain ⟨a3, rfl, rfl, rfl, w3⟩ := open_int Tryz.underlying3 (hval 3 3 v3 rfl rfl) h3
  obtain ⟨a4, rfl, rfl, rfl, w4⟩ := open_int Tryz.underlying3 (hval 4 3 v4 rfl rfl) h4
  obtain ⟨a5, rfl, rfl, rfl, y5⟩ := open_string Tryz.underlying9 (hval 5 9 v5 rfl rfl) h5
  have w5 : a5.size ≤ 140737488351232 := by
    have z := sized_string hsz (j := 5) (t := 9) rfl rfl
    rw [Array.length_toList] at z
    exact z
  obtain ⟨a6, rfl, rfl, rfl, y6⟩ := open_string Tryz.underlying9 (hval 6 9 v6 rfl rfl) h6
  have w6 : a6.size ≤ 140737488351232 := by
    have z := sized_string hsz (j := 6) (t := 9) rfl rfl
    rw [Array.length_toList] at z
    exact z
  obtain ⟨a7, rfl, rfl, rfl, y7⟩ := open_string Tryz.underlying9 (hval 7 9 v7 rfl rfl) h7
  have w7 : a7.size ≤ 140737488351232 := by
    have z := sized_string hsz (j := 7) (t := 9) rfl rfl
    rw [Array.length_toList] at z
    exact z
  have hD := door_of_laid hL
  clear hA0 hval0 hsz0 hsz
  refine (walk_FnFunc2TypeErrorCaseTable a0 a1 a2 a3 a4 a5 a6 a7 W w0 w2 w3 w4 w5 w6 w7 hD).mono fun e W' ⟨he, bel⟩ => ?_
  subst he
  exact ⟨_, rfl, _, _, _, [], _, _, hW', trodAll_mk1 (shut_bool Tryz.underlying4 _), (trodAll_cons_mk (shut_string Tryz.underlying9 y0) (trodAll_cons_mk (shut_bool Tryz.underlying4 _) (trodAll_cons_mk (shut_int Tryz.underlying3 w2) (trodAll_cons_mk (shut_int Tryz.underlying3 w3) (trodAll_cons_mk (shut_int Tryz.underlying3 w4) (trodAll_cons_mk (shut_string Tryz.underlying9 y5) (trodAll_cons_mk (shut_string Tryz.underlying9 y6) (trodAll_cons_mk (shut_string Tryz.underlying9 y7) trodAll_mk0)))))))), (Below.trodVars door_laidOut bel (by as_aux_lemma => kernel_rfl) hV), bel.frame _, fun h => by cases h⟩
set_option maxHeartbeats 4000000 in
/-- The statement. -/
theorem fnFunc2TypeErrorCaseTable_holds : Rows.FnFunc2TypeErrorCaseTableToldSaid :=
  Claim7.holds_of_told_tied_any_at .later 10 Tryz.f10 "fmt.Sprintf, its operands' methods called" [] [] _ _ _ _ _ (by as_aux_lemma => kernel_rfl) rfl rfl rfl door_laidOut (by as_aux_lemma => kernel_rfl) rfl ⟨rfl, rfl, rfl, rfl, rfl, rfl, rfl⟩ rfl rfl (by as_aux_lemma => kernel_rfl) (by as_aux_lemma => kernel_rfl) Tryz.func10 (by as_aux_lemma => kernel_rfl)
    (of_decide_eq_true (by as_aux_lemma => kernel_rfl)) (by unfold Func.isWrapper; rw [if_neg (of_decide_eq_false (by as_aux_lemma => kernel_rfl))]; exact ⟨rfl, rfl⟩) door_stops.symm rfl door_knobs.symm (by as_aux_lemma => kernel_rfl)
    (by as_aux_lemma => kernel_rfl) (by as_aux_lemma => kernel_rfl) (by as_aux_lemma => kernel_rfl) (by as_aux_lemma => kernel_rfl) (by as_aux_lemma => kernel_rfl) (by as_aux_lemma => kernel_rfl) (by as_aux_lemma => kernel_rfl) (by as_aux_lemma => kernel_rfl) (by as_aux_lemma => kernel_rfl) rfl (by as_aux_lemma => kernel_rfl) rfl rfl
    rfl rfl
    rfl (by as_aux_lemma => kernel_rfl) (by as_aux_lemma => kernel_rfl) (by as_aux_lemma => kernel_rfl) (by decide) (by as_aux_lemma => kernel_rfl) fnFunc2TypeErrorCaseTable_row_tie
    (OpenClaim.moreEntering_of (by as_aux_lemma => kernel_rfl) (by as_aux_lemma => kernel_rfl) (by as_aux_lemma => kernel_rfl) (by as_aux_lemma => kernel_rfl) (by as_aux_lemma => kernel_rfl) (by as_aux_lemma => kernel_rfl) (by as_aux_lemma => kernel_rfl) (by as_aux_lemma => kernel_rfl) (by as_aux_lemma => kernel_rfl) (by as_aux_lemma => kernel_rfl))
    ⟨_, WideRow.started_initial, door_quiet _⟩
    (fun os started _ H enc _ => lifted_FnFunc2TypeErrorCaseTable os started H enc)
#print axioms fnFunc2TypeErrorCaseTable_holds
end Go.Proofs.YtconaigmmhdlmaaGreatFmt
