/- FnBigToFloatCorrectlyRounded: the law returns true for every input. No condition of ours. -/
import Derived.Test.YtdbbmknjldapbaaGreatDoorTie
import Derived.Test.YtdbbmknjldapbaaGreatDoorCards
import Derived.Test.YtdbbmknjldapbaaGreatDoorDoorC
import Derived.Test.YtdbbmknjldapbaaGreatDoorWalkFnBigToFloatCorrectlyRounded
namespace Go.Proofs.YtdbbmknjldapbaaGreatDoor
open Go.ChangeShapes Go.WideShapes Go.ChangeAt Go.RowKit Go.Extern.Stop Go.Stop Go.Extern
open Go.ChangeMaps (open_string shut_string)
set_option linter.unusedVariables false
set_option linter.unusedSimpArgs false
set_option maxRecDepth 100000 in
set_option maxHeartbeats 1000000 in
theorem lifted_FnBigToFloatCorrectlyRounded (os : Os) (started : os.Started) (H : Type) (enc : TypeId × Value → H) : ∀ FF : Stop.Interp,
    ReturnsInOpen {} none Tryz.checked os 3 .any Input.okWide ((OpenSpec.ofChange Rows.fnBigToFloatCorrectlyRoundedSpec).preRow enc Tryz.prog Tryz.f3 Rows.fnBigToFloatCorrectlyRoundedRow.domain false Rows.fnBigToFloatCorrectlyRoundedRow.laid) (((OpenSpec.ofChange Rows.fnBigToFloatCorrectlyRoundedSpec).at FF).post enc Tryz.prog Tryz.f3 false true false false) (aloneAtReturn Tryz.prog) nothingAlways := by
  refine returnsInOpen_of_row_plain (C := Tryz.checked) (s := (OpenSpec.ofChange Rows.fnBigToFloatCorrectlyRoundedSpec)) (by as_aux_lemma => kernel_rfl) door_own started (by as_aux_lemma => kernel_rfl) Tryz.func3
    (witness_row false (World.laidAll Tryz.prog os laidAll) #[.bool false, .int .u64 0, .int .u64 0] (World.laidAll_os _ _ _) (door_shaped os _) (by as_aux_lemma => kernel_rfl) (OpenSpec.preRow_of_B (by as_aux_lemma => kernel_rfl) 8 (by as_aux_lemma => kernel_rfl) (by as_aux_lemma => kernel_rfl) (door_laid os _))) ?_
  intro FF W base args ds gs before _ hval0 hW _ _ hsz0 hL _
  have hval : ∀ (j : Nat) t v, Tryz.f3.params[j]? = some t → args[j]? = some v → Value.okWide Tryz.prog W .any base t v := hval0
  have hsz : (DataW.weightsEach Tryz.prog (Tryz.f3.params.toList ++ (OpenSpec.ofChange Rows.fnBigToFloatCorrectlyRoundedSpec).bare.plain.varTypes Tryz.prog) (ds ++ gs)).all (· ≤ reachBytes) = true := hsz0
  have hW' := hW
  obtain ⟨p, q, hA0, hV, rfl, _, _⟩ := hW
  have hA : DataW.TrodAll enc Tryz.prog W 0 (fun _ => true) true Tryz.f3.params.toList args.toList ds p := hA0
  rw [Tryz.params3] at hA hval hsz
  obtain ⟨v0, vs0, d0, ds0, p0, q0, hargs, rfl, rfl, h0, r0⟩ := trodAll_cons hA
  obtain ⟨v1, vs1, d1, ds1, p1, q1, rfl, rfl, rfl, h1, r1⟩ := trodAll_cons r0
  obtain ⟨v2, vs2, d2, ds2, p2, q2, rfl, rfl, rfl, h2, r2⟩ := trodAll_cons r1
  obtain ⟨rfl, rfl, rfl⟩ := trodAll_nil r2
  obtain rfl : args = #[v0, v1, v2] := by cases args; simp_all
  obtain ⟨g0, g1, g2, g3, g4, hgs⟩ := door_vars5 hV rfl
  subst hgs
  obtain ⟨a0, rfl, rfl, rfl⟩ := open_bool Tryz.underlying4 (hval 0 4 v0 rfl rfl) h0
  obtain ⟨a1, rfl, rfl, rfl, w1⟩ := open_int Tryz.underlying22 (hval 1 22 v1 rfl rfl) h1
  obtain ⟨a2, rfl, rfl, rfl, w2⟩ := open_int Tryz.underlying22 (hval 2 22 v2 rfl rfl) h2
  have hD := door_of_laid hL
  clear hA0 hval0 hsz0 hsz
  refine (walk_FnBigToFloatCorrectlyRounded a0 a1 a2 W w1 w2 hD).mono fun e W' ⟨he, bel⟩ => ?_
  subst he
  exact ⟨_, rfl, _, _, _, [], _, _, hW', trodAll_mk1 (shut_bool Tryz.underlying4 _), (trodAll_cons_mk (shut_bool Tryz.underlying4 _) (trodAll_cons_mk (shut_int Tryz.underlying22 w1) (trodAll_cons_mk (shut_int Tryz.underlying22 w2) trodAll_mk0))), (Below.trodVars door_laidOut bel (by as_aux_lemma => kernel_rfl) hV), bel.frame _, fun h => by cases h⟩
set_option maxHeartbeats 4000000 in
theorem said_FnBigToFloatCorrectlyRounded : Rows.FnBigToFloatCorrectlyRoundedSaid :=
  OpenClaim.holds_of_plain_any 3 Tryz.f3 [] (by as_aux_lemma => kernel_rfl) rfl rfl rfl door_laidOut (by as_aux_lemma => kernel_rfl) rfl ⟨rfl, rfl, rfl, rfl, rfl, rfl, rfl⟩ rfl rfl (by as_aux_lemma => kernel_rfl) (by as_aux_lemma => kernel_rfl) Tryz.func3 (by as_aux_lemma => kernel_rfl)
    (of_decide_eq_true (by as_aux_lemma => kernel_rfl)) (by unfold Func.isWrapper; rw [if_neg (of_decide_eq_false (by as_aux_lemma => kernel_rfl))]; exact ⟨rfl, rfl⟩) door_stops rfl door_knobs.symm (by as_aux_lemma => kernel_rfl)
    (by as_aux_lemma => kernel_rfl) (by as_aux_lemma => kernel_rfl) (by as_aux_lemma => kernel_rfl) (by as_aux_lemma => kernel_rfl) (by as_aux_lemma => kernel_rfl) (by as_aux_lemma => kernel_rfl) (by as_aux_lemma => kernel_rfl) (by as_aux_lemma => kernel_rfl) (by as_aux_lemma => kernel_rfl) rfl (by as_aux_lemma => kernel_rfl) rfl rfl rfl rfl
    (OpenClaim.moreEntering_of (by as_aux_lemma => kernel_rfl) (by as_aux_lemma => kernel_rfl) (by as_aux_lemma => kernel_rfl) (by as_aux_lemma => kernel_rfl) (by as_aux_lemma => kernel_rfl) (by as_aux_lemma => kernel_rfl) (by as_aux_lemma => kernel_rfl) (by as_aux_lemma => kernel_rfl) (by as_aux_lemma => kernel_rfl) (by as_aux_lemma => kernel_rfl)) ⟨_, WideRow.started_initial, door_quiet _⟩
    (fun os started _ H enc _ => lifted_FnBigToFloatCorrectlyRounded os started H enc)
set_option maxHeartbeats 4000000 in
/-- The statement. -/
theorem fnBigToFloatCorrectlyRounded_holds : Rows.FnBigToFloatCorrectlyRoundedCardSaid :=
  Claim7.holds_tied_plain_at .later [] _ _ _ _ said_FnBigToFloatCorrectlyRounded (fun _ h => by cases h) (by as_aux_lemma => kernel_rfl) (fun _ h => by cases h) fnBigToFloatCorrectlyRounded_row_tie rfl ⟨rfl, rfl⟩ (by as_aux_lemma => kernel_rfl) rfl
    (plain_of (f0 := 3) (fn0 := Tryz.f3) (by as_aux_lemma => kernel_rfl) Tryz.func3 (by as_aux_lemma => kernel_rfl) (by as_aux_lemma => kernel_rfl)) (by as_aux_lemma => kernel_rfl)
#print axioms fnBigToFloatCorrectlyRounded_holds
end Go.Proofs.YtdbbmknjldapbaaGreatDoor
