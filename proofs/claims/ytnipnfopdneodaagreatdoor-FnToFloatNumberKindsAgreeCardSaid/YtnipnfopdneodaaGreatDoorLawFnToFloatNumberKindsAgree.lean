/- FnToFloatNumberKindsAgree: the law returns true for every input. No condition of ours. -/
import Derived.Test.YtnipnfopdneodaaGreatDoorTie
import Derived.Test.YtnipnfopdneodaaGreatDoorCards
import Derived.Test.YtnipnfopdneodaaGreatDoorDoorF
import Derived.Test.YtnipnfopdneodaaGreatDoorWalkFnToFloatNumberKindsAgree
namespace Go.Proofs.YtnipnfopdneodaaGreatDoor
open Go.ChangeShapes Go.WideShapes Go.ChangeAt Go.RowKit Go.Extern.Stop Go.Stop Go.Extern
open Go.ChangeMaps (open_string shut_string)
set_option linter.unusedVariables false
set_option linter.unusedSimpArgs false
set_option maxRecDepth 100000 in
set_option maxHeartbeats 1000000 in
theorem lifted_FnToFloatNumberKindsAgree (os : Os) (started : os.Started) (H : Type) (enc : TypeId × Value → H) : ∀ FF : Stop.Interp,
    ReturnsInOpen {} none Tryz.checked os 3 .any Input.okWide ((OpenSpec.ofChange Rows.fnToFloatNumberKindsAgreeSpec).preRow enc Tryz.prog Tryz.f3 Rows.fnToFloatNumberKindsAgreeRow.domain false Rows.fnToFloatNumberKindsAgreeRow.laid) (((OpenSpec.ofChange Rows.fnToFloatNumberKindsAgreeSpec).at FF).post enc Tryz.prog Tryz.f3 false true false false) (aloneAtReturn Tryz.prog) nothingAlways := by
  refine returnsInOpen_of_row_plain (C := Tryz.checked) (s := (OpenSpec.ofChange Rows.fnToFloatNumberKindsAgreeSpec)) (by as_aux_lemma => kernel_rfl) door_own started (by as_aux_lemma => kernel_rfl) Tryz.func3
    (witness_row false (World.laidAll Tryz.prog os laidAll) #[.int .i64 0] (World.laidAll_os _ _ _) (door_shaped os _) (by as_aux_lemma => kernel_rfl) (OpenSpec.preRow_of_B (by as_aux_lemma => kernel_rfl) 8 (by as_aux_lemma => kernel_rfl) (by as_aux_lemma => kernel_rfl) (door_laid os _))) ?_
  intro FF W base args ds gs before _ hval0 hW _ _ hsz0 hL _
  have hval : ∀ (j : Nat) t v, Tryz.f3.params[j]? = some t → args[j]? = some v → Value.okWide Tryz.prog W .any base t v := hval0
  have hsz : (DataW.weightsEach Tryz.prog (Tryz.f3.params.toList ++ (OpenSpec.ofChange Rows.fnToFloatNumberKindsAgreeSpec).bare.plain.varTypes Tryz.prog) (ds ++ gs)).all (· ≤ reachBytes) = true := hsz0
  have hW' := hW
  obtain ⟨p, q, hA0, hV, rfl, _, _⟩ := hW
  have hA : DataW.TrodAll enc Tryz.prog W 0 (fun _ => true) true Tryz.f3.params.toList args.toList ds p := hA0
  rw [Tryz.params3] at hA hval hsz
  obtain ⟨v0, vs0, d0, ds0, p0, q0, hargs, rfl, rfl, h0, r0⟩ := trodAll_cons hA
  obtain ⟨rfl, rfl, rfl⟩ := trodAll_nil r0
  obtain rfl : args = #[v0] := by cases args; simp_all
  obtain ⟨g0, g1, g2, g3, g4, hgs⟩ := door_vars5 hV rfl
  subst hgs
  obtain ⟨a0, rfl, rfl, rfl, w0⟩ := open_int Tryz.underlying3 (hval 0 3 v0 rfl rfl) h0
  have hD := door_of_laid hL
  clear hA0 hval0 hsz0 hsz
  refine (walk_FnToFloatNumberKindsAgree a0 W w0 hD).mono fun e W' ⟨he, bel⟩ => ?_
  subst he
  exact ⟨_, rfl, _, _, _, [], _, _, hW', trodAll_mk1 (shut_bool Tryz.underlying4 _), (trodAll_cons_mk (shut_int Tryz.underlying3 w0) trodAll_mk0), (Below.trodVars door_laidOut bel (by as_aux_lemma => kernel_rfl) hV), bel.frame _, fun h => by cases h⟩
set_option maxHeartbeats 4000000 in
theorem said_FnToFloatNumberKindsAgree : Rows.FnToFloatNumberKindsAgreeSaid :=
  OpenClaim.holds_of_plain_any 3 Tryz.f3 [] (by as_aux_lemma => kernel_rfl) rfl rfl rfl door_laidOut (by as_aux_lemma => kernel_rfl) rfl ⟨rfl, rfl, rfl, rfl, rfl, rfl, rfl⟩ rfl rfl (by as_aux_lemma => kernel_rfl) (by as_aux_lemma => kernel_rfl) Tryz.func3 (by as_aux_lemma => kernel_rfl)
    (of_decide_eq_true (by as_aux_lemma => kernel_rfl)) (by unfold Func.isWrapper; rw [if_neg (of_decide_eq_false (by as_aux_lemma => kernel_rfl))]; exact ⟨rfl, rfl⟩) door_stops rfl door_knobs.symm (by as_aux_lemma => kernel_rfl)
    (by as_aux_lemma => kernel_rfl) (by as_aux_lemma => kernel_rfl) (by as_aux_lemma => kernel_rfl) (by as_aux_lemma => kernel_rfl) (by as_aux_lemma => kernel_rfl) (by as_aux_lemma => kernel_rfl) (by as_aux_lemma => kernel_rfl) (by as_aux_lemma => kernel_rfl) (by as_aux_lemma => kernel_rfl) rfl (by as_aux_lemma => kernel_rfl) rfl rfl rfl rfl
    (OpenClaim.moreEntering_of (by as_aux_lemma => kernel_rfl) (by as_aux_lemma => kernel_rfl) (by as_aux_lemma => kernel_rfl) (by as_aux_lemma => kernel_rfl) (by as_aux_lemma => kernel_rfl) (by as_aux_lemma => kernel_rfl) (by as_aux_lemma => kernel_rfl) (by as_aux_lemma => kernel_rfl) (by as_aux_lemma => kernel_rfl) (by as_aux_lemma => kernel_rfl)) ⟨_, WideRow.started_initial, door_quiet _⟩
    (fun os started _ H enc _ => lifted_FnToFloatNumberKindsAgree os started H enc)
set_option maxHeartbeats 4000000 in
/-- The statement. -/
theorem fnToFloatNumberKindsAgree_holds : Rows.FnToFloatNumberKindsAgreeCardSaid :=
  Claim7.holds_tied_plain_at .later [] _ _ _ _ said_FnToFloatNumberKindsAgree (fun _ h => by cases h) (by as_aux_lemma => kernel_rfl) (fun _ h => by cases h) fnToFloatNumberKindsAgree_row_tie rfl ⟨rfl, rfl⟩ (by as_aux_lemma => kernel_rfl) rfl
    (plain_of (f0 := 3) (fn0 := Tryz.f3) (by as_aux_lemma => kernel_rfl) Tryz.func3 (by as_aux_lemma => kernel_rfl) (by as_aux_lemma => kernel_rfl)) (by as_aux_lemma => kernel_rfl)
#print axioms fnToFloatNumberKindsAgree_holds
end Go.Proofs.YtnipnfopdneodaaGreatDoor
