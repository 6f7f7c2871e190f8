/- FnMktimeMatchesCivilModel: the law returns true for every input. No condition of ours. -/
import Derived.Test.YtmbegjbhmeihiaaGreatDoorTie
import Derived.Test.YtmbegjbhmeihiaaGreatDoorCards
import Derived.Test.YtmbegjbhmeihiaaGreatDoorDoorP
import Derived.Test.YtmbegjbhmeihiaaGreatDoorWalkFnMktimeMatchesCivilModel
namespace Go.Proofs.YtmbegjbhmeihiaaGreatDoor
open Go.ChangeShapes Go.WideShapes Go.ChangeAt Go.RowKit Go.Extern.Stop Go.Stop Go.Extern
open Go.ChangeMaps (open_string shut_string)
set_option linter.unusedVariables false
set_option linter.unusedSimpArgs false
set_option maxRecDepth 100000 in
set_option maxHeartbeats 1000000 in
theorem lifted_FnMktimeMatchesCivilModel (os : Os) (started : os.Started) (H : Type) (enc : TypeId × Value → H) : ∀ FF : Stop.Interp,
    ReturnsInOpen {} none Tryz.checked os 7 .any Input.okWide ((OpenSpec.ofChange Rows.fnMktimeMatchesCivilModelSpec).preRow enc Tryz.prog Tryz.f7 Rows.fnMktimeMatchesCivilModelRow.domain false Rows.fnMktimeMatchesCivilModelRow.laid) (((OpenSpec.ofChange Rows.fnMktimeMatchesCivilModelSpec).at FF).post enc Tryz.prog Tryz.f7 false true false false) (aloneAtReturn Tryz.prog) nothingAlways := by
  refine returnsInOpen_of_row_plain (C := Tryz.checked) (s := (OpenSpec.ofChange Rows.fnMktimeMatchesCivilModelSpec)) (by as_aux_lemma => kernel_rfl) door_own started (by as_aux_lemma => kernel_rfl) Tryz.func7
    (witness_row false (World.laidAll Tryz.prog os laidAll) #[.int .i64 0, .int .i64 0, .int .i64 0, .int .i64 0, .int .i64 0, .int .i64 0, .int .i64 0, .int .i64 0, .int .i64 0] (World.laidAll_os _ _ _) (door_shaped os _) (by as_aux_lemma => kernel_rfl) (OpenSpec.preRow_of_B (by as_aux_lemma => kernel_rfl) 8 (by as_aux_lemma => kernel_rfl) (by as_aux_lemma => kernel_rfl) (door_laid os _))) ?_
  intro FF W base args ds gs before _ hval0 hW _ _ hsz0 hL _
  have hval : ∀ (j : Nat) t v, Tryz.f7.params[j]? = some t → args[j]? = some v → Value.okWide Tryz.prog W .any base t v := hval0
  have hsz : (DataW.weightsEach Tryz.prog (Tryz.f7.params.toList ++ (OpenSpec.ofChange Rows.fnMktimeMatchesCivilModelSpec).bare.plain.varTypes Tryz.prog) (ds ++ gs)).all (· ≤ reachBytes) = true := hsz0
  have hW' := hW
  obtain ⟨p, q, hA0, hV, rfl, _, _⟩ := hW
  have hA : DataW.TrodAll enc Tryz.prog W 0 (fun _ => true) true Tryz.f7.params.toList args.toList ds p := hA0
  rw [Tryz.params7] at hA hval hsz
  obtain ⟨v0, vs0, d0, ds0, p0, q0, hargs, rfl, rfl, h0, r0⟩ := trodAll_cons hA
  obtain ⟨v1, vs1, d1, ds1, p1, q1, rfl, rfl, rfl, h1, r1⟩ := trodAll_cons r0
  obtain ⟨v2, vs2, d2, ds2, p2, q2, rfl, rfl, rfl, h2, r2⟩ := trodAll_cons r1
  obtain ⟨v3, vs3, d3, ds3, p3, q3, rfl, rfl, rfl, h3, r3⟩ := trodAll_cons r2
  obtain ⟨v4, vs4, d4, ds4, p4, q4, rfl, rfl, rfl, h4, r4⟩ := trodAll_cons r3
  obtain ⟨v5, vs5, d5, ds5, p5, q5, rfl, rfl, rfl, h5, r5⟩ := trodAll_cons r4
  obtain ⟨v6, vs6, d6, ds6, p6, q6, rfl, rfl, rfl, h6, r6⟩ := trodAll_cons r5
  obtain ⟨v7, vs7, d7, ds7, p7, q7, rfl, rfl, rfl, h7, r7⟩ := trodAll_cons r6
  obtain ⟨v8, vs8, d8, ds8, p8, q8, rfl, rfl, rfl, h8, r8⟩ := trodAll_cons r7
  obtain ⟨rfl, rfl, rfl⟩ := trodAll_nil r8
  obtain rfl : args = #[v0, v1, v2, v3, v4, v5, v6, v7, v8] := by cases args; simp_all
  obtain ⟨g0, g1, g2, g3, g4, g5, g6, hgs⟩ := door_vars7 hV rfl
  subst hgs
  obtain ⟨a0, rfl, rfl, rfl, w0⟩ := open_int Tryz.underlying3 (hval 0 3 v0 rfl rfl) h0
  obtain ⟨a1, rfl, rfl, rfl, w1⟩ := open_int Tryz.underlying3 (hval 1 3 v1 rfl rfl) h1
  obtain ⟨a2, rfl, rfl, rfl, w2⟩ := open_int Tryz.underlying3 (hval 2 3 v2 rfl rfl) h2
  obtain ⟨a3, rfl, rfl, rfl, w3⟩ := open_int Tryz.underlying3 (hval 3 3 v3 rfl rfl) h3
  obtain ⟨a4, rfl, rfl, rfl, w4⟩ := open_int Tryz.underlying3 (hval 4 3 v4 rfl rfl) h4
  obtain ⟨a5, rfl, rfl, rfl, w5⟩ := open_int Tryz.underlying3 (hval 5 3 v5 rfl rfl) h5
  obtain ⟨a6, rfl, rfl, rfl, w6⟩ := open_int Tryz.underlying3 (hval 6 3 v6 rfl rfl) h6
  obtain ⟨a7, rfl, rfl, rfl, w7⟩ := open_int Tryz.underlying3 (hval 7 3 v7 rfl rfl) h7
  obtain ⟨a8, rfl, rfl, rfl, w8⟩ := open_int Tryz.underlying3 (hval 8 3 v8 rfl rfl) h8
  have hD := door_of_laid hL
  clear hA0 hval0 hsz0 hsz
  refine (walk_FnMktimeMatchesCivilModel a0 a1 a2 a3 a4 a5 a6 a7 a8 W w0 w1 w2 w3 w4 w5 w6 w7 w8 hD).mono fun e W' ⟨he, bel⟩ => ?_
  subst he
  exact ⟨_, rfl, _, _, _, [], _, _, hW', trodAll_mk1 (shut_bool Tryz.underlying4 _), (trodAll_cons_mk (shut_int Tryz.underlying3 w0) (trodAll_cons_mk (shut_int Tryz.underlying3 w1) (trodAll_cons_mk (shut_int Tryz.underlying3 w2) (trodAll_cons_mk (shut_int Tryz.underlying3 w3) (trodAll_cons_mk (shut_int Tryz.underlying3 w4) (trodAll_cons_mk (shut_int Tryz.underlying3 w5) (trodAll_cons_mk (shut_int Tryz.underlying3 w6) (trodAll_cons_mk (shut_int Tryz.underlying3 w7) (trodAll_cons_mk (shut_int Tryz.underlying3 w8) trodAll_mk0))))))))), (Below.trodVars door_laidOut bel (by as_aux_lemma => kernel_rfl) hV), bel.frame _, fun h => by cases h⟩
set_option maxHeartbeats 4000000 in
theorem said_FnMktimeMatchesCivilModel : Rows.FnMktimeMatchesCivilModelSaid :=
  OpenClaim.holds_of_plain_any 7 Tryz.f7 [] (by as_aux_lemma => kernel_rfl) rfl rfl rfl door_laidOut (by as_aux_lemma => kernel_rfl) rfl ⟨rfl, rfl, rfl, rfl, rfl, rfl, rfl⟩ rfl rfl (by as_aux_lemma => kernel_rfl) (by as_aux_lemma => kernel_rfl) Tryz.func7 (by as_aux_lemma => kernel_rfl)
    (of_decide_eq_true (by as_aux_lemma => kernel_rfl)) (by unfold Func.isWrapper; rw [if_neg (of_decide_eq_false (by as_aux_lemma => kernel_rfl))]; exact ⟨rfl, rfl⟩) door_stops rfl door_knobs.symm (by as_aux_lemma => kernel_rfl)
    (by as_aux_lemma => kernel_rfl) (by as_aux_lemma => kernel_rfl) (by as_aux_lemma => kernel_rfl) (by as_aux_lemma => kernel_rfl) (by as_aux_lemma => kernel_rfl) (by as_aux_lemma => kernel_rfl) (by as_aux_lemma => kernel_rfl) (by as_aux_lemma => kernel_rfl) (by as_aux_lemma => kernel_rfl) rfl (by as_aux_lemma => kernel_rfl) rfl rfl rfl rfl
    (OpenClaim.moreEntering_of (by as_aux_lemma => kernel_rfl) (by as_aux_lemma => kernel_rfl) (by as_aux_lemma => kernel_rfl) (by as_aux_lemma => kernel_rfl) (by as_aux_lemma => kernel_rfl) (by as_aux_lemma => kernel_rfl) (by as_aux_lemma => kernel_rfl) (by as_aux_lemma => kernel_rfl) (by as_aux_lemma => kernel_rfl) (by as_aux_lemma => kernel_rfl)) ⟨_, WideRow.started_initial, door_quiet _⟩
    (fun os started _ H enc _ => lifted_FnMktimeMatchesCivilModel os started H enc)
set_option maxHeartbeats 4000000 in
/-- The statement. -/
theorem fnMktimeMatchesCivilModel_holds : Rows.FnMktimeMatchesCivilModelCardSaid :=
  Claim7.holds_tied_plain_at .later [] _ _ _ _ said_FnMktimeMatchesCivilModel (fun _ h => by cases h) (by as_aux_lemma => kernel_rfl) (fun _ h => by cases h) fnMktimeMatchesCivilModel_row_tie rfl ⟨rfl, rfl⟩ (by as_aux_lemma => kernel_rfl) rfl
    (plain_of (f0 := 7) (fn0 := Tryz.f7) (by as_aux_lemma => kernel_rfl) Tryz.func7 (by as_aux_lemma => kernel_rfl) (by as_aux_lemma => kernel_rfl)) (by as_aux_lemma => kernel_rfl)
#print axioms fnMktimeMatchesCivilModel_holds
end Go.Proofs.YtmbegjbhmeihiaaGreatDoor
