/-
  What every statement's frame of a seat without a stop asks once: closed facts of the program; a start in which the listed variables read as listed.
-/
import Derived.Test.YtnipnfopdneodaaGreatDoorTie
import Derived.Test.YtnipnfopdneodaaGreatDoorCards
import Derived.Test.YtnipnfopdneodaaGreatDoorTabs
import Derived.Test.YtnipnfopdneodaaGreatDoorAtof
import Derived.Lib.LaidU8
import GoSem.PinnedTables
import Derived.WalkKit
import Derived.ProofKit
import Derived.OpenShut
import Derived.ShutString
import Derived.OpenVars
import Derived.SizedLaws
import Derived.Lay
import Derived.PinnedBridge
import Derived.MakeChecks
import Derived.Plain8
import Derived.SevenTiedAt
namespace Go.Proofs.YtnipnfopdneodaaGreatDoor
set_option linter.unusedVariables false
set_option linter.unusedSimpArgs false
open Go.ChangeShapes Go.WideShapes Go.ChangeAt Go.RowKit Go.Extern.Stop Go.Stop Go.Extern

theorem door_own : ownKnob Tryz.prog.godebug = none := by kernel_rfl
theorem door_laidOut : laidOutB Tryz.pinned.checked.prog = true := by kernel_rfl

theorem door_stops : ([] : List String) = Tryz.pinned.checked.prog.stops := by kernel_rfl
theorem door_knobs : Tryz.pinned.checked.prog.stopKnobs = [] := by kernel_rfl
theorem door_quiet (os : Os) : Stop.quiet Tryz.pinned.checked.prog os := by
  intro k hk
  rw [door_knobs] at hk
  cases hk

/-- A start for a row, at a world of one's own making. -/
theorem witness_row {H : Type} {enc : TypeId × Value → H} {C : Checked} {os : Os} {f : FuncId} {fn : Func} {s : OpenSpec} {conds : List PathCond} {apart : Bool} {laid : List (String × DataW Unit)} (modest : Bool) (w0 : World) (args : Array Value) (hos : w0.os = os)
    (hsh : (w0.forCall (fun _ _ => 0) ⟨#[], args, []⟩).Shaped C.prog)
    (hok : Input.okWideB C.prog (w0.forCall (fun _ _ => 0) ⟨#[], args, []⟩) f ⟨#[], args, []⟩ = true)
    (hrow : s.preRow enc C.prog fn conds apart laid (w0.forCall (fun _ _ => 0) ⟨#[], args, []⟩).memory args) :
    ∃ (w : World) (tape : Tape) (i : Input), w.os = os ∧ (w.forCall tape i).Shaped C.prog ∧ i.vars = [] ∧ Input.okWide C.prog (w.forCall tape i) .any w.heap.size f i ∧
      s.preRow enc C.prog fn conds apart laid (w.forCall tape i).memory i.args ∧ ({ modest := modest } : Assume).holds C.prog (lone (Frame.enter C.prog f i.args .normal) [] (w.forCall tape i)) :=
  ⟨w0, fun _ _ => 0, ⟨#[], args, []⟩, hos, hsh, (Input.okWide_of_okWideB (base := 0) hok).1, (Input.okWide_of_okWideB hok).2, hrow, by
    simp only [Assume.holds]
    exact ⟨by simp, by simp, fun _ => Modest.zero, by simp, by simp⟩⟩

/-- What the rows list. -/
def laidAll : List (String × DataW Unit) := Rows.fnToFloatNumberKindsAgreeRow.laid
set_option maxRecDepth 100000 in
theorem door_shaped (os : Os) (args : Array Value) : ((World.laidAll Tryz.prog os laidAll).forCall (fun _ _ => 0) ⟨#[], args, []⟩).Shaped Tryz.prog :=
  World.shaped_of_ZipB (by as_aux_lemma => kernel_rfl) (by as_aux_lemma => kernel_rfl)
theorem laid_plain : (laidAll.all fun x => x.2.handleName?.isNone) = true := by kernel_rfl
set_option maxRecDepth 100000 in
theorem door_laid (os : Os) (args : Array Value) : laidMetH Tryz.prog laidAll ((World.laidAll Tryz.prog os laidAll).forCall (fun _ _ => 0) ⟨#[], args, []⟩).memory := by
  rw [MakeChecks.laidMetH_plain _ _ _ laid_plain]
  exact laidMet_laidAll _ (by as_aux_lemma => kernel_rfl) (by as_aux_lemma => kernel_rfl)
/-- The first field of a struct, an integer. -/
theorem first_of_struct {H : Type} {enc : TypeId × Value → H} {P : Program} {w : World} {base : Nat} {sp : Nat → Bool} {held : Bool} {fuel : Nat} {t : TypeId} {fs : Array Field} {f : Field} {k : IntKind} {cs : List Value} {z : Int} {ds : List (DataW H)} {p : List MemPlace}
    (ht : P.underlying t = some (.struct fs)) (hf : fs[0]? = some f) (hu : P.underlying f.type = some (.int k)) (ho : f.offset = 0) (hc : P.cellsOf f.type = 1)
    (h : DataW.trod enc P w base sp held fuel t cs = some (.agg (.lit (.int k z) :: ds), p)) : cs[0]? = some (.int k z) := by
  obtain ⟨xs, n, rfl, hx, hl, hxl, hall⟩ := DataW.trod_struct ht h
  have h1 := hall 0 f hf
  have hxs : xs.map (·.1) = .lit (.int k z) :: ds := by
    have := congrArg Prod.fst hx
    simpa using this.symm
  cases xs with
  | nil => simp at hxs
  | cons b xs =>
    rw [ho, hc] at h1
    obtain ⟨y, hcy, hb, _⟩ := DataW.trod_int hu (h1.trans (by simp : (b :: xs)[0]? = some b))
    subst hb
    simp only [List.map_cons, List.cons.injEq, DataW.lit.injEq, Lit.int.injEq, true_and] at hxs
    rw [← hxs.1]
    have := congrArg (·[0]?) hcy
    simpa [List.getElem?_take, List.getElem?_drop] using this
theorem mem_opt : ("internal/strconv.optimize", (Rows.laid_internal_strconv_optimize : DataW Unit)) ∈ laidAll := .tail _ (.tail _ (.tail _ (.tail _ (.head _))))
theorem mem_man : ("internal/strconv.float64info", (Rows.laid_internal_strconv_float64info : DataW Unit)) ∈ laidAll := .tail _ (.tail _ (.tail _ (.head _)))
theorem mem_ten : ("internal/strconv.pow10Tab", Rows.laid_internal_strconv_pow10Tab) ∈ laidAll := .tail _ (.tail _ (.tail _ (.tail _ (.tail _ (.tail _ (.tail _ (.tail _ (.tail _ (.tail _ (.tail _ (.tail _ (.tail _ (.tail _ (.tail _ (.tail _ (.tail _ (.head _)))))))))))))))))
theorem ten_at : (Go.Pinned.pow10Rows.map fun x => (DataW.agg [.lit (.int .u64 x.1), .lit (.int .u64 x.2)] : DataW Unit))[348]? = some (.agg ([(9223372036854775808 : Int), 0].map fun z => .lit (.int .u64 z))) := by kernel_rfl
theorem pair_cells : Tryz.prog.cellsOf 162 = 2 := by kernel_rfl
theorem word_cells : Tryz.prog.cellsOf 33 = 1 := by kernel_rfl
theorem bits_cells : Tryz.prog.cellsOf 42 = 1 := by kernel_rfl
theorem opt_reads {W : World} (h : laidMet Tryz.prog laidAll W) : W.cell? ⟨4, 0, none⟩ = some (.bool true) := by
  obtain ⟨g, t, cs, fuel, p, hg, hty, hvar, hd⟩ := Lib.laidMet.reads h mem_opt
  obtain rfl := Option.some.inj ((show Tryz.prog.globalNamed "internal/strconv.optimize" = some 4 by kernel_rfl).symm.trans hg)
  obtain rfl := Option.some.inj ((show (Tryz.prog.globals[4]?).map (·.type) = some 4 by kernel_rfl).symm.trans hty)
  obtain ⟨b, hc, hx⟩ := DataW.trod_bool Tryz.underlying4 hd
  have e : (DataW.lit (.bool true) : DataW Unit) = .lit (.bool b) := congrArg Prod.fst hx
  cases e
  rw [World.var?_cell hg hvar 0, ← Array.getElem?_toList, hc]
  rfl
theorem man_reads {W : World} (h : laidMet Tryz.prog laidAll W) : W.cell? ⟨5, 0, none⟩ = some (.int .u64 52) := by
  obtain ⟨g, t, cs, fuel, p, hg, hty, hvar, hd⟩ := Lib.laidMet.reads h mem_man
  obtain rfl := Option.some.inj ((show Tryz.prog.globalNamed "internal/strconv.float64info" = some 5 by kernel_rfl).symm.trans hg)
  obtain rfl := Option.some.inj ((show (Tryz.prog.globals[5]?).map (·.type) = some 88 by kernel_rfl).symm.trans hty)
  have e := first_of_struct Tryz.underlying88 rfl Tryz.underlying42 rfl bits_cells hd
  rw [World.var?_cell hg hvar 0, ← Array.getElem?_toList, e]
set_option maxRecDepth 100000 in
theorem ten_reads {W : World} (h : laidMet Tryz.prog laidAll W) : W.cell? ⟨14, (0 + 348) * 2, none⟩ = some (.int .u64 9223372036854775808) ∧ W.cell? ⟨14, (0 + 348) * 2 + 1, none⟩ = some (.int .u64 0) := by
  obtain ⟨g, t, cs, fuel, p, hg, hty, hvar, hd⟩ := Lib.laidMet.reads h mem_ten
  obtain rfl := Option.some.inj ((show Tryz.prog.globalNamed "internal/strconv.pow10Tab" = some 14 by kernel_rfl).symm.trans hg)
  obtain rfl := Option.some.inj ((show (Tryz.prog.globals[14]?).map (·.type) = some 163 by kernel_rfl).symm.trans hty)
  obtain ⟨fuel', d, q, hdi, he⟩ := Lib.array_elem (ds := Go.Pinned.pow10Rows.map fun x => (DataW.agg [.lit (.int .u64 x.1), .lit (.int .u64 x.2)] : DataW Unit)) Tryz.underlying163 hd 348 (by omega)
  have hd2 := Option.some.inj (ten_at.symm.trans hdi)
  rw [← hd2] at he
  clear hd2 hdi hd
  rw [pair_cells] at he
  have hcs := Lib.ints_of_struct Tryz.underlying162 (fun j f hj => by
    match j, hj with
    | 0, hj => simp at hj; subst hj; exact ⟨Tryz.underlying33, rfl, word_cells⟩
    | 1, hj => simp at hj; subst hj; exact ⟨Tryz.underlying33, rfl, word_cells⟩
    | j + 2, hj => simp at hj) (by rw [pair_cells]; rfl) he
  have e0 := congrArg (·[0]?) hcs
  have e1 := congrArg (·[1]?) hcs
  simp only [List.getElem?_take, List.getElem?_drop] at e0 e1
  constructor
  · rw [World.var?_cell hg hvar ((0 + 348) * 2), ← Array.getElem?_toList]
    simpa using e0
  · rw [World.var?_cell hg hvar ((0 + 348) * 2 + 1), ← Array.getElem?_toList]
    simpa using e1
theorem door_of_laid {W : World} (h : laidMetH Tryz.prog laidAll W) : TabF W := by
  rw [MakeChecks.laidMetH_plain _ _ _ laid_plain] at h
  exact ⟨opt_reads h, man_reads h, (ten_reads h).1, (ten_reads h).2⟩

/-- No parameter wants a stand-in; the program's own looks are off. -/
theorem plain_of {lk : Bool} {name : String} {f0 : FuncId} {fn0 : Func} (h1 : Tryz.prog.funcNamed name = some f0) (h2 : Tryz.prog.funcs[f0]? = some fn0) (h3 : lk = Tryz.pinned.checked.prog.looks []) (h4 : (fn0.params.toList.all fun t => !Tryz.pinned.checked.prog.wantsStandIn t) = true)
    (f : FuncId) (fn : Func) (hf : Tryz.pinned.checked.prog.funcNamed name = some f) (hfn : Tryz.pinned.checked.prog.funcs[f]? = some fn) :
    lk = Tryz.pinned.checked.prog.looks [] ∧ ∀ (j : Nat) t, fn.params[j]? = some t → Tryz.pinned.checked.prog.wantsStandIn t = false := by
  obtain rfl : f0 = f := Option.some.inj (h1.symm.trans hf)
  obtain rfl : fn0 = fn := Option.some.inj (h2.symm.trans hfn)
  refine ⟨h3, fun j t ht => ?_⟩
  have := List.all_eq_true.1 h4 t (by simpa using Array.mem_of_getElem? ht)
  simpa using this
theorem trodVars_len {H : Type} {enc : TypeId × Value → H} {P : Program} {w : World} {sp : Nat → Bool} : ∀ {ns : List String} {gs : List (DataW H)} {ps : List MemPlace}, DataW.TrodVars enc P w sp ns gs ps → gs.length = ns.length
  | [], [], _, _ => rfl
  | [], _ :: _, _, h => h.elim
  | _ :: _, [], _, h => h.elim
  | n :: ns, d :: ds, ps, h => by
    obtain ⟨g, t, cs, fuel, p, q, _, _, _, _, hs, _⟩ := h
    simp [trodVars_len hs]
theorem door_vars5 {H : Type} {enc : TypeId × Value → H} {P : Program} {w : World} {sp : Nat → Bool} {ns : List String} {gs : List (DataW H)} {ps : List MemPlace} (h : DataW.TrodVars enc P w sp ns gs ps) (hn : ns.length = 5) :
    ∃ g0 g1 g2 g3 g4, gs = [g0, g1, g2, g3, g4] := by
  have := trodVars_len h
  rw [hn] at this
  match gs, this with
  | [a, b, c, d, e], _ => exact ⟨a, b, c, d, e, rfl⟩
theorem door_vars1 {H : Type} {enc : TypeId × Value → H} {P : Program} {w : World} {sp : Nat → Bool} {ns : List String} {gs : List (DataW H)} {ps : List MemPlace} (h : DataW.TrodVars enc P w sp ns gs ps) (hn : ns.length = 1) :
    ∃ g0, gs = [g0] := by
  have := trodVars_len h
  rw [hn] at this
  match gs, this with
  | [x0], _ => exact ⟨x0, rfl⟩
theorem door_vars2 {H : Type} {enc : TypeId × Value → H} {P : Program} {w : World} {sp : Nat → Bool} {ns : List String} {gs : List (DataW H)} {ps : List MemPlace} (h : DataW.TrodVars enc P w sp ns gs ps) (hn : ns.length = 2) :
    ∃ g0 g1, gs = [g0, g1] := by
  have := trodVars_len h
  rw [hn] at this
  match gs, this with
  | [x0, x1], _ => exact ⟨x0, x1, rfl⟩
theorem door_vars3 {H : Type} {enc : TypeId × Value → H} {P : Program} {w : World} {sp : Nat → Bool} {ns : List String} {gs : List (DataW H)} {ps : List MemPlace} (h : DataW.TrodVars enc P w sp ns gs ps) (hn : ns.length = 3) :
    ∃ g0 g1 g2, gs = [g0, g1, g2] := by
  have := trodVars_len h
  rw [hn] at this
  match gs, this with
  | [x0, x1, x2], _ => exact ⟨x0, x1, x2, rfl⟩
theorem door_vars4 {H : Type} {enc : TypeId × Value → H} {P : Program} {w : World} {sp : Nat → Bool} {ns : List String} {gs : List (DataW H)} {ps : List MemPlace} (h : DataW.TrodVars enc P w sp ns gs ps) (hn : ns.length = 4) :
    ∃ g0 g1 g2 g3, gs = [g0, g1, g2, g3] := by
  have := trodVars_len h
  rw [hn] at this
  match gs, this with
  | [x0, x1, x2, x3], _ => exact ⟨x0, x1, x2, x3, rfl⟩
theorem door_vars6 {H : Type} {enc : TypeId × Value → H} {P : Program} {w : World} {sp : Nat → Bool} {ns : List String} {gs : List (DataW H)} {ps : List MemPlace} (h : DataW.TrodVars enc P w sp ns gs ps) (hn : ns.length = 6) :
    ∃ g0 g1 g2 g3 g4 g5, gs = [g0, g1, g2, g3, g4, g5] := by
  have := trodVars_len h
  rw [hn] at this
  match gs, this with
  | [x0, x1, x2, x3, x4, x5], _ => exact ⟨x0, x1, x2, x3, x4, x5, rfl⟩
theorem door_vars7 {H : Type} {enc : TypeId × Value → H} {P : Program} {w : World} {sp : Nat → Bool} {ns : List String} {gs : List (DataW H)} {ps : List MemPlace} (h : DataW.TrodVars enc P w sp ns gs ps) (hn : ns.length = 7) :
    ∃ g0 g1 g2 g3 g4 g5 g6, gs = [g0, g1, g2, g3, g4, g5, g6] := by
  have := trodVars_len h
  rw [hn] at this
  match gs, this with
  | [x0, x1, x2, x3, x4, x5, x6], _ => exact ⟨x0, x1, x2, x3, x4, x5, x6, rfl⟩
theorem door_vars8 {H : Type} {enc : TypeId × Value → H} {P : Program} {w : World} {sp : Nat → Bool} {ns : List String} {gs : List (DataW H)} {ps : List MemPlace} (h : DataW.TrodVars enc P w sp ns gs ps) (hn : ns.length = 8) :
    ∃ g0 g1 g2 g3 g4 g5 g6 g7, gs = [g0, g1, g2, g3, g4, g5, g6, g7] := by
  have := trodVars_len h
  rw [hn] at this
  match gs, this with
  | [x0, x1, x2, x3, x4, x5, x6, x7], _ => exact ⟨x0, x1, x2, x3, x4, x5, x6, x7, rfl⟩
theorem door_vars9 {H : Type} {enc : TypeId × Value → H} {P : Program} {w : World} {sp : Nat → Bool} {ns : List String} {gs : List (DataW H)} {ps : List MemPlace} (h : DataW.TrodVars enc P w sp ns gs ps) (hn : ns.length = 9) :
    ∃ g0 g1 g2 g3 g4 g5 g6 g7 g8, gs = [g0, g1, g2, g3, g4, g5, g6, g7, g8] := by
  have := trodVars_len h
  rw [hn] at this
  match gs, this with
  | [x0, x1, x2, x3, x4, x5, x6, x7, x8], _ => exact ⟨x0, x1, x2, x3, x4, x5, x6, x7, x8, rfl⟩
theorem door_vars10 {H : Type} {enc : TypeId × Value → H} {P : Program} {w : World} {sp : Nat → Bool} {ns : List String} {gs : List (DataW H)} {ps : List MemPlace} (h : DataW.TrodVars enc P w sp ns gs ps) (hn : ns.length = 10) :
    ∃ g0 g1 g2 g3 g4 g5 g6 g7 g8 g9, gs = [g0, g1, g2, g3, g4, g5, g6, g7, g8, g9] := by
  have := trodVars_len h
  rw [hn] at this
  match gs, this with
  | [x0, x1, x2, x3, x4, x5, x6, x7, x8, x9], _ => exact ⟨x0, x1, x2, x3, x4, x5, x6, x7, x8, x9, rfl⟩
end Go.Proofs.YtnipnfopdneodaaGreatDoor
