/-
  What the listing of the rows with listed variables gives: a start in which the variables read as listed, and what the walks ask of them.
-/
import Derived.Test.YtmbegjbhmeihiaaGreatFmtDoor
import Derived.Test.YtmbegjbhmeihiaaGreatFmtTabs
import Derived.Test.YtmbegjbhmeihiaaGreatFmtShelf
import Derived.Lib.LaidTab
import Derived.Lib.LaidU8
namespace Go.Proofs.YtmbegjbhmeihiaaGreatFmt
set_option linter.unusedVariables false
set_option linter.unusedSimpArgs false
open Go.ChangeShapes Go.WideShapes Go.ChangeAt Go.RowKit Go.Extern.Stop Go.Stop Go.Extern

/-- What the rows list. -/
def laidAll : List (String × DataW Unit) := Rows.fnToStringIntArrayIsCompactJSONRow.laid
set_option maxRecDepth 100000 in
theorem door_shaped (os : Os) (args : Array Value) : ((World.laidAll Tryz.prog os laidAll).forCall (fun _ _ => 0) ⟨#[], args, []⟩).Shaped Tryz.prog :=
  World.shaped_of_ZipB (by as_aux_lemma => kernel_rfl) (by as_aux_lemma => kernel_rfl)
theorem laid_plain : (laidAll.all fun x => x.2.handleName?.isNone) = true := by kernel_rfl
set_option maxRecDepth 100000 in
theorem door_laid (os : Os) (args : Array Value) : laidMetH Tryz.prog laidAll ((World.laidAll Tryz.prog os laidAll).forCall (fun _ _ => 0) ⟨#[], args, []⟩).memory := by
  rw [MakeChecks.laidMetH_plain _ _ _ laid_plain]
  exact laidMet_laidAll _ (by as_aux_lemma => kernel_rfl) (by as_aux_lemma => kernel_rfl)

theorem trodVars_len {H : Type} {enc : TypeId × Value → H} {P : Program} {w : World} {sp : Nat → Bool} : ∀ {ns : List String} {gs : List (DataW H)} {ps : List MemPlace}, DataW.TrodVars enc P w sp ns gs ps → gs.length = ns.length
  | [], [], _, _ => rfl
  | [], _ :: _, _, h => h.elim
  | _ :: _, [], _, h => h.elim
  | n :: ns, d :: ds, ps, h => by
    obtain ⟨g, t, cs, fuel, p, q, _, _, _, _, hs, _⟩ := h
    simp [trodVars_len hs]
theorem door_vars5 {H : Type} {enc : TypeId × Value → H} {P : Program} {w : World} {sp : Nat → Bool} {ns : List String} {gs : List (DataW H)} {ps : List MemPlace} (h : DataW.TrodVars enc P w sp ns gs ps) (hn : ns.length = 5) :
    ∃ g0 g1 g2 g3 g4, gs = [g0, g1, g2, g3, g4] := by
  have := trodVars_len h
  rw [hn] at this
  match gs, this with
  | [a, b, c, d, e], _ => exact ⟨a, b, c, d, e, rfl⟩

theorem tabIs_of_reads {P : Program} {w : World} {name : String} {k : IntKind} {zs : List Int} {g : Nat} {t e : TypeId} {n : Nat} (hg : P.globalNamed name = some g) (hty : (P.globals[g]?).map (·.type) = some t)
    (ht : P.underlying t = some (.array n e)) (he : P.underlying e = some (.int k)) (hce : P.cellsOf e = 1) (hct : P.cellsOf t = n) (h : Lib.VarReads P w name (Lib.tabData k zs)) : Lib.TabIs P w name k zs := by
  obtain ⟨g', t', cs, fuel, p, h1, h2, h3, h4⟩ := h
  obtain rfl := Option.some.inj (hg.symm.trans h1)
  obtain rfl := Option.some.inj (hty.symm.trans h2)
  have hcs := Lib.cells_of_tab ht he hce hct h4
  show w.var? P name = _
  rw [h3, ← hcs]

theorem laid_pow : Rows.laid_internal_strconv_uint64pow10 = (Lib.tabData .u64 Lib.pow10Tab : DataW Unit) := by kernel_rfl
theorem laid_acc : Rows.laid_unicode_utf8_acceptRanges = Lib.acceptData := by kernel_rfl
theorem laid_first : Rows.laid_unicode_utf8_first = Lib.firstData := by kernel_rfl
theorem mem_pow : ("internal/strconv.uint64pow10", (Rows.laid_internal_strconv_uint64pow10 : DataW Unit)) ∈ laidAll := .tail _ (.tail _ (.tail _ (.head _)))
theorem mem_acc : ("unicode/utf8.acceptRanges", (Rows.laid_unicode_utf8_acceptRanges : DataW Unit)) ∈ laidAll := .tail _ (.tail _ (.tail _ (.tail _ (.head _))))
theorem mem_first : ("unicode/utf8.first", (Rows.laid_unicode_utf8_first : DataW Unit)) ∈ laidAll := .tail _ (.tail _ (.tail _ (.tail _ (.tail _ (.tail _ (.tail _ (.tail _ (.tail _ (.tail _ (.tail _ (.tail _ (.head _))))))))))))
theorem u8extra : U8Extra Tryz.prog Tryz.lays197_ren := ⟨by kernel_rfl, by kernel_rfl, by kernel_rfl, by kernel_rfl, by kernel_rfl, by kernel_rfl, by kernel_rfl⟩
theorem door_of_laid {W : World} (h : laidMetH Tryz.prog laidAll W) : Tabs W := by
  rw [MakeChecks.laidMetH_plain _ _ _ laid_plain] at h
  refine ⟨tabIs_of_reads (g := 4) (t := 141) (e := 28) (n := 20) (by kernel_rfl) (by kernel_rfl) Tryz.underlying141 Tryz.underlying28 (by kernel_rfl) (by kernel_rfl) (laid_pow ▸ Lib.laidMet.reads h mem_pow), ?_⟩
  exact utf8Tabs_of_reads (ρ := Tryz.lays197_ren) { Tryz.lays197 with } u8extra (laid_first ▸ Lib.laidMet.reads h mem_first) (laid_acc ▸ Lib.laidMet.reads h mem_acc)
end Go.Proofs.YtmbegjbhmeihiaaGreatFmt
