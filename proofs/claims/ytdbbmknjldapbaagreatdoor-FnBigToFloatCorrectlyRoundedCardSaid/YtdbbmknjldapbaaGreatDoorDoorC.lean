/-
  What every statement's frame of a seat without a stop asks once: closed facts of the program; a start in which the listed variables read as listed.
-/
import Derived.Test.YtdbbmknjldapbaaGreatDoorTie
import Derived.Test.YtdbbmknjldapbaaGreatDoorCards
import Derived.Test.YtdbbmknjldapbaaGreatDoorTabs
import Derived.Test.YtdbbmknjldapbaaGreatDoorTq
import Derived.Lib.LaidU8
import GoSem.PinnedTables
import Derived.WalkKit
import Derived.ProofKit
import Derived.OpenShut
import Derived.ShutString
import Derived.OpenVars
import Derived.SizedLaws
import Derived.Lay
import Derived.PinnedBridge
import Derived.MakeChecks
import Derived.Plain8
import Derived.SevenTiedAt
namespace Go.Proofs.YtdbbmknjldapbaaGreatDoor
set_option linter.unusedVariables false
set_option linter.unusedSimpArgs false
open Go.ChangeShapes Go.WideShapes Go.ChangeAt Go.RowKit Go.Extern.Stop Go.Stop Go.Extern

theorem door_own : ownKnob Tryz.prog.godebug = none := by kernel_rfl
theorem door_laidOut : laidOutB Tryz.pinned.checked.prog = true := by kernel_rfl

theorem door_stops : ([] : List String) = Tryz.pinned.checked.prog.stops := by kernel_rfl
theorem door_knobs : Tryz.pinned.checked.prog.stopKnobs = [] := by kernel_rfl
theorem door_quiet (os : Os) : Stop.quiet Tryz.pinned.checked.prog os := by
  intro k hk
  rw [door_knobs] at hk
  cases hk

/-- A start for a row, at a world of one's own making. -/
theorem witness_row {H : Type} {enc : TypeId × Value → H} {C : Checked} {os : Os} {f : FuncId} {fn : Func} {s : OpenSpec} {conds : List PathCond} {apart : Bool} {laid : List (String × DataW Unit)} (modest : Bool) (w0 : World) (args : Array Value) (hos : w0.os = os)
    (hsh : (w0.forCall (fun _ _ => 0) ⟨#[], args, []⟩).Shaped C.prog)
    (hok : Input.okWideB C.prog (w0.forCall (fun _ _ => 0) ⟨#[], args, []⟩) f ⟨#[], args, []⟩ = true)
    (hrow : s.preRow enc C.prog fn conds apart laid (w0.forCall (fun _ _ => 0) ⟨#[], args, []⟩).memory args) :
    ∃ (w : World) (tape : Tape) (i : Input), w.os = os ∧ (w.forCall tape i).Shaped C.prog ∧ i.vars = [] ∧ Input.okWide C.prog (w.forCall tape i) .any w.heap.size f i ∧
      s.preRow enc C.prog fn conds apart laid (w.forCall tape i).memory i.args ∧ ({ modest := modest } : Assume).holds C.prog (lone (Frame.enter C.prog f i.args .normal) [] (w.forCall tape i)) :=
  ⟨w0, fun _ _ => 0, ⟨#[], args, []⟩, hos, hsh, (Input.okWide_of_okWideB (base := 0) hok).1, (Input.okWide_of_okWideB hok).2, hrow, by
    simp only [Assume.holds]
    exact ⟨by simp, by simp, fun _ => Modest.zero, by simp, by simp⟩⟩

/-- What the rows list. -/
def laidAll : List (String × DataW Unit) := Rows.fnBigToFloatCorrectlyRoundedRow.laid
set_option maxRecDepth 100000 in
theorem door_shaped (os : Os) (args : Array Value) : ((World.laidAll Tryz.prog os laidAll).forCall (fun _ _ => 0) ⟨#[], args, []⟩).Shaped Tryz.prog :=
  World.shaped_of_ZipB (by as_aux_lemma => kernel_rfl) (by as_aux_lemma => kernel_rfl)
theorem laid_plain : (laidAll.all fun x => x.2.handleName?.isNone) = true := by kernel_rfl
set_option maxRecDepth 100000 in
theorem door_laid (os : Os) (args : Array Value) : laidMetH Tryz.prog laidAll ((World.laidAll Tryz.prog os laidAll).forCall (fun _ _ => 0) ⟨#[], args, []⟩).memory := by
  rw [MakeChecks.laidMetH_plain _ _ _ laid_plain]
  exact laidMet_laidAll _ (by as_aux_lemma => kernel_rfl) (by as_aux_lemma => kernel_rfl)
/-- The j-th field of a struct, an integer. -/
theorem int_of_struct {H : Type} {enc : TypeId × Value → H} {P : Program} {w : World} {base : Nat} {sp : Nat → Bool} {held : Bool} {fuel : Nat} {t : TypeId} {fs : Array Field} (j : Nat) {f : Field} {k : IntKind} {cs : List Value} {z : Int} {ds : List (DataW H)} {p : List MemPlace} (o : Nat)
    (ht : P.underlying t = some (.struct fs)) (hf : fs[j]? = some f) (hu : P.underlying f.type = some (.int k)) (ho : f.offset = o) (hc : P.cellsOf f.type = 1)
    (h : DataW.trod enc P w base sp held fuel t cs = some (.agg ds, p)) (hd : ds[j]? = some (.lit (.int k z))) : cs[o]? = some (.int k z) := by
  obtain ⟨xs, n, rfl, hx, hl, hxl, hall⟩ := DataW.trod_struct ht h
  have h1 := hall j f hf
  have hxs : xs.map (·.1) = ds := by
    have := congrArg Prod.fst hx
    simpa using this.symm
  rw [← hxs, List.getElem?_map] at hd
  obtain ⟨b, hb, hb1⟩ := Option.map_eq_some_iff.1 hd
  rw [ho, hc, hb] at h1
  obtain ⟨y, hcy, hb2, _⟩ := DataW.trod_int hu h1
  subst hb2
  simp only [DataW.lit.injEq, Lit.int.injEq, true_and] at hb1
  subst hb1
  have := congrArg (·[0]?) hcy
  simpa [List.getElem?_take, List.getElem?_drop] using this
/-- .. a string. -/
theorem str_of_struct {H : Type} {enc : TypeId × Value → H} {P : Program} {w : World} {base : Nat} {sp : Nat → Bool} {held : Bool} {fuel : Nat} {t : TypeId} {fs : Array Field} (j : Nat) {f : Field} {cs : List Value} {l : List UInt8} {ds : List (DataW H)} {p : List MemPlace} (o : Nat)
    (ht : P.underlying t = some (.struct fs)) (hf : fs[j]? = some f) (hu : P.underlying f.type = some .string) (ho : f.offset = o) (hc : P.cellsOf f.type = 1)
    (h : DataW.trod enc P w base sp held fuel t cs = some (.agg ds, p)) (hd : ds[j]? = some (.lit (.string l))) : ∃ s : ByteArray, s.data.toList = l ∧ cs[o]? = some (.string s) := by
  obtain ⟨xs, n, rfl, hx, hl, hxl, hall⟩ := DataW.trod_struct ht h
  have h1 := hall j f hf
  have hxs : xs.map (·.1) = ds := by
    have := congrArg Prod.fst hx
    simpa using this.symm
  rw [← hxs, List.getElem?_map] at hd
  obtain ⟨b, hb, hb1⟩ := Option.map_eq_some_iff.1 hd
  rw [ho, hc, hb] at h1
  obtain ⟨s, hcy, hb2, _⟩ := DataW.trod_string hu h1
  subst hb2
  simp only [DataW.lit.injEq, Lit.string.injEq] at hb1
  refine ⟨s, hb1, ?_⟩
  have := congrArg (·[0]?) hcy
  simpa [List.getElem?_take, List.getElem?_drop] using this
/-- A slice without room behind it, element by element. -/
theorem slice_read {H : Type} {enc : TypeId × Value → H} {P : Program} {w : World} {base : Nat} {held : Bool} {fuel : Nat} {t e : TypeId} {cs : List Value} {ds : List (DataW H)} {p : List MemPlace}
    (ht : P.underlying t = some (.slice e)) (h : DataW.trod enc P w base (fun _ => true) held fuel t cs = some (.slice ds [], p)) :
    ∃ (a : Addr) (n : Nat), cs = [.slice (some a) ds.length ds.length] ∧ ∀ (i : Nat) (d : DataW H), ds[i]? = some d → ∃ q cs', w.cells? base (a.add (i * P.cellsOf e)) (P.cellsOf e) = some cs' ∧ DataW.trod enc P w base (fun _ => true) held n e cs' = some (d, q) := by
  rcases DataW.trod_slice ht h with ⟨_, hx⟩ | ⟨a, len, cap, elems, rest, n, _, hcs, hx, _, hlc, _, hel, hall, hsp, _⟩
  · cases congrArg Prod.fst hx
  · have h1 := congrArg Prod.fst hx
    simp only [DataW.slice.injEq] at h1
    obtain ⟨hds, hr⟩ := h1
    have hr0 : rest = [] := by
      have := congrArg List.length hr
      simp at this
      exact List.eq_nil_of_length_eq_zero this.symm
    have hcl := (hsp rfl).1
    rw [hr0, List.length_nil] at hcl
    have hdl : ds.length = len := by rw [hds, List.length_map, hel]
    refine ⟨a, n, by rw [hcs, hdl, show cap = len by omega], fun i d hd => ?_⟩
    have hi : i < len := by
      have := (List.getElem?_eq_some_iff.1 hd).1
      omega
    have h2 := hall i hi
    rw [hds, List.getElem?_map] at hd
    obtain ⟨b, hb, hb1⟩ := Option.map_eq_some_iff.1 hd
    rw [hb] at h2
    obtain ⟨cs', hc1, hc2⟩ := Option.bind_eq_some_iff.1 h2
    exact ⟨b.2, cs', hc1, by rw [hc2, ← hb1]⟩
theorem cells_get {w : World} {base n : Nat} {a : Addr} {cs : List Value} (h : w.cells? base a n = some cs) (j : Nat) (hj : j < n) {v : Value} (hv : cs[j]? = some v) : w.cell? (a.add j) = some v := by
  unfold World.cells? at h
  split at h
  · obtain ⟨b, hb, hf⟩ := Lib.mapM_at h j j (by simp [hj])
    rw [hv] at hb
    cases hb
    exact hf
  · cases h
theorem mem_opt : ("internal/strconv.optimize", (Rows.laid_internal_strconv_optimize : DataW Unit)) ∈ laidAll := .tail _ (.tail _ (.tail _ (.tail _ (.head _))))
theorem mem_man : ("internal/strconv.float64info", (Rows.laid_internal_strconv_float64info : DataW Unit)) ∈ laidAll := .tail _ (.tail _ (.tail _ (.head _)))
theorem mem_ten : ("internal/strconv.pow10Tab", Rows.laid_internal_strconv_pow10Tab) ∈ laidAll := .tail _ (.tail _ (.tail _ (.tail _ (.tail _ (.tail _ (.tail _ (.tail _ (.tail _ (.tail _ (.tail _ (.tail _ (.tail _ (.tail _ (.tail _ (.tail _ (.tail _ (.head _)))))))))))))))))
theorem mem_leaf : ("github.com/itchyny/gojq/pub/bigall.leafSize", (Rows.laid_github_com_itchyny_gojq_pub_bigall_leafSize : DataW Unit)) ∈ laidAll := .tail _ (.tail _ (.tail _ (.tail _ (.tail _ (.tail _ (.tail _ (.tail _ (.tail _ (.tail _ (.tail _ (.head _)))))))))))
theorem mem_pw' : ("internal/strconv.powtab", (Rows.laid_internal_strconv_powtab : DataW Unit)) ∈ laidAll := .tail _ (.tail _ (.tail _ (.tail _ (.tail _ (.head _)))))
theorem mem_lc' : ("internal/strconv.leftcheats", (Rows.laid_internal_strconv_leftcheats : DataW Unit)) ∈ laidAll := .tail _ (.tail _ (.tail _ (.tail _ (.tail _ (.tail _ (.tail _ (.tail _ (.tail _ (.tail _ (.tail _ (.tail _ (.tail _ (.tail _ (.tail _ (.tail _ (.head _))))))))))))))))
def elemsOf : DataW Unit → List (DataW Unit)
  | .slice l _ => l
  | _ => []
def pwData : List (DataW Unit) := elemsOf Rows.laid_internal_strconv_powtab
def lcData : List (DataW Unit) := elemsOf Rows.laid_internal_strconv_leftcheats
theorem pw_is : (Rows.laid_internal_strconv_powtab : DataW Unit) = .slice pwData [] := by kernel_rfl
theorem lc_is : (Rows.laid_internal_strconv_leftcheats : DataW Unit) = .slice lcData [] := by kernel_rfl
theorem mem_pw : ("internal/strconv.powtab", (DataW.slice pwData [] : DataW Unit)) ∈ laidAll := by rw [← pw_is]; exact mem_pw'
theorem mem_lc : ("internal/strconv.leftcheats", (DataW.slice lcData [] : DataW Unit)) ∈ laidAll := by rw [← lc_is]; exact mem_lc'
theorem lc_zero : lcData[0]? = some (.agg [.lit (.int .i64 ((0 : Nat) : Int)), .lit (.string [])]) := by kernel_rfl
theorem lc_len : lcData.length = 61 := by kernel_rfl
theorem pw_len : pwData.length = 9 := by kernel_rfl
theorem word_cells : Tryz.prog.cellsOf 22 = 1 := by kernel_rfl
theorem bits_cells : Tryz.prog.cellsOf 34 = 1 := by kernel_rfl
theorem int_cells : Tryz.prog.cellsOf 3 = 1 := by kernel_rfl
theorem str_cells : Tryz.prog.cellsOf 9 = 1 := by kernel_rfl
theorem pair_cells : Tryz.prog.cellsOf 175 = 2 := by kernel_rfl
theorem cheat_cells : Tryz.prog.cellsOf 197 = 2 := by kernel_rfl
theorem opt_reads {W : World} (h : laidMet Tryz.prog laidAll W) : W.cell? ⟨4, 0, none⟩ = some (.bool true) := by
  obtain ⟨g, t, cs, fuel, p, hg, hty, hvar, hd⟩ := Lib.laidMet.reads h mem_opt
  obtain rfl := Option.some.inj ((show Tryz.prog.globalNamed "internal/strconv.optimize" = some 4 by kernel_rfl).symm.trans hg)
  obtain rfl := Option.some.inj ((show (Tryz.prog.globals[4]?).map (·.type) = some 4 by kernel_rfl).symm.trans hty)
  obtain ⟨b, hc, hx⟩ := DataW.trod_bool Tryz.underlying4 hd
  have e : (DataW.lit (.bool true) : DataW Unit) = .lit (.bool b) := congrArg Prod.fst hx
  cases e
  rw [World.var?_cell hg hvar 0, ← Array.getElem?_toList, hc]
  rfl
theorem leaf_reads {W : World} (h : laidMet Tryz.prog laidAll W) : W.cell? ⟨6, 0, none⟩ = some (.int .i64 8) := by
  obtain ⟨g, t, cs, fuel, p, hg, hty, hvar, hd⟩ := Lib.laidMet.reads h mem_leaf
  obtain rfl := Option.some.inj ((show Tryz.prog.globalNamed "github.com/itchyny/gojq/pub/bigall.leafSize" = some 6 by kernel_rfl).symm.trans hg)
  obtain rfl := Option.some.inj ((show (Tryz.prog.globals[6]?).map (·.type) = some 3 by kernel_rfl).symm.trans hty)
  obtain ⟨b, hc, hx, _⟩ := DataW.trod_int Tryz.underlying3 hd
  have e : (DataW.lit (.int .i64 8) : DataW Unit) = .lit (.int .i64 b) := congrArg Prod.fst hx
  cases e
  rw [World.var?_cell hg hvar 0, ← Array.getElem?_toList, hc]
  rfl
theorem man_reads {W : World} (h : laidMet Tryz.prog laidAll W) : W.cell? ⟨5, 0, none⟩ = some (.int .u64 52) ∧ W.cell? ⟨5, 1, none⟩ = some (.int .u64 11) ∧ W.cell? ⟨5, 2, none⟩ = some (.int .i64 (-1023)) := by
  obtain ⟨g, t, cs, fuel, p, hg, hty, hvar, hd⟩ := Lib.laidMet.reads h mem_man
  obtain rfl := Option.some.inj ((show Tryz.prog.globalNamed "internal/strconv.float64info" = some 5 by kernel_rfl).symm.trans hg)
  obtain rfl := Option.some.inj ((show (Tryz.prog.globals[5]?).map (·.type) = some 105 by kernel_rfl).symm.trans hty)
  have e0 := int_of_struct 0 0 Tryz.underlying105 rfl Tryz.underlying34 rfl bits_cells hd rfl
  have e1 := int_of_struct 1 1 Tryz.underlying105 rfl Tryz.underlying34 rfl bits_cells hd rfl
  have e2 := int_of_struct 2 2 Tryz.underlying105 rfl Tryz.underlying3 rfl int_cells hd rfl
  exact ⟨by rw [World.var?_cell hg hvar 0, ← Array.getElem?_toList, e0], by rw [World.var?_cell hg hvar 1, ← Array.getElem?_toList, e1], by rw [World.var?_cell hg hvar 2, ← Array.getElem?_toList, e2]⟩
theorem ten_all : (List.range 21).all (fun p => decide (Go.Pinned.pow10Rows[348 + p]? = some (tabT p, 0))) = true := by kernel_rfl
theorem ten_at (p : Nat) (hp : p ≤ 20) : (Go.Pinned.pow10Rows.map fun x => (DataW.agg [.lit (.int .u64 x.1), .lit (.int .u64 x.2)] : DataW Unit))[348 + p]? = some (.agg ([(tabT p : Int), 0].map fun z => .lit (.int .u64 z))) := by
  have h := List.all_eq_true.1 ten_all p (List.mem_range.2 (by omega))
  rw [List.getElem?_map, of_decide_eq_true h]
  rfl
set_option maxRecDepth 100000 in
theorem ten_reads {W : World} (h : laidMet Tryz.prog laidAll W) (p : Nat) (hp : p ≤ 20) : W.cell? ⟨14, (p + 348) * 2, none⟩ = some (.int .u64 (tabT p : Int)) ∧ W.cell? ⟨14, (p + 348) * 2 + 1, none⟩ = some (.int .u64 0) := by
  obtain ⟨g, t, cs, fuel, q, hg, hty, hvar, hd⟩ := Lib.laidMet.reads h mem_ten
  obtain rfl := Option.some.inj ((show Tryz.prog.globalNamed "internal/strconv.pow10Tab" = some 14 by kernel_rfl).symm.trans hg)
  obtain rfl := Option.some.inj ((show (Tryz.prog.globals[14]?).map (·.type) = some 176 by kernel_rfl).symm.trans hty)
  obtain ⟨fuel', d, q', hdi, he⟩ := Lib.array_elem (ds := Go.Pinned.pow10Rows.map fun x => (DataW.agg [.lit (.int .u64 x.1), .lit (.int .u64 x.2)] : DataW Unit)) Tryz.underlying176 hd (348 + p) (by omega)
  have hd2 := Option.some.inj ((ten_at p hp).symm.trans hdi)
  rw [← hd2] at he
  clear hd2 hdi hd
  rw [pair_cells] at he
  have hcs := Lib.ints_of_struct Tryz.underlying175 (fun j f hj => by
    match j, hj with
    | 0, hj => simp at hj; subst hj; exact ⟨Tryz.underlying22, rfl, word_cells⟩
    | 1, hj => simp at hj; subst hj; exact ⟨Tryz.underlying22, rfl, word_cells⟩
    | j + 2, hj => simp at hj) (by rw [pair_cells]; rfl) he
  have e0 := congrArg (·[0]?) hcs
  have e1 := congrArg (·[1]?) hcs
  simp only [List.getElem?_take, List.getElem?_drop] at e0 e1
  constructor
  · rw [World.var?_cell hg hvar ((p + 348) * 2), ← Array.getElem?_toList, show (p + 348) * 2 = (348 + p) * 2 + 0 by omega]
    simpa using e0
  · rw [World.var?_cell hg hvar ((p + 348) * 2 + 1), ← Array.getElem?_toList, show (p + 348) * 2 + 1 = (348 + p) * 2 + 1 by omega]
    simpa using e1
set_option maxRecDepth 100000 in
theorem pw_reads {W : World} (h : laidMet Tryz.prog laidAll W) : ∃ P : Addr, W.cell? ⟨8, 0, none⟩ = some (.slice (some ⟨P.block, P.off, none⟩) 9 9) ∧ ∀ i, i < 9 → W.cell? ⟨P.block, P.off + i, none⟩ = some (.int .i64 (pw9 i : Int)) := by
  obtain ⟨g, t, cs, fuel, q, hg, hty, hvar, hd⟩ := Lib.laidMet.reads h mem_pw
  obtain rfl := Option.some.inj ((show Tryz.prog.globalNamed "internal/strconv.powtab" = some 8 by kernel_rfl).symm.trans hg)
  obtain rfl := Option.some.inj ((show (Tryz.prog.globals[8]?).map (·.type) = some 157 by kernel_rfl).symm.trans hty)
  obtain ⟨a, n, hcs, hall⟩ := slice_read (ds := pwData) Tryz.underlying157 hd
  have hcell : ∀ i, i < 9 → W.cell? (a.add i) = some (.int .i64 (pw9 i : Int)) := fun i hi => by
    have hdi : pwData[i]? = some (.lit (.int .i64 (pw9 i : Int))) := by
      have : ∀ i : Fin 9, pwData[i.1]? = some (.lit (.int .i64 (pw9 i.1 : Int))) := fun i => by
        match i with
        | ⟨0, _⟩ => rfl
        | ⟨1, _⟩ => rfl
        | ⟨2, _⟩ => rfl
        | ⟨3, _⟩ => rfl
        | ⟨4, _⟩ => rfl
        | ⟨5, _⟩ => rfl
        | ⟨6, _⟩ => rfl
        | ⟨7, _⟩ => rfl
        | ⟨8, _⟩ => rfl
      exact this ⟨i, hi⟩
    obtain ⟨q', cs', hc, ht'⟩ := hall i _ hdi
    rw [int_cells, Nat.mul_one] at hc
    obtain ⟨z, hz, hx, _⟩ := DataW.trod_int Tryz.underlying3 ht'
    have e := congrArg Prod.fst hx
    simp only [DataW.lit.injEq, Lit.int.injEq, true_and] at e
    subst e
    have := cells_get hc 0 (by decide) (by rw [hz]; rfl)
    have hadd : (a.add i).add 0 = a.add i := by unfold Addr.add; rw [if_pos rfl]
    rwa [hadd] at this
  have hsp : a.spot = none := by
    have := World.cell?_spot (hcell 0 (by decide))
    simpa [Addr.add] using this
  obtain ⟨ab, ao, asp⟩ := a
  dsimp only at hsp
  subst hsp
  refine ⟨⟨ab, ao, none⟩, ?_, fun i hi => ?_⟩
  · rw [World.var?_cell hg hvar 0, ← Array.getElem?_toList, hcs, pw_len]
    rfl
  · have := hcell i hi
    rwa [add_plain] at this
/-- What a row of the left shift's table asks beside its cells: closed facts. -/
theorem cheat_of {W : World} {ab ao k dl : Nat} {S : List UInt8} (s : ByteArray) (hs : s.data.toList = S) (htab : W.cell? ⟨16, 0, none⟩ = some (.slice (some ⟨ab, ao, none⟩) 61 61))
    (hnum : W.cell? ⟨ab, ao + k * 2, none⟩ = some (.int .i64 (dl : Int))) (hstr : W.cell? ⟨ab, ao + k * 2 + 1, none⟩ = some (.string s))
    (h1 : Digs S) (h2 : S.length ≤ 100) (h3 : ∀ h : 0 < S.length, (S[S.length - 1]'(by omega)).toNat ≠ 48) (h4 : valD S = 5 ^ k) (h5 : dl + S.length = k + 1) (h6 : 10 ^ (k - S.length) ≤ 2 ^ k) (h7 : 2 ^ k < 10 ^ dl) (h8 : 1 ≤ dl) (h9 : k ≤ 60) : Cheat W ⟨ab, ao, none⟩ k dl S s := by
  have hsz : s.size = S.length := by rw [← hs, Array.length_toList]; rfl
  refine ⟨htab, hnum, hstr, hsz, fun i hi hi2 => ?_, h1, h2, h3, h4, h5, h6, h7, h8, h9⟩
  subst hs
  simp [ByteArray.getElem_eq_getElem_data]
set_option maxRecDepth 100000 in
theorem lc_reads {W : World} (h : laidMet Tryz.prog laidAll W) : ∃ (L : Addr) (T1 T53 : ByteArray), Cheat W L 1 1 [53] T1 ∧ Cheat W L 53 16 five53 T53 := by
  obtain ⟨g, t, cs, fuel, q, hg, hty, hvar, hd⟩ := Lib.laidMet.reads h mem_lc
  obtain rfl := Option.some.inj ((show Tryz.prog.globalNamed "internal/strconv.leftcheats" = some 16 by kernel_rfl).symm.trans hg)
  obtain rfl := Option.some.inj ((show (Tryz.prog.globals[16]?).map (·.type) = some 198 by kernel_rfl).symm.trans hty)
  obtain ⟨a, n, hcs, hall⟩ := slice_read (ds := lcData) Tryz.underlying198 hd
  have hrow : ∀ (k dl : Nat) (S : List UInt8), lcData[k]? = some (.agg [.lit (.int .i64 (dl : Int)), .lit (.string S)]) → ∃ s : ByteArray, s.data.toList = S ∧ W.cell? ((a.add (k * 2)).add 0) = some (.int .i64 (dl : Int)) ∧ W.cell? ((a.add (k * 2)).add 1) = some (.string s) := fun k dl S hk => by
    obtain ⟨q', cs', hc, ht'⟩ := hall k _ hk
    rw [cheat_cells] at hc
    have e0 := int_of_struct 0 0 Tryz.underlying197 rfl Tryz.underlying3 rfl int_cells ht' rfl
    obtain ⟨s, hs, e1⟩ := str_of_struct 1 1 Tryz.underlying197 rfl Tryz.underlying9 rfl str_cells ht' rfl
    exact ⟨s, hs, cells_get hc 0 (by decide) e0, cells_get hc 1 (by decide) e1⟩
  obtain ⟨s1, hs1, n1, m1⟩ := hrow 1 1 [53] (by kernel_rfl)
  obtain ⟨s53, hs53, n53, m53⟩ := hrow 53 16 five53 (by kernel_rfl)
  have hsp : a.spot = none := by
    obtain ⟨q', cs', hc, ht'⟩ := hall 0 _ lc_zero
    rw [cheat_cells] at hc
    have e0 := int_of_struct 0 0 Tryz.underlying197 rfl Tryz.underlying3 rfl int_cells ht' rfl
    have := World.cell?_spot (cells_get hc 0 (by decide) e0)
    simpa [Addr.add] using this
  obtain ⟨ab, ao, asp⟩ := a
  dsimp only at hsp
  subst hsp
  rw [add_plain, add_plain] at n1 m1 n53 m53
  rw [Nat.add_zero] at n1 n53
  have htab : W.cell? ⟨16, 0, none⟩ = some (.slice (some ⟨ab, ao, none⟩) 61 61) := by
    rw [World.var?_cell hg hvar 0, ← Array.getElem?_toList, hcs, lc_len]
    rfl
  exact ⟨⟨ab, ao, none⟩, s1, s53, cheat_of s1 hs1 htab n1 m1 (by unfold Digs; decide) (by decide) (by decide) (by decide) (by decide) (by decide) (by decide) (by decide) (by decide),
    cheat_of s53 hs53 htab n53 m53 (by unfold Digs five53; decide) (by decide) (by decide) (by decide) (by decide) (by decide) (by decide) (by decide) (by decide)⟩
theorem door_of_laid {W : World} (h : laidMetH Tryz.prog laidAll W) : TabW W := by
  rw [MakeChecks.laidMetH_plain _ _ _ laid_plain] at h
  obtain ⟨P, p1, p2⟩ := pw_reads h
  obtain ⟨L, T1, T53, l1, l2⟩ := lc_reads h
  obtain ⟨i0, i1, i2⟩ := man_reads h
  exact ⟨⟨P, L, T1, T53, ⟨opt_reads h, fun p hp => ten_reads h p hp, p1, p2, l1, l2, i0, i1, i2⟩⟩, leaf_reads h⟩

/-- No parameter wants a stand-in; the program's own looks are off. -/
theorem plain_of {lk : Bool} {name : String} {f0 : FuncId} {fn0 : Func} (h1 : Tryz.prog.funcNamed name = some f0) (h2 : Tryz.prog.funcs[f0]? = some fn0) (h3 : lk = Tryz.pinned.checked.prog.looks []) (h4 : (fn0.params.toList.all fun t => !Tryz.pinned.checked.prog.wantsStandIn t) = true)
    (f : FuncId) (fn : Func) (hf : Tryz.pinned.checked.prog.funcNamed name = some f) (hfn : Tryz.pinned.checked.prog.funcs[f]? = some fn) :
    lk = Tryz.pinned.checked.prog.looks [] ∧ ∀ (j : Nat) t, fn.params[j]? = some t → Tryz.pinned.checked.prog.wantsStandIn t = false := by
  obtain rfl : f0 = f := Option.some.inj (h1.symm.trans hf)
  obtain rfl : fn0 = fn := Option.some.inj (h2.symm.trans hfn)
  refine ⟨h3, fun j t ht => ?_⟩
  have := List.all_eq_true.1 h4 t (by simpa using Array.mem_of_getElem? ht)
  simpa using this
theorem trodVars_len {H : Type} {enc : TypeId × Value → H} {P : Program} {w : World} {sp : Nat → Bool} : ∀ {ns : List String} {gs : List (DataW H)} {ps : List MemPlace}, DataW.TrodVars enc P w sp ns gs ps → gs.length = ns.length
  | [], [], _, _ => rfl
  | [], _ :: _, _, h => h.elim
  | _ :: _, [], _, h => h.elim
  | n :: ns, d :: ds, ps, h => by
    obtain ⟨g, t, cs, fuel, p, q, _, _, _, _, hs, _⟩ := h
    simp [trodVars_len hs]
theorem door_vars5 {H : Type} {enc : TypeId × Value → H} {P : Program} {w : World} {sp : Nat → Bool} {ns : List String} {gs : List (DataW H)} {ps : List MemPlace} (h : DataW.TrodVars enc P w sp ns gs ps) (hn : ns.length = 5) :
    ∃ g0 g1 g2 g3 g4, gs = [g0, g1, g2, g3, g4] := by
  have := trodVars_len h
  rw [hn] at this
  match gs, this with
  | [a, b, c, d, e], _ => exact ⟨a, b, c, d, e, rfl⟩
theorem door_vars1 {H : Type} {enc : TypeId × Value → H} {P : Program} {w : World} {sp : Nat → Bool} {ns : List String} {gs : List (DataW H)} {ps : List MemPlace} (h : DataW.TrodVars enc P w sp ns gs ps) (hn : ns.length = 1) :
    ∃ g0, gs = [g0] := by
  have := trodVars_len h
  rw [hn] at this
  match gs, this with
  | [x0], _ => exact ⟨x0, rfl⟩
theorem door_vars2 {H : Type} {enc : TypeId × Value → H} {P : Program} {w : World} {sp : Nat → Bool} {ns : List String} {gs : List (DataW H)} {ps : List MemPlace} (h : DataW.TrodVars enc P w sp ns gs ps) (hn : ns.length = 2) :
    ∃ g0 g1, gs = [g0, g1] := by
  have := trodVars_len h
  rw [hn] at this
  match gs, this with
  | [x0, x1], _ => exact ⟨x0, x1, rfl⟩
theorem door_vars3 {H : Type} {enc : TypeId × Value → H} {P : Program} {w : World} {sp : Nat → Bool} {ns : List String} {gs : List (DataW H)} {ps : List MemPlace} (h : DataW.TrodVars enc P w sp ns gs ps) (hn : ns.length = 3) :
    ∃ g0 g1 g2, gs = [g0, g1, g2] := by
  have := trodVars_len h
  rw [hn] at this
  match gs, this with
  | [x0, x1, x2], _ => exact ⟨x0, x1, x2, rfl⟩
theorem door_vars4 {H : Type} {enc : TypeId × Value → H} {P : Program} {w : World} {sp : Nat → Bool} {ns : List String} {gs : List (DataW H)} {ps : List MemPlace} (h : DataW.TrodVars enc P w sp ns gs ps) (hn : ns.length = 4) :
    ∃ g0 g1 g2 g3, gs = [g0, g1, g2, g3] := by
  have := trodVars_len h
  rw [hn] at this
  match gs, this with
  | [x0, x1, x2, x3], _ => exact ⟨x0, x1, x2, x3, rfl⟩
theorem door_vars6 {H : Type} {enc : TypeId × Value → H} {P : Program} {w : World} {sp : Nat → Bool} {ns : List String} {gs : List (DataW H)} {ps : List MemPlace} (h : DataW.TrodVars enc P w sp ns gs ps) (hn : ns.length = 6) :
    ∃ g0 g1 g2 g3 g4 g5, gs = [g0, g1, g2, g3, g4, g5] := by
  have := trodVars_len h
  rw [hn] at this
  match gs, this with
  | [x0, x1, x2, x3, x4, x5], _ => exact ⟨x0, x1, x2, x3, x4, x5, rfl⟩
theorem door_vars7 {H : Type} {enc : TypeId × Value → H} {P : Program} {w : World} {sp : Nat → Bool} {ns : List String} {gs : List (DataW H)} {ps : List MemPlace} (h : DataW.TrodVars enc P w sp ns gs ps) (hn : ns.length = 7) :
    ∃ g0 g1 g2 g3 g4 g5 g6, gs = [g0, g1, g2, g3, g4, g5, g6] := by
  have := trodVars_len h
  rw [hn] at this
  match gs, this with
  | [x0, x1, x2, x3, x4, x5, x6], _ => exact ⟨x0, x1, x2, x3, x4, x5, x6, rfl⟩
theorem door_vars8 {H : Type} {enc : TypeId × Value → H} {P : Program} {w : World} {sp : Nat → Bool} {ns : List String} {gs : List (DataW H)} {ps : List MemPlace} (h : DataW.TrodVars enc P w sp ns gs ps) (hn : ns.length = 8) :
    ∃ g0 g1 g2 g3 g4 g5 g6 g7, gs = [g0, g1, g2, g3, g4, g5, g6, g7] := by
  have := trodVars_len h
  rw [hn] at this
  match gs, this with
  | [x0, x1, x2, x3, x4, x5, x6, x7], _ => exact ⟨x0, x1, x2, x3, x4, x5, x6, x7, rfl⟩
theorem door_vars9 {H : Type} {enc : TypeId × Value → H} {P : Program} {w : World} {sp : Nat → Bool} {ns : List String} {gs : List (DataW H)} {ps : List MemPlace} (h : DataW.TrodVars enc P w sp ns gs ps) (hn : ns.length = 9) :
    ∃ g0 g1 g2 g3 g4 g5 g6 g7 g8, gs = [g0, g1, g2, g3, g4, g5, g6, g7, g8] := by
  have := trodVars_len h
  rw [hn] at this
  match gs, this with
  | [x0, x1, x2, x3, x4, x5, x6, x7, x8], _ => exact ⟨x0, x1, x2, x3, x4, x5, x6, x7, x8, rfl⟩
theorem door_vars10 {H : Type} {enc : TypeId × Value → H} {P : Program} {w : World} {sp : Nat → Bool} {ns : List String} {gs : List (DataW H)} {ps : List MemPlace} (h : DataW.TrodVars enc P w sp ns gs ps) (hn : ns.length = 10) :
    ∃ g0 g1 g2 g3 g4 g5 g6 g7 g8 g9, gs = [g0, g1, g2, g3, g4, g5, g6, g7, g8, g9] := by
  have := trodVars_len h
  rw [hn] at this
  match gs, this with
  | [x0, x1, x2, x3, x4, x5, x6, x7, x8, x9], _ => exact ⟨x0, x1, x2, x3, x4, x5, x6, x7, x8, x9, rfl⟩
end Go.Proofs.YtdbbmknjldapbaaGreatDoor
