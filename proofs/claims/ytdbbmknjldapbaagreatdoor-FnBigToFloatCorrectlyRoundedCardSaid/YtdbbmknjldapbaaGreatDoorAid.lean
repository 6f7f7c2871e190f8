/-
  Laws on cells that the walks below use: a run of cells of one block set at once; 'copy' from a string; 'append' of a string where there is room; which blocks a call may have turned. No program in this text.
-/
import Derived.WalkKit
import Derived.Laws.IdiomCopy
import Derived.Laws.CopyOwn
import Derived.Lib.AppendStr
import Derived.Lib.UnsafeStr
import Derived.Lib.Strings
import Derived.Deep.Draws
import Derived.WalkLawsBesides
namespace Go.Proofs.YtdbbmknjldapbaaGreatDoor
set_option linter.unusedVariables false
set_option linter.unusedSimpArgs false
open Go.RowKit

/-- Bytes as cells. -/
def bc (l : List UInt8) : List Value := l.map fun b => Value.int .u8 (b.toNat : Int)
theorem bc_length (l : List UInt8) : (bc l).length = l.length := by simp [bc]
theorem bc_append (l m : List UInt8) : bc (l ++ m) = bc l ++ bc m := by simp [bc]
theorem bc_take (l : List UInt8) (n : Nat) : bc (l.take n) = (bc l).take n := by simp [bc, List.map_take]
theorem bc_one (l : List UInt8) : ∀ u ∈ bc l, u.oneCell' = true := by
  intro u hu
  simp only [bc, List.mem_map] at hu
  obtain ⟨b, _, rfl⟩ := hu
  rfl
theorem bc_get (l : List UInt8) (j : Nat) (h : j < l.length) : (bc l)[j]? = some (.int .u8 (l[j].toNat : Int)) := by simp [bc, h]

/-- A run of cells of a block that is known whole. -/
theorem heap_setCells (b : Nat) (t : TypeId) (fr : Nat × Nat) : ∀ (vs : List Value) (o : Nat) (w : World) (cur : List Value), w.heap[b]? = some (.cells cur.toArray t fr) → o + vs.length ≤ cur.length →
    (w.setCells b o vs).heap[b]? = some (.cells (splice cur o vs).toArray t fr)
  | [], o, w, cur, h, hl => by simpa [World.setCells, splice] using h
  | v :: r, o, w, cur, h, hl => by
    simp only [List.length_cons] at hl
    have h1 : (w.setCell ⟨b, o, none⟩ v).heap[b]? = some (.cells (cur.set o v).toArray t fr) := by
      simp only [World.setCell, Array.getElem?_modify, if_true, h, Option.map_some]
      simp
    rw [World.setCells, heap_setCells b t fr r (o + 1) _ (cur.set o v) h1 (by simp; omega)]
    congr 2
    congr 1
    unfold splice
    apply List.ext_getElem?
    intro i
    simp only [List.getElem?_append, List.getElem?_take, List.getElem?_drop, List.length_take, List.length_set, List.getElem?_set, List.length_cons, List.getElem?_cons]
    by_cases h1 : i < o
    · have a1 : i < min (o + 1) cur.length := by omega
      have a2 : i < min o cur.length := by omega
      rw [if_pos a1, if_pos a2, if_pos (by omega), if_pos h1, if_neg (by omega)]
    · by_cases h2 : i = o
      · subst h2
        have a1 : i < min (i + 1) cur.length := by omega
        have a2 : ¬ i < min i cur.length := by omega
        rw [if_pos a1, if_neg a2, if_pos (by omega), if_pos rfl, if_pos (by omega)]
        have a3 : i - min i cur.length = 0 := by omega
        simp [a3]
      · have a1 : ¬ i < min (o + 1) cur.length := by omega
        have a2 : ¬ i < min o cur.length := by omega
        rw [if_neg a1, if_neg a2]
        have e1 : min (o + 1) cur.length = o + 1 := by omega
        have e2 : min o cur.length = o := by omega
        rw [e1, e2]
        have e3 : i - o = (i - (o + 1)) + 1 := by omega
        rw [e3]
        by_cases h3 : i - (o + 1) < r.length
        · rw [if_pos h3, if_pos (by omega)]
          simp
        · rw [if_neg h3, if_neg (by omega)]
          rw [if_neg (by omega)]
          congr 1
          omega
theorem heap_setCells_other (b : Nat) : ∀ (vs : List Value) (o : Nat) (w : World) (k : Nat), k ≠ b → (w.setCells b o vs).heap[k]? = w.heap[k]?
  | [], _, _, _, _ => rfl
  | v :: r, o, w, k, h => by rw [World.setCells, heap_setCells_other b r (o + 1) _ k h, Below.heap_setCell _ _ _ _ (by simpa using h)]
theorem size_setCells (b : Nat) : ∀ (vs : List Value) (o : Nat) (w : World), (w.setCells b o vs).heap.size = w.heap.size
  | [], _, _ => rfl
  | v :: r, o, w => by rw [World.setCells, size_setCells b r]; simp [World.setCell]
theorem os_setCells (b : Nat) : ∀ (vs : List Value) (o : Nat) (w : World), (w.setCells b o vs).os = w.os ∧ (w.setCells b o vs).tape = w.tape ∧ (w.setCells b o vs).output = w.output
  | [], _, _ => ⟨rfl, rfl, rfl⟩
  | v :: r, o, w => by rw [World.setCells]; exact os_setCells b r (o + 1) _

/-- WHICH BLOCKS MAY HAVE TURNED: of the blocks that were there only those in S. -/
structure Only (S : Nat → Prop) (w w' : World) : Prop where
  os : w'.os = w.os
  tape : w'.tape = w.tape
  output : w'.output = w.output
  size : w.heap.size ≤ w'.heap.size
  block : ∀ k, k < w.heap.size → ¬ S k → w'.heap[k]? = w.heap[k]?
theorem Only.refl (S : Nat → Prop) (w : World) : Only S w w := ⟨rfl, rfl, rfl, Nat.le_refl _, fun _ _ _ => rfl⟩
theorem Only.trans {S : Nat → Prop} {a b c : World} (h : Only S a b) (k : Only S b c) : Only S a c :=
  ⟨k.os.trans h.os, k.tape.trans h.tape, k.output.trans h.output, Nat.le_trans h.size k.size, fun i hi hs => (k.block i (Nat.lt_of_lt_of_le hi h.size) hs).trans (h.block i hi hs)⟩
theorem Only.mono {S T : Nat → Prop} {a b : World} (h : Only S a b) (hs : ∀ k, S k → T k) : Only T a b := ⟨h.os, h.tape, h.output, h.size, fun k hk hn => h.block k hk (fun x => hn (hs k x))⟩
theorem Only.ofBelow {S : Nat → Prop} {w w' : World} (h : Below w.heap.size w w') : Only S w w' := ⟨h.os, h.tape, h.output, h.size, fun k hk _ => h.block k hk⟩
theorem Only.below {S : Nat → Prop} {B : Nat} {w w' : World} (h : Only S w w') (hB : B ≤ w.heap.size) (hs : ∀ k, S k → B ≤ k) : Below B w w' :=
  ⟨h.os, h.tape, h.output, h.size, fun k hk => h.block k (by omega) (fun x => by have := hs k x; omega)⟩
theorem Only.alloc {S : Nat → Prop} {a w : World} (h : Only S a w) (o : Obj) : Only S a (w.alloc o) :=
  h.trans ⟨rfl, rfl, rfl, by simp, fun k hk _ => Below.heap_alloc _ _ _ hk⟩
theorem Only.drew {S : Nat → Prop} {a w : World} (h : Only S a w) : Only S a w.drew := ⟨h.os, h.tape, h.output, h.size, h.block⟩
theorem Only.drewN {S : Nat → Prop} {a w : World} (h : Only S a w) (n : Nat) : Only S a (w.drewN n) := ⟨h.os, h.tape, h.output, h.size, h.block⟩
theorem Only.setCell {S : Nat → Prop} {a w : World} (h : Only S a w) {p : Addr} (hp : S p.block) (u : Value) : Only S a (w.setCell p u) :=
  h.trans ⟨rfl, rfl, rfl, by simp [World.setCell], fun k _ hn => Below.heap_setCell _ _ _ _ (fun e => hn (e ▸ hp))⟩
theorem Only.setCells {S : Nat → Prop} {a w : World} (h : Only S a w) {b : Nat} (hp : S b) (o : Nat) (vs : List Value) : Only S a (w.setCells b o vs) :=
  h.trans ⟨(os_setCells b vs o w).1, (os_setCells b vs o w).2.1, (os_setCells b vs o w).2.2, by rw [size_setCells]; exact Nat.le_refl _, fun k _ hn => heap_setCells_other b vs o w k (fun e => hn (e ▸ hp))⟩
theorem Only.cell {S : Nat → Prop} {w w' : World} (h : Only S w w') {p : Addr} (hp : p.block < w.heap.size) (hn : ¬ S p.block) : w'.cell? p = w.cell? p := World.cell?_of_block (w := w) (h.block p.block hp hn)

theorem cell_whole {w : World} {b : Nat} {cur : List Value} {t : TypeId} {fr : Nat × Nat} (h : w.heap[b]? = some (.cells cur.toArray t fr)) (j : Nat) : w.cell? ⟨b, j, none⟩ = cur[j]? := by
  simp [World.cell?, h]
theorem free_whole {w : World} {b : Nat} {cur : Array Value} {t : TypeId} (h : w.heap[b]? = some (.cells cur t (0, 0))) (j : Nat) : w.frozen? ⟨b, j, none⟩ = false := by
  simp [World.frozen?, h]

section
variable {P : Program}
theorem bc_eq (l : List UInt8) : List.map (fun b => Value.int .u8 (b.toNat : Int)) l = bc l := rfl
theorem take_min (s : ByteArray) (n : Nat) : s.data.toList.take (min n s.size) = s.data.toList.take n := by
  have hl : s.data.toList.length = s.size := by rw [Array.length_toList]; rfl
  rw [← hl, ← List.take_take, List.take_length]
theorem take_size (s : ByteArray) (n : Nat) : (s.data.toList.take n).length = min n s.size := by
  have hl : s.data.toList.length = s.size := by rw [Array.length_toList]; rfl
  rw [List.length_take, hl]

/-- 'copy(dst, s)', s a string, dst's cells there and not frozen. -/
theorem run_copy_string (w : World) (dT sT ty elem : TypeId) (b o dLen dCap : Nat) (str : ByteArray)
    (hu : P.underlying dT = some (.slice elem)) (hs : (P.info? elem).map (·.size) = some 1)
    (hc : ∀ j, j < min dLen str.size → (w.cell? ⟨b, o + j, none⟩).isSome = true) (hf : ∀ j, j < min dLen str.size → w.frozen? ⟨b, o + j, none⟩ = false) :
    (Builtin.copy_ #[dT, sT] ty #[.slice (some ⟨b, o, none⟩) dLen dCap, .string str]).run P w = .ok (goInt (min dLen str.size : Nat)) (w.setCells b o (bc (str.data.toList.take dLen))) := by
  have hst := run_storeCells_cells (P := P) b o (bc (str.data.toList.take dLen)) 0 w (by simpa [bc_length] using hc) (by simpa [bc_length] using hf) (bc_one _)
  have e : List.take (min dLen str.size) (List.map (fun b => Value.int .u8 (b.toNat : Int)) str.data.toList) = bc (str.data.toList.take dLen) := by
    rw [← List.map_take, take_min]
    rfl
  cases hq : P.info? elem with
  | none => simp [hq] at hs
  | some i =>
    have hi : i.size = 1 := by simpa [hq] using hs
    simp only [Nat.add_zero] at hst
    have hm : str.size.min dLen = min dLen str.size := Nat.min_comm _ _
    simp [Builtin.copy_, run_underlying hu, Builtin.lenOf, Builtin.firstCells, sizeOf, typeInfo, hq, hm, e, hst]

theorem wpList_copy_string {w : World} {ops : Array Oper} {rest : List Oper} {o : Oper} {a : Act} {Q : Exit → Act → World → Prop} (hgd : o.guard = none) (d s : Operand) (dT sT : TypeId)
    (ho : o.op = .call { callee := .builtin .copy, args := #[d, s], argTypes := #[dT, sT] }) (elem : TypeId) (hu : P.underlying dT = some (.slice elem)) (hsz : (P.info? elem).map (·.size) = some 1)
    (g off dLen dCap : Nat) (str : ByteArray) (hd : a.eval d = .slice (some ⟨g, off, none⟩) dLen dCap) (hs : a.eval s = .string str)
    (hc : ∀ j, j < min dLen str.size → (w.cell? ⟨g, off + j, none⟩).isSome = true) (hf : ∀ j, j < min dLen str.size → w.frozen? ⟨g, off + j, none⟩ = false)
    (h : wpList P ops Q rest (a.put o.dst (goInt (min dLen str.size : Nat))) (w.setCells g off (bc (str.data.toList.take dLen)))) : wpList P ops Q (o :: rest) a w := by
  refine wpList_plain hgd fun K hK => ?_
  have hrun := run_copy_string (P := P) w dT sT o.type elem g off dLen dCap str hu hsz hc hf
  unfold Oper.wp
  simp [execOp, ho, resolve, invoke, builtin, hd, hs, hrun, Result.andThen]
  exact hK _ _ h

/-- 'copy(dst, src)', src a slice whose first cells are 'cs'. -/
theorem wpList_copy_cells {w : World} {ops : Array Oper} {rest : List Oper} {o : Oper} {a : Act} {Q : Exit → Act → World → Prop} (hgd : o.guard = none) (d s : Operand) (dT sT : TypeId)
    (ho : o.op = .call { callee := .builtin .copy, args := #[d, s], argTypes := #[dT, sT] }) (elem : TypeId) (hu : P.underlying dT = some (.slice elem)) (hsz : (P.info? elem).map (·.size) = some 1)
    (g off dLen dCap : Nat) (ad : Addr) (sLen sCap : Nat) (hd : a.eval d = .slice (some ⟨g, off, none⟩) dLen dCap) (hs : a.eval s = .slice (some ad) sLen sCap)
    (cs : List Value) (hn : cs.length = Nat.min sLen dLen) (hsrc : ∀ j v, cs[j]? = some v → w.cell? (ad.add j) = some v)
    (hc : ∀ j, j < cs.length → (w.cell? ⟨g, off + j, none⟩).isSome = true) (hf : ∀ j, j < cs.length → w.frozen? ⟨g, off + j, none⟩ = false) (h1 : ∀ v ∈ cs, v.oneCell' = true)
    (h : wpList P ops Q rest (a.put o.dst (goInt cs.length)) (w.setCells g off cs)) : wpList P ops Q (o :: rest) a w := by
  refine wpList_plain hgd fun K hK => ?_
  have hrun := run_copy_cells (P := P) w dT sT o.type elem g off dLen dCap ad sLen sCap cs hu hsz hn hsrc hc hf h1
  unfold Oper.wp
  simp [execOp, ho, resolve, invoke, builtin, hd, hs, hrun, Result.andThen]
  exact hK _ _ h

/-- 'append(b, s...)', s a string, where there is room. -/
theorem run_append_room_string (w : World) (t u ty e : TypeId) (i : TypeInfo) (ht : P.underlying t = some (.slice e)) (hut : P.underlying u = some .string) (hi : P.info? e = some i) (hsz : i.size = 1)
    (b off n cap : Nat) (s : ByteArray) (hroom : n + s.size ≤ cap)
    (hc : ∀ j, j < s.size → (w.cell? ⟨b, off + n + j, none⟩).isSome = true) (hf : ∀ j, j < s.size → w.frozen? ⟨b, off + n + j, none⟩ = false) :
    (Builtin.append_ #[t, u] ty #[.slice (some ⟨b, off, none⟩) n cap, .string s]).run P w = .ok (.slice (some ⟨b, off, none⟩) (n + s.size) cap) (w.setCells b (off + n) (bc s.data.toList)) := by
  have hl : s.data.toList.length = s.size := by rw [Array.length_toList]; rfl
  have hst := run_storeCells_cells (P := P) b (off + n) (bc s.data.toList) 0 w (by simpa [bc_length, hl] using hc) (by simpa [bc_length, hl] using hf) (bc_one _)
  have e : List.take s.size (List.map (fun b => Value.int .u8 (b.toNat : Int)) s.data.toList) = bc s.data.toList := by
    rw [← List.map_take, List.take_of_length_le (by omega)]
    rfl
  simp only [Nat.add_zero] at hst
  simp [Builtin.append_, run_underlying ht, run_underlying hut, sizeOf, typeInfo, hi, hsz, Builtin.lenOf, Builtin.firstCells, hroom, e, Addr.add_lit, hst]

theorem wpList_append_room_string {w : World} {ops : Array Oper} {rest : List Oper} {o : Oper} {a : Act} {Q : Exit → Act → World → Prop} (hgd : o.guard = none) (sl x : Operand) (t u : TypeId)
    (ho : o.op = .call { callee := .builtin .append, args := #[sl, x], argTypes := #[t, u] }) (e : TypeId) (i : TypeInfo) (ht : P.underlying t = some (.slice e)) (hut : P.underlying u = some .string) (hi : P.info? e = some i) (hsz : i.size = 1)
    (b off n cap : Nat) (s : ByteArray) (hd : a.eval sl = .slice (some ⟨b, off, none⟩) n cap) (hs : a.eval x = .string s) (hroom : n + s.size ≤ cap)
    (hc : ∀ j, j < s.size → (w.cell? ⟨b, off + n + j, none⟩).isSome = true) (hf : ∀ j, j < s.size → w.frozen? ⟨b, off + n + j, none⟩ = false)
    (h : wpList P ops Q rest (a.put o.dst (.slice (some ⟨b, off, none⟩) (n + s.size) cap)) (w.setCells b (off + n) (bc s.data.toList))) : wpList P ops Q (o :: rest) a w := by
  refine wpList_plain hgd fun K hK => ?_
  have hrun := run_append_room_string (P := P) w t u o.type e i ht hut hi hsz b off n cap s hroom hc hf
  unfold Oper.wp
  simp [execOp, ho, resolve, invoke, builtin, hd, hs, hrun, Result.andThen]
  exact hK _ _ h

/-- 'append(b, xs...)', xs a slice of one-cell elements, where there is room. -/
theorem wpList_append_room_cells {w : World} {ops : Array Oper} {rest : List Oper} {o : Oper} {a : Act} {Q : Exit → Act → World → Prop} (hgd : o.guard = none) (sl x : Operand) (t : TypeId)
    (ho : o.op = .call { callee := .builtin .append, args := #[sl, x], argTypes := #[t, t] }) (e : TypeId) (i : TypeInfo) (ht : P.underlying t = some (.slice e)) (hi : P.info? e = some i) (hsz : i.size = 1)
    (b off n cap : Nat) (ad : Addr) (m c : Nat) (news : List Value) (hd : a.eval sl = .slice (some ⟨b, off, none⟩) n cap) (hs : a.eval x = .slice (some ad) m c) (hl : news.length = m) (hnews : ∀ j u, news[j]? = some u → w.cell? (ad.add j) = some u) (h1 : ∀ u ∈ news, u.oneCell' = true) (hroom : n + m ≤ cap)
    (hc : ∀ j, j < news.length → (w.cell? ⟨b, off + n + j, none⟩).isSome = true) (hf : ∀ j, j < news.length → w.frozen? ⟨b, off + n + j, none⟩ = false)
    (h : wpList P ops Q rest (a.put o.dst (.slice (some ⟨b, off, none⟩) (n + m) cap)) (w.setCells b (off + n) news)) : wpList P ops Q (o :: rest) a w := by
  refine wpList_plain hgd fun K hK => ?_
  have hrun := run_append_room_cells (P := P) w t o.type e i ht hi b off n cap ad m c news (by rw [hl, hsz, Nat.mul_one]) hnews h1 hroom (by simpa [hsz] using hc) (by simpa [hsz] using hf)
  rw [hsz, Nat.mul_one] at hrun
  unfold Oper.wp
  simp [execOp, ho, resolve, invoke, builtin, hd, hs, hrun, Result.andThen]
  exact hK _ _ h
end
end Go.Proofs.YtdbbmknjldapbaaGreatDoor
