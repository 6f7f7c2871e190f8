/-
  Preview of a value whose JSON text has at most 30 bytes.
-/
import Derived.Test.YtcajagjgbalakaaGreatFmtMarshal
import Derived.Test.YtcajagjgbalakaaGreatFmtSays
import Derived.Laws.IdiomStrings
namespace Go.Proofs.YtcajagjgbalakaaGreatFmt
set_option linter.unusedVariables false
set_option linter.unusedSimpArgs false
open Go.RowKit Go.Lib Go.Sort

/-- What jsonLimitedMarshal leaves: a slice of a new block that holds the text's beginning. -/
theorem Marshalled.cells {w' : World} {bb : Nat} {cur : List Value} {T : List UInt8} (h : w'.heap[bb]? = some (.cells cur.toArray 5 (0, 0))) (hT : cur.take T.length = bc T) (j : Nat) (hj : j < T.length) :
    w'.cell? ((⟨bb, 0, none⟩ : Addr).add j) = some (.int .u8 (T[j].toNat : Int)) := by
  rw [Go.WideShapes.add_plain, Nat.zero_add, cell_whole h]
  have e := bc_get T j hj
  rw [← hT, List.getElem?_take] at e
  simpa [hj] using e
theorem to_string {w' : World} {bb c : Nat} {cur : List Value} {T : List UInt8} (h : w'.heap[bb]? = some (.cells cur.toArray 5 (0, 0))) (hT : cur.take T.length = bc T) :
    (convert 26 9 (.slice (some ⟨bb, 0, none⟩) T.length c)).run Tryz.prog w' = .ok (.string ⟨T.toArray⟩) w' :=
  run_convert_bytes_back w' 26 9 5 ⟨bb, 0, none⟩ c T Tryz.underlying26 Tryz.underlying5 Tryz.underlying9 (fun j hj => Marshalled.cells h hT j hj)




set_option maxRecDepth 100000 in
set_option maxHeartbeats 800000 in
theorem preview_short (v : Value) (full : List UInt8) (w : World) (hl : full.length ≤ 30) (hm : Calls Tryz.prog 17 #[v, .int .i64 32] w (Marshalled w 32 full)) :
    Calls Tryz.prog 10 #[v] w (Says w full) := by
  have hle : ¬ (30 : Int) < (full.length : Int) := by omega
  have HM := Lib.hid hm
  clear hm
  go_enter Tryz.func10, Tryz.ntmps10
  go_wp2_with fail
  refine HM.out.mono ?_
  rintro e w1 ⟨hB, bb, hbb, rfl, cur, c1, c2, c3⟩
  have et : full.take 32 = full := List.take_of_length_le (by omega)
  rw [et] at c3 ⊢
  have hc := to_string (c := 32) c1 c3
  have HB := Lib.hid hB
  clear c1 c2 c3 hB HM
  go_wp2

  go_ret
  exact ⟨rfl, HB.out⟩

theorem marshal_int (i : Int) (h0 : -9223372036854775808 ≤ i) (h1 : i ≤ 9223372036854775807) (n : Nat) (hn0 : 0 < n) (hn : n ≤ 65536) (w : World) (hT : Tabs w) :
    Calls Tryz.prog 17 #[.iface 3 (.int .i64 i), .int .i64 n] w (Marshalled w n (itoa i)) :=
  marshal_of _ n hn0 hn (itoa i) w fun w1 be bw bb hB hbe hbw hbb hne hL hE =>
    encode_int w.heap.size i w1 be bw bb n [] h0 h1 hn hL hn0 hE hbe hne ((tabBelow_of_tabIs hT.pow).on hB)
theorem marshal_bool (b : Bool) (n : Nat) (hn0 : 0 < n) (hn : n ≤ 65536) (w : World) :
    Calls Tryz.prog 17 #[.iface 4 (.bool b), .int .i64 n] w (Marshalled w n (if b then sTrue.data.toList else sFalse.data.toList)) :=
  marshal_of _ n hn0 hn _ w fun w1 be bw bb hB hbe hbw hbb hne hL hE => by
    cases b
    · exact encode_false w1 be bw bb n [] hn hL hn0 hE
    · exact encode_true w1 be bw bb n [] hn hL hn0 hE
theorem preview_int (i : Int) (h0 : -9223372036854775808 ≤ i) (h1 : i ≤ 9223372036854775807) (w : World) (hT : Tabs w) :
    Calls Tryz.prog 10 #[.iface 3 (.int .i64 i)] w (Says w (itoa i)) :=
  preview_short _ (itoa i) w (by have := itoa_length_le i h0 h1; omega) (marshal_int i h0 h1 32 (by omega) (by omega) w hT)
theorem preview_bool (b : Bool) (w : World) :
    Calls Tryz.prog 10 #[.iface 4 (.bool b)] w (Says w (if b then sTrue.data.toList else sFalse.data.toList)) :=
  preview_short _ _ w (by cases b <;> decide) (marshal_bool b 32 (by omega) (by omega) w)
end Go.Proofs.YtcajagjgbalakaaGreatFmt
