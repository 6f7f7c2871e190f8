/-
  (*encoder).encode of a string over the limited writer; jsonLimitedMarshal of a string.
-/
import Derived.Test.YtcajagjgbalakaaGreatFmtEncStr
import Derived.Test.YtcajagjgbalakaaGreatFmtMarshal
import Derived.Test.YtcajagjgbalakaaGreatFmtTabs
namespace Go.Proofs.YtcajagjgbalakaaGreatFmt
set_option linter.unusedVariables false
set_option linter.unusedSimpArgs false
open Go.RowKit Go.Lib Go.Sort

set_option maxRecDepth 100000 in
set_option maxHeartbeats 1600000 in
theorem encode_str (s : ByteArray) (hs : s.size ≤ 2097152) (w : World) (be bw bb n : Nat) (T : List UInt8) (hn : n ≤ 65536) (h : LW w bw bb n T) (hlt : T.length < n) (he : Enc w be bw) (hne : bw ≠ be ∧ bb ≠ be)
    (B : Nat) (hB : B ≤ bw ∧ B ≤ bb) (hBw : B ≤ w.heap.size) (hU : ∀ w', Below B w w' → Utf8Tabs 0 1 w') :
    Calls Tryz.prog 21 #[.pointer (some ⟨be, 0, none⟩), .iface 9 (.string s)] w (Wrote (SE bw bb be) w bw bb n (T ++ quoted s.data.toList) (.tuple #[])) := by
  have as1 := asStrBool
  have as2 := asStrInt
  have as3 := asStrFloat
  have as4 := asStrBig
  have as5 := asStrNum
  have as6 := asStrStr
  have c0 := he.cell0
  have HW := Lib.hid (encodeString_any s hs w be bw bb n T hn h hlt he hne B hB hBw hU)
  clear h hU
  go_enter Tryz.func21, Tryz.ntmps21
  go_wp2_with fail
  refine HW.out.mono ?_
  rintro e w' ⟨hO, ⟨h1, rfl, h3⟩ | ⟨h1, ⟨u, pv, rfl⟩, h3⟩⟩
  · go_wp2
    go_end0
    exact ⟨only_SE be hO, Or.inl ⟨h1, rfl, h3⟩⟩
  · exact ⟨rfl, only_SE be hO, Or.inr ⟨h1, ⟨u, pv, rfl⟩, h3⟩⟩

theorem marshal_str (s : ByteArray) (hs : s.size ≤ 2097152) (n : Nat) (hn0 : 0 < n) (hn : n ≤ 65536) (w : World) (hT : Tabs w) :
    Calls Tryz.prog 17 #[.iface 9 (.string s), .int .i64 n] w (Marshalled w n (quoted s.data.toList)) :=
  marshal_of _ n hn0 hn (quoted s.data.toList) w fun w1 be bw bb hB hbe hbw hbb hne hL hE =>
    encode_str s hs w1 be bw bb n [] hn hL hn0 hE hne w.heap.size ⟨hbw, hbb⟩ hB.size (fun w' h => (hT.on (hB.trans h)).utf)
end Go.Proofs.YtcajagjgbalakaaGreatFmt
