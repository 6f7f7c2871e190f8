/-
  (*encoder).encodeArray over an array of ints; jsonMarshal of it.
-/
import Derived.Test.YtmbegjbhmeihiaaGreatFmtEncA
import Derived.Test.YtmbegjbhmeihiaaGreatFmtMk
namespace Go.Proofs.YtmbegjbhmeihiaaGreatFmt
set_option linter.unusedVariables false
set_option linter.unusedSimpArgs false
open Go.RowKit Go.Lib Go.Sort

def anyInts (l : List Int) : List Value := l.map fun z => .iface 3 (.int .i64 z)
theorem anyInts_len (l : List Int) : (anyInts l).length = l.length := by simp [anyInts]
theorem anyInts_get (l : List Int) (j : Nat) (h : j < l.length) : (anyInts l)[j]? = some (.iface 3 (.int .i64 l[j])) := by simp [anyInts, h]
/-- The first k numerals, joined by commas. -/
def joinTo (zs : List Int) : Nat → List UInt8
  | 0 => []
  | k + 1 => joinTo zs k ++ (if k = 0 then [] else [44]) ++ itoa (zs.getD k 0)
theorem joinTo_len (zs : List Int) (hz : ∀ z ∈ zs, -9223372036854775808 ≤ z ∧ z ≤ 9223372036854775807) : ∀ k, k ≤ zs.length → (joinTo zs k).length ≤ 22 * k
  | 0, _ => by simp [joinTo]
  | k + 1, hk => by
    have h1 := joinTo_len zs hz k (by omega)
    have e : zs.getD k 0 = zs[k]'(by omega) := by simp [List.getD, List.getElem?_eq_getElem (show k < zs.length by omega)]
    have h2 := hz (zs[k]'(by omega)) (List.getElem_mem _)
    have h3 := itoa_length_le _ h2.1 h2.2
    unfold joinTo
    rw [e, List.length_append, List.length_append]
    split <;> simp <;> omega

theorem ser_ge {R b be B q : Nat} (hb : B ≤ b) (hbe : B ≤ be) (hbR : b < R) (h : SER R b be q) : B ≤ q := by
  rcases h with h | h | h <;> omega
set_option maxRecDepth 100000 in
set_option maxHeartbeats 3200000 in
theorem encodeArr (B R : Nat) (zs : List Int) (n c : Nat) (a : Option Addr) (hl : zs.length = n) (hn : n ≤ 32768) (hz : ∀ z ∈ zs, -9223372036854775808 ≤ z ∧ z ≤ 9223372036854775807) (w : World) (b be : Nat)
    (h : BldR R b [] w) (hb : B ≤ b) (hbe : B ≤ be) (hbR : b < R) (hbeR : be < R) (he : EncB w be b) (hne : b ≠ be) (hA : 0 < n → ∃ b0 o, a = some ⟨b0, o, none⟩ ∧ b0 < B ∧ ∀ j u, (anyInts zs)[j]? = some u → w.cell? ⟨b0, o + j, none⟩ = some u)
    (htab : TabBelow Tryz.prog B w "internal/strconv.uint64pow10" .u64 pow10Tab) :
    Calls Tryz.prog 17 #[.pointer (some ⟨be, 0, none⟩), .slice a n c] w (PutR R b be ([91] ++ joinTo zs n ++ [93]) w) := by
  have c0 := he.cell0
  have hBw : B ≤ w.heap.size := by have := he.lt; omega
  have HW := Lib.hid (bldR_byte R b [] 91 (by simp) w h)
  have HA := Lib.hid hA
  have HN := Lib.hid hl
  have HZ := Lib.hid hz
  have HE := Lib.hid he
  have HT := Lib.hid htab
  clear hA hl hz he htab h
  go_enter Tryz.func17, Tryz.ntmps17
  go_wp2_with fail
  refine HW.out.mono ?_
  rintro e w1 ⟨rfl, h1, hO1⟩
  have HB1 := Lib.hid h1
  have HO1 : Hid (Only (SER R b be) w w1) := Lib.hid (hO1.mono (fun k hk => hk.elim Or.inl (fun h => Or.inr (Or.inr h))))
  have HE1 := Lib.hid (HE.out.only hO1 (fun hk => by rcases hk with hk | hk <;> omega))
  clear h1 hO1 HW
  go_wp2_with fail
  go_loopw [13] (fun vi wr => ∃ k : Nat, vi = .int .i64 (k : Int) ∧ k ≤ n ∧ Hid (BldR R b ([91] ++ joinTo zs k) wr) ∧ Hid (EncB wr be b) ∧ Hid (Only (SER R b be) w wr)) (fun vi _ => n - (RowKit.intOf vi).toNat)
  case atStart => exact ⟨0, rfl, Nat.zero_le _, HB1, HE1, HO1⟩
  case round =>
    obtain ⟨k, rfl, hk, HBk, HEk, HOk⟩ := hrel
    have c1 := HEk.out.cell0
    have hlen : ([91] ++ joinTo zs k).length ≤ 1048570 := by
      have := joinTo_len zs HZ.out k (by rw [HN.out]; exact hk)
      simp
      omega
    by_cases hkn : k < n
    · obtain ⟨b0, o, rfl, hb0, hc⟩ := HA.out (by omega)
      have hkz : k < zs.length := by rw [HN.out]; exact hkn
      have c2 : wr.cell? ⟨b0, o + k, none⟩ = some (.iface 3 (.int .i64 zs[k])) := (HOk.out.cell (p := ⟨b0, o + k, none⟩) (by show b0 < _; omega) (fun hs => absurd (ser_ge hb hbe hbR hs) (Nat.not_le_of_lt hb0))).trans (hc k _ (anyInts_get zs k hkz))
      have hzk := HZ.out zs[k] (List.getElem_mem hkz)
      have hj : joinTo zs (k + 1) = joinTo zs k ++ (if k = 0 then [] else [44]) ++ itoa zs[k] := by
        show _ ++ _ ++ itoa (zs.getD k 0) = _
        simp [List.getD, List.getElem?_eq_getElem hkz]
      generalize zs[k] = z at c2 hzk hj
      have HJ := Lib.hid hj
      have htb : ∀ wx, Only (SER R b be) w wx → TabBelow Tryz.prog B wx "internal/strconv.uint64pow10" .u64 pow10Tab := fun wx hx => HT.out.on (hx.below hBw (fun q hq => ser_ge hb hbe hbR hq))
      have HTB := Lib.hid htb
      have HIN := Lib.hid (fun (T : List UInt8) (hT : T.length ≤ 1048576) (wx : World) (hb : BldR R b T wx) (he : EncB wx be b) (ho : Only (SER R b be) w wx) => encodeR_int B R z wx b be T hT hzk.1 hzk.2 hb hbe hbeR he hne (htb wx ho))
      clear hc hj htb
      by_cases hk0 : k = 0
      · subst hk0
        rw [Nat.add_zero] at c2
        have HC := Lib.hid (HIN.out _ (by omega) wr HBk.out HEk.out HOk.out)
        clear HIN
        go_wp2_with fail
        refine HC.out.mono ?_
        rintro e w2 ⟨rfl, h1, h2, h3⟩
        have HB2 : Hid (BldR R b ([91] ++ joinTo zs 1) w2) := Lib.hid (by
          have := HJ.out
          rw [this]
          simpa [joinTo] using h1)
        have HE2 := Lib.hid h2
        have HO2 := Lib.hid (HOk.out.trans h3)
        clear h1 h2 h3 HC
        go_wp2_with fail
        go_roundw
        case rel => exact ⟨1, by go_num, by omega, HB2, HE2, HO2⟩
        case measure => simp [RowKit.intOf]; omega
      · have q1 : (0 : Int) < (k : Int) := by omega
        have HY := Lib.hid (bldR_byte R b _ 44 (by omega) wr HBk.out)
        go_wp2_with fail
        refine HY.out.mono ?_
        rintro e w2 ⟨rfl, h1, h3⟩
        have he2 := HEk.out.only h3 (fun hk => by rcases hk with hk | hk <;> omega)
        have ho2 : Only (SER R b be) w w2 := HOk.out.trans (h3.mono (fun k hk => hk.elim Or.inl (fun h => Or.inr (Or.inr h))))
        have HC := Lib.hid (HIN.out _ (by simp at hlen ⊢; omega) w2 h1 he2 ho2)
        have HO2 := Lib.hid ho2
        clear h1 h3 he2 ho2 HIN HY
        go_wp2_with fail
        refine HC.out.mono ?_
        rintro e w3 ⟨rfl, h1, h2, h3⟩
        have HB2 : Hid (BldR R b ([91] ++ joinTo zs (k + 1)) w3) := Lib.hid (by
          have := HJ.out
          rw [this, if_neg hk0]
          simpa using h1)
        have HE2 := Lib.hid h2
        have HO3 := Lib.hid (HO2.out.trans h3)
        clear h1 h2 h3 HC
        go_wp2_with fail
        go_roundw
        case rel => exact ⟨k + 1, by go_num, by omega, HB2, HE2, HO3⟩
        case measure => simp [RowKit.intOf]; omega
    · obtain rfl : k = n := by omega
      have HY := Lib.hid (bldR_byte R b _ 93 (by omega) wr HBk.out)
      go_wp2_with fail
      refine HY.out.mono ?_
      rintro e w2 ⟨rfl, h1, h3⟩
      have HB2 := Lib.hid h1
      have HE2 := Lib.hid (HEk.out.only h3 (fun hk => by rcases hk with hk | hk <;> omega))
      have HO2 : Hid (Only (SER R b be) w w2) := Lib.hid (HOk.out.trans (h3.mono (fun k hk => hk.elim Or.inl (fun h => Or.inr (Or.inr h)))))
      clear h1 h3 HY
      go_wp2_with fail
      go_end0
      exact ⟨rfl, HB2.out, HE2.out, HO2.out⟩
end Go.Proofs.YtmbegjbhmeihiaaGreatFmt
