/- Proved: jsonparser's stringEndConfig finds where a string ends. -/
import Derived.Test.YtlpcjgjphkdnbaaDoorXFnJpConfigQuotex1
import Derived.Test.YtlpcjgjphkdnbaaDoorStrEnd
import Derived.Test.YtlpcjgjphkdnbaaDoorLEUint
import Derived.Deep.RegionWith
import Derived.Laws.Bits64b
import Derived.Deep.LoopGhost
import Derived.Deep.Cut
import Derived.Outline
namespace Go.Proofs.YtlpcjgjphkdnbaaDoor.XFnJpConfigQuote
open Go.RowKit Go.Proofs.YtlpcjgjphkdnbaaDoorW.PrintWords Go.Proofs.YtlpcjgjphkdnbaaDoorW.PrintLast Go.Proofs.YtlpcjgjphkdnbaaDoorW.PrintMore
attribute [local go_sem] max2_int min2_int max_two min_two max_three min_three max_four min_four
set_option linter.unusedVariables false
set_option linter.unusedSimpArgs false

/-- The cells from o on in block g hold the bytes of l. -/
def Row (w : World) (g o : Nat) (l : List Int) : Prop := ∀ j, j < l.length → w.cell? ⟨g, o + j, none⟩ = some (.int .u8 (rd l (j : Int)))
theorem Row.below {w w' : World} {g o : Nat} {l : List Int} (h : Row w g o l) (hb : Below w.heap.size w w') : Row w' g o l := fun j hj => pw_cell_below hb (h j hj)
def byteOf (x : Int) : UInt8 := UInt8.ofNat x.toNat
theorem byteOf_back {x : Int} (h : 0 ≤ x ∧ x ≤ 255) : (((byteOf x).toNat : Nat) : Int) = x := by
  unfold byteOf
  rw [UInt8.toNat_ofNat']
  omega
theorem le8_sum (b0 b1 b2 b3 b4 b5 b6 b7 : UInt8) (a0 a1 a2 a3 a4 a5 a6 a7 : Int) (e0 : ((b0.toNat : Nat) : Int) = a0) (e1 : ((b1.toNat : Nat) : Int) = a1) (e2 : ((b2.toNat : Nat) : Int) = a2) (e3 : ((b3.toNat : Nat) : Int) = a3)
    (e4 : ((b4.toNat : Nat) : Int) = a4) (e5 : ((b5.toNat : Nat) : Int) = a5) (e6 : ((b6.toNat : Nat) : Int) = a6) (e7 : ((b7.toNat : Nat) : Int) = a7) :
    ((Lib.leNat [b0, b1, b2, b3, b4, b5, b6, b7] : Nat) : Int) = a0 + a1 * 256 + a2 * 65536 + a3 * 16777216 + a4 * 4294967296 + a5 * 1099511627776 + a6 * 281474976710656 + a7 * 72057594037927936 := by
  subst e0 e1 e2 e3 e4 e5 e6 e7
  simp only [Lib.leNat]
  omega
theorem le8_calls (g o c : Nat) (l : List Int) (i : Nat) (w : World) (hrow : Row w g o l) (hby : ∀ x ∈ l, 0 ≤ x ∧ x ≤ 255) (hi : i + 8 ≤ l.length) :
    Calls Tryd.prog 31 #[.agg #[], .slice (some ⟨g, o + i, none⟩) (l.length - i) c] w fun e w' => e = .returned (.int .u64 (StrEnd.w8 l i)) ∧ Below w.heap.size w w' := by
  have hx : ∀ k, k < 8 → w.cell? ⟨g, o + i + k, none⟩ = some (.int .u8 ((byteOf (rd l ((i + k : Nat) : Int))).toNat : Nat)) := by
    intro k hk
    rw [byteOf_back (StrEnd.rd_range hby _), Nat.add_assoc]
    exact hrow (i + k) (by omega)
  have h0 : w.cell? ⟨g, o + i, none⟩ = some (.int .u8 ((byteOf (rd l ((i + 0 : Nat) : Int))).toNat : Nat)) := hx 0 (by omega)
  have h1 : w.cell? ⟨g, o + i + 1, none⟩ = some (.int .u8 ((byteOf (rd l ((i + 1 : Nat) : Int))).toNat : Nat)) := hx 1 (by omega)
  have h2 : w.cell? ⟨g, o + i + 2, none⟩ = some (.int .u8 ((byteOf (rd l ((i + 2 : Nat) : Int))).toNat : Nat)) := hx 2 (by omega)
  have h3 : w.cell? ⟨g, o + i + 3, none⟩ = some (.int .u8 ((byteOf (rd l ((i + 3 : Nat) : Int))).toNat : Nat)) := hx 3 (by omega)
  have h4 : w.cell? ⟨g, o + i + 4, none⟩ = some (.int .u8 ((byteOf (rd l ((i + 4 : Nat) : Int))).toNat : Nat)) := hx 4 (by omega)
  have h5 : w.cell? ⟨g, o + i + 5, none⟩ = some (.int .u8 ((byteOf (rd l ((i + 5 : Nat) : Int))).toNat : Nat)) := hx 5 (by omega)
  have h6 : w.cell? ⟨g, o + i + 6, none⟩ = some (.int .u8 ((byteOf (rd l ((i + 6 : Nat) : Int))).toNat : Nat)) := hx 6 (by omega)
  have h7 : w.cell? ⟨g, o + i + 7, none⟩ = some (.int .u8 ((byteOf (rd l ((i + 7 : Nat) : Int))).toNat : Nat)) := hx 7 (by omega)
  have h := Tryd.binary_LE_Uint64 g (o + i) (l.length - i) c (byteOf (rd l ((i + 0 : Nat) : Int))) (byteOf (rd l ((i + 1 : Nat) : Int))) (byteOf (rd l ((i + 2 : Nat) : Int))) (byteOf (rd l ((i + 3 : Nat) : Int))) (byteOf (rd l ((i + 4 : Nat) : Int))) (byteOf (rd l ((i + 5 : Nat) : Int))) (byteOf (rd l ((i + 6 : Nat) : Int))) (byteOf (rd l ((i + 7 : Nat) : Int))) w (by omega) h0 h1 h2 h3 h4 h5 h6 h7
  have hs := le8_sum _ _ _ _ _ _ _ _ _ _ _ _ _ _ _ _ (byteOf_back (StrEnd.rd_range hby ((i + 0 : Nat) : Int))) (byteOf_back (StrEnd.rd_range hby ((i + 1 : Nat) : Int))) (byteOf_back (StrEnd.rd_range hby ((i + 2 : Nat) : Int))) (byteOf_back (StrEnd.rd_range hby ((i + 3 : Nat) : Int))) (byteOf_back (StrEnd.rd_range hby ((i + 4 : Nat) : Int))) (byteOf_back (StrEnd.rd_range hby ((i + 5 : Nat) : Int))) (byteOf_back (StrEnd.rd_range hby ((i + 6 : Nat) : Int))) (byteOf_back (StrEnd.rd_range hby ((i + 7 : Nat) : Int)))
  have hs' : ((Lib.leNat [byteOf (rd l ((i + 0 : Nat) : Int)), byteOf (rd l ((i + 1 : Nat) : Int)), byteOf (rd l ((i + 2 : Nat) : Int)), byteOf (rd l ((i + 3 : Nat) : Int)), byteOf (rd l ((i + 4 : Nat) : Int)), byteOf (rd l ((i + 5 : Nat) : Int)), byteOf (rd l ((i + 6 : Nat) : Int)), byteOf (rd l ((i + 7 : Nat) : Int))] : Nat) : Int) = StrEnd.w8 l i := hs
  refine h.mono ?_
  rintro e w' ⟨he, hb⟩
  refine ⟨?_, hb⟩
  rw [he, hs']

/-- What the program reckons of eight bytes, as it stands in the walk. -/
def hitI (W B : Int) : Int := bits .and .u64 (bits .and .u64 (IntKind.u64.wrap (bits .xor .u64 W B - 72340172838076673)) (bits .xor .u64 (if IntKind.u64.signed = true then -1 else IntKind.u64.max) (bits .xor .u64 W B))) 9259542123273814144
theorem ones_xor (b : Nat) (hb : b < 2 ^ 64) : (18446744073709551615 : Nat) ^^^ b = 18446744073709551615 - b := by
  show 2 ^ 64 - 1 ^^^ b = 2 ^ 64 - 1 - b
  apply Nat.eq_of_testBit_eq
  intro i
  rw [Nat.testBit_xor, Nat.testBit_two_pow_sub_one, show 2 ^ 64 - 1 - b = 2 ^ 64 - (b + 1) by omega, Nat.testBit_two_pow_sub_succ hb]
  by_cases hi : i < 64
  · simp [hi]
  · have : b.testBit i = false := Nat.testBit_lt_two_pow (Nat.lt_of_lt_of_le hb (Nat.pow_le_pow_right (by decide) (by omega)))
    simp [hi, this]
theorem hitI_eq (W q : Nat) (hW : W < 18446744073709551616) (hq : q < 256) : hitI (W : Int) ((q * 72340172838076673 : Nat) : Int) = ((Swar.hit W q : Nat) : Int) ∧ Swar.hit W q < 18446744073709551616 := by
  have hB : q * 72340172838076673 < 18446744073709551616 := by omega
  have hx : W ^^^ (q * 72340172838076673) < 18446744073709551616 := Nat.xor_lt_two_pow (n := 64) hW hB
  have hm : (if IntKind.u64.signed = true then (-1 : Int) else IntKind.u64.max) = ((18446744073709551615 : Nat) : Int) := by decide
  unfold hitI Swar.hit Swar.lsb Swar.msb
  rw [bits_xor_u64_nat _ _ hW hB, hm]
  generalize W ^^^ (q * 72340172838076673) = x at *
  have hs : IntKind.u64.wrap ((x : Int) - 72340172838076673) = (((x + 18446744073709551616 - 72340172838076673) % 18446744073709551616 : Nat) : Int) := by rw [IntKind.wrap_u64]; omega
  have hs2 : (x + 18446744073709551616 - 72340172838076673) % 18446744073709551616 < 18446744073709551616 := Nat.mod_lt _ (by decide)
  rw [hs, bits_xor_u64_nat _ _ (by decide) hx, ones_xor x hx, bits_and_u64_nat _ _ hs2 (by omega)]
  have ha : (x + 18446744073709551616 - 72340172838076673) % 18446744073709551616 &&& (18446744073709551615 - x) < 2 ^ 64 := Nat.and_lt_two_pow _ (by omega)
  have h2 := bits_and_u64_nat ((x + 18446744073709551616 - 72340172838076673) % 18446744073709551616 &&& (18446744073709551615 - x)) 9259542123273814144 ha (by decide)
  refine ⟨h2, ?_⟩
  exact Nat.and_lt_two_pow (n := 64) _ (by decide)
/-- Where the test of the eight bytes does not strike, neither the quote nor a backslash is among them. -/
theorem no_hit {l : List Int} (hby : ∀ x ∈ l, 0 ≤ x ∧ x ≤ 255) (i q : Nat) (hq : q < 256) (h : (bits .or .u64 (hitI (StrEnd.w8 l i) ((q * 72340172838076673 : Nat) : Int)) (hitI (StrEnd.w8 l i) 6655295901103053916) == 0) = true) :
    ∀ k, k < 8 → rd l ((i + k : Nat) : Int) ≠ q ∧ rd l ((i + k : Nat) : Int) ≠ 92 := by
  have hW : 0 ≤ StrEnd.w8 l i ∧ StrEnd.w8 l i < 18446744073709551616 := by
    have r0 := StrEnd.rd_range hby (i : Int)
    have r1 := StrEnd.rd_range hby ((i + 1 : Nat) : Int)
    have r2 := StrEnd.rd_range hby ((i + 2 : Nat) : Int)
    have r3 := StrEnd.rd_range hby ((i + 3 : Nat) : Int)
    have r4 := StrEnd.rd_range hby ((i + 4 : Nat) : Int)
    have r5 := StrEnd.rd_range hby ((i + 5 : Nat) : Int)
    have r6 := StrEnd.rd_range hby ((i + 6 : Nat) : Int)
    have r7 := StrEnd.rd_range hby ((i + 7 : Nat) : Int)
    unfold StrEnd.w8
    omega
  obtain ⟨W, hWe⟩ : ∃ W : Nat, StrEnd.w8 l i = (W : Int) := ⟨(StrEnd.w8 l i).toNat, by omega⟩
  have hWn : (StrEnd.w8 l i).toNat = W := by omega
  rw [hWe] at h hW
  obtain ⟨e1, b1⟩ := hitI_eq W q (by omega) hq
  obtain ⟨e2, b2⟩ := hitI_eq W 92 (by omega) (by decide)
  have e2' : hitI (W : Int) 6655295901103053916 = ((Swar.hit W 92 : Nat) : Int) := e2
  rw [e1, e2', bits_or_u64_nat _ _ b1 b2, beq_iff_eq] at h
  have h0 : Swar.hit W q ||| Swar.hit W 92 = 0 := by omega
  obtain ⟨z1, z2⟩ := Nat.or_eq_zero_iff.mp h0
  intro k hk
  have f1 := StrEnd.free8 hby i (q : Int) ⟨by omega, by omega⟩ (by rw [hWn, Int.toNat_natCast]; exact z1) k hk
  have f2 := StrEnd.free8 hby i 92 ⟨by omega, by omega⟩ (by rw [hWn]; exact z2) k hk
  exact ⟨f1, f2⟩
end Go.Proofs.YtlpcjgjphkdnbaaDoor.XFnJpConfigQuote
