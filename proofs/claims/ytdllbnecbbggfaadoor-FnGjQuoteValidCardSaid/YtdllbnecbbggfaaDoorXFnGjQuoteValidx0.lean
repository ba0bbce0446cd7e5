-- Written by xprint.py of this session (a program that runs the kit's print and adds to it); Lean checks it.
import Derived.Test.YtdllbnecbbggfaaDoorProg
import Derived.Below
import Derived.Deep.Draws
import Derived.Deep.AppendLies
import Derived.Maps.AppendAt
import Derived.OwnWalk
import Derived.Laws.BytesArg
import Derived.Laws.MakeOwn
import Derived.Laws.OwnMore
import Derived.Deep.OwnRows
import Derived.Tactics
import Derived.Lib.ConvBytes
import Derived.Laws.Slices
import Derived.WalkKit
import Derived.KernelRfl
import Derived.RowKit3
import Derived.Deep.LoopGhost
import Derived.Deep.QuietTactic
import Derived.BigQuiet
import Derived.WideLaws
import Derived.Deep.DeepCutAuto
import Derived.Deep.CutBlock
import Derived.Deep.RegionHeld3
import Derived.Laws.Rows
import Derived.Lib.AppendStr
import Derived.ArgAppend
import Derived.Laws.IdiomCopy
import Derived.OrdersHeld
import Derived.Laws.BitsLemmas
import Derived.RowKit
import Derived.Test.YtdllbnecbbggfaaDoorWWords
import Derived.Test.YtdllbnecbbggfaaDoorWLast
import Derived.Test.YtdllbnecbbggfaaDoorWTab
import Derived.Test.YtdllbnecbbggfaaDoorWFour
import Derived.Test.YtdllbnecbbggfaaDoorWQPut
import Derived.Test.YtdllbnecbbggfaaDoorWApart
import Derived.Test.YtdllbnecbbggfaaDoorWArr
import Derived.Test.YtdllbnecbbggfaaDoorWZeros
import Derived.Test.YtdllbnecbbggfaaDoorWFoot
import Derived.Test.YtdllbnecbbggfaaDoorWKept
import Derived.Test.YtdllbnecbbggfaaDoorWShare
import Derived.Test.YtdllbnecbbggfaaDoorWN
import Derived.Test.YtdllbnecbbggfaaDoorWFootNe
import Derived.Test.YtdllbnecbbggfaaDoorWAt
import Derived.Test.YtdllbnecbbggfaaDoorWEqStruct
import Derived.Test.YtdllbnecbbggfaaDoorWRepsOne
import Derived.Test.YtdllbnecbbggfaaDoorWInv
import Derived.Test.YtdllbnecbbggfaaDoorWInvWords
import Derived.Test.YtdllbnecbbggfaaDoorWGuard
import Derived.Test.YtdllbnecbbggfaaDoorWNEv
import Derived.Test.YtdllbnecbbggfaaDoorWMore
import Derived.Test.YtdllbnecbbggfaaDoorXWords
import Derived.Test.YtdllbnecbbggfaaDoorOwnRow
import Derived.Test.YtdllbnecbbggfaaDoorGlobQv
namespace Go.Proofs.YtdllbnecbbggfaaDoor.XFnGjQuoteValid
open Go.RowKit Go.Proofs.YtdllbnecbbggfaaDoorW.PrintWords Go.Proofs.YtdllbnecbbggfaaDoorW.PrintLast Go.Proofs.YtdllbnecbbggfaaDoorW.PrintMore
attribute [local go_sem] max2_int min2_int max_two min_two max_three min_three max_four min_four   -- for this text's walks alone
set_option linter.unusedVariables false
set_option linter.unusedSimpArgs false



def errW : Option Int → Value
  | none => .nilIface
  | some c => .iface 0 (.int .i64 c)
theorem errW_none : errW none = .nilIface := rfl
theorem errW_some (c : Int) : errW (some c) = .iface 0 (.int .i64 c) := rfl

theorem info5 : (Tryd.prog.info? 5).map (fun i => (i.zero, i.size, i.bytes)) = some (some (.int .u8 0), 1, 1) := by kernel_rfl
theorem info9 : (Tryd.prog.info? 9).map (fun i => (i.zero, i.size, i.bytes)) = some (some (.string ⟨#[]⟩), 1, 16) := by kernel_rfl
theorem info36 : (Tryd.prog.info? 36).map (fun i => (i.zero, i.size, i.bytes)) = some (some (.agg #[(.int .i64 0), (.string ⟨#[]⟩), (.slice none 0 0), (.slice none 0 0)]), 4, 72) := by kernel_rfl
-- the values' own types
/-! #### struct type 87 -/
structure S87 where
  f0 : Int
  f1 : Int
def z87 : S87 := ⟨(0 : Int), (0 : Int)⟩
def k87 : Kd S87 := Kd.iso (Kd.pair (Kd.int .i64) (Kd.int .i64)) (fun x : S87 => (x.f0, x.f1))
theorem k87_open {w : World} {x : S87} {cs : List Value} (h : k87.K w x cs) : cs = [.int .i64 x.f0, .int .i64 x.f1] := by
  obtain ⟨_, _, rfl, rfl, rfl⟩ := h
  exact rfl
theorem k87_openM {w : World} {base : Nat} {ok : Nat → Prop} {x : S87} {cs : List Value} (h : k87.M w base ok x cs) : cs = [.int .i64 x.f0, .int .i64 x.f1] := by
  obtain ⟨_, _, rfl, rfl, rfl⟩ := h
  exact rfl
theorem k87_mk (w : World) (x : S87)  : k87.K w x [.int .i64 x.f0, .int .i64 x.f1] := ⟨[.int .i64 x.f0], [.int .i64 x.f1], rfl, rfl, rfl⟩
theorem k87_mkM (w : World) (base : Nat) (ok : Nat → Prop) (x : S87)  : k87.M w base ok x [.int .i64 x.f0, .int .i64 x.f1] := ⟨[.int .i64 x.f0], [.int .i64 x.f1], rfl, rfl, rfl⟩
def rd_T87 (xs : List S87) (i : Int) : S87 := xs.getD i.toNat z87
theorem at_T87 {w : World} {A : Option Addr} {n : Nat} {xs : List S87} (h : Kd.C k87 w A n xs) (i : Int) (h0 : 0 ≤ i) (h1 : i < n) : ∃ ad , A = some ad ∧ w.cell? (ad.add (i.toNat * 2)) = some (.int .i64 (rd_T87 xs i).f0) ∧ w.cell? ⟨(ad.add (i.toNat * 2)).block, (ad.add (i.toNat * 2)).off + 1, none⟩ = some (.int .i64 (rd_T87 xs i).f1) := by
  obtain ⟨ad, c, e, _, hK, hc0⟩ := Kd.C_get h z87 i h0 h1
  have hc : ∀ j u, c[j]? = some u → w.cell? (ad.add (i.toNat * 2 + j)) = some u := hc0
  obtain rfl := k87_open hK
  exact ⟨ad, e, hc 0 _ rfl, by rw [← add_field _ _ 1 (by omega)]; exact hc 1 _ rfl⟩

def rd_L2 (xs : List (List S87)) (i : Int) : (List S87) := xs.getD i.toNat ([] : List S87)
theorem at_L2 {w : World} {A : Option Addr} {n : Nat} {xs : List (List S87)} (h : Kd.C (Kd.slice 87 k87) w A n xs) (i : Int) (h0 : 0 ≤ i) (h1 : i < n) : ∃ ad A0 c0, A = some ad ∧ w.cell? (ad.add i.toNat) = some (.slice A0 (rd_L2 xs i).length c0) ∧ (rd_L2 xs i).length ≤ c0 ∧ k87.C w A0 (rd_L2 xs i).length (rd_L2 xs i) := by
  obtain ⟨ad, c, e, _, hK, hc0⟩ := Kd.C_get h ([] : List S87) i h0 h1
  have hc : ∀ j u, c[j]? = some u → w.cell? (ad.add (i.toNat * 1 + j)) = some u := hc0
  obtain ⟨A0, c0, rfl, l0, g0⟩ := hK
  exact ⟨ad, A0, c0, e, by have hq := hc 0 _ rfl; rwa [Nat.mul_one, Nat.add_zero] at hq, l0, g0⟩

/-! #### struct type 56, nested in itself -/
structure S56 where
  f0 : Int
  f1 : Int
  f2 : Int
  f3 : (List S87)
  f4 : (List S56)
def z56 : S56 := ⟨(0 : Int), (0 : Int), (0 : Int), ([] : List S87), ([] : List S56)⟩
def F56 (d : Kd S56) : Kd S56 := Kd.iso (Kd.pair (Kd.int .i64) (Kd.pair (Kd.int .i64) (Kd.pair (Kd.int .i64) (Kd.pair (Kd.slice 87 k87) (Kd.slice 56 d))))) (fun x : S56 => (x.f0, x.f1, x.f2, x.f3, x.f4))
theorem mono56 : Kd.Mono F56 := Kd.mono_iso _ (Kd.mono_pair (Kd.mono_const _) (Kd.mono_pair (Kd.mono_const _) (Kd.mono_pair (Kd.mono_const _) (Kd.mono_pair (Kd.mono_const _) (Kd.mono_slice 56 Kd.mono_id)))))
theorem sub56 : Kd.Sub F56 [56, 87] := Kd.sub_iso _ (Kd.sub_pair (Kd.sub_const _ (by decide)) (Kd.sub_pair (Kd.sub_const _ (by decide)) (Kd.sub_pair (Kd.sub_const _ (by decide)) (Kd.sub_pair (Kd.sub_const _ (by decide)) (Kd.sub_slice 56 (by decide) Kd.sub_id)))))
theorem sz56 : ∀ n, (Kd.upto F56 5 [56, 87] n).sz = 5 := Kd.upto_sz (fun _ => rfl)
def k56 : Kd S56 := Kd.fix F56 5 [56, 87] sz56 (Kd.upto_E sub56)
theorem k56_open {w : World} {x : S56} {cs : List Value} (h : k56.K w x cs) : ∃ A3 c3 A4 c4, cs = [.int .i64 x.f0, .int .i64 x.f1, .int .i64 x.f2, .slice A3 x.f3.length c3, .slice A4 x.f4.length c4] ∧ x.f3.length ≤ c3 ∧ k87.C w A3 x.f3.length x.f3 ∧ x.f4.length ≤ c4 ∧ k56.C w A4 x.f4.length x.f4 := by
  obtain ⟨n, h⟩ := h
  cases n with
  | zero => exact h.elim
  | succ n =>
    obtain ⟨_, _, rfl, rfl, ⟨_, _, rfl, rfl, ⟨_, _, rfl, rfl, ⟨_, _, rfl, ⟨A3, c3, rfl, l3, g3⟩, ⟨A4, c4, rfl, l4, g4⟩⟩⟩⟩⟩ := h
    exact ⟨A3, c3, A4, c4, rfl, l3, g3, l4, Kd.fix_C g4⟩
theorem k56_openM {w : World} {base : Nat} {ok : Nat → Prop} {x : S56} {cs : List Value} (h : k56.M w base ok x cs) : ∃ v3 v4, cs = [.int .i64 x.f0, .int .i64 x.f1, .int .i64 x.f2, v3, v4] ∧ k87.R 87 w base ok v3 x.f3 ∧ k56.R 56 w base ok v4 x.f4 := by
  obtain ⟨n, h⟩ := h
  cases n with
  | zero => exact h.elim
  | succ n =>
    obtain ⟨_, _, rfl, rfl, ⟨_, _, rfl, rfl, ⟨_, _, rfl, rfl, ⟨_, _, rfl, ⟨v3, rfl, g3⟩, ⟨v4, rfl, g4⟩⟩⟩⟩⟩ := h
    exact ⟨v3, v4, rfl, g3, Kd.fix_R g4⟩
theorem k56_mk (w : World) (x : S56) {A3 : Option Addr} {c3 : Nat} (l3 : x.f3.length ≤ c3) (g3 : k87.C w A3 x.f3.length x.f3) {A4 : Option Addr} {c4 : Nat} (l4 : x.f4.length ≤ c4) (g4 : k56.C w A4 x.f4.length x.f4) : k56.K w x [.int .i64 x.f0, .int .i64 x.f1, .int .i64 x.f2, .slice A3 x.f3.length c3, .slice A4 x.f4.length c4] := by
  obtain ⟨n4, q4⟩ := Kd.fix_C_back mono56 g4
  have r4 := Kd.upto_C_le mono56 sz56 (show n4 ≤ n4 by omega) q4
  exact ⟨n4 + 1, ⟨[.int .i64 x.f0], [.int .i64 x.f1, .int .i64 x.f2, .slice A3 x.f3.length c3, .slice A4 x.f4.length c4], rfl, rfl, ⟨[.int .i64 x.f1], [.int .i64 x.f2, .slice A3 x.f3.length c3, .slice A4 x.f4.length c4], rfl, rfl, ⟨[.int .i64 x.f2], [.slice A3 x.f3.length c3, .slice A4 x.f4.length c4], rfl, rfl, ⟨[.slice A3 x.f3.length c3], [.slice A4 x.f4.length c4], rfl, ⟨A3, c3, rfl, l3, g3⟩, ⟨A4, c4, rfl, l4, r4⟩⟩⟩⟩⟩⟩
theorem k56_mkM (w : World) (base : Nat) (ok : Nat → Prop) (x : S56) {v3 : Value} (g3 : k87.R 87 w base ok v3 x.f3) {v4 : Value} (g4 : k56.R 56 w base ok v4 x.f4) : k56.M w base ok x [.int .i64 x.f0, .int .i64 x.f1, .int .i64 x.f2, v3, v4] := by
  obtain ⟨n4, q4⟩ := Kd.fix_R_back mono56 g4
  have r4 := Kd.upto_R_le mono56 sz56 (show n4 ≤ n4 by omega) q4
  exact ⟨n4 + 1, ⟨[.int .i64 x.f0], [.int .i64 x.f1, .int .i64 x.f2, v3, v4], rfl, rfl, ⟨[.int .i64 x.f1], [.int .i64 x.f2, v3, v4], rfl, rfl, ⟨[.int .i64 x.f2], [v3, v4], rfl, rfl, ⟨[v3], [v4], rfl, ⟨v3, rfl, g3⟩, ⟨v4, rfl, r4⟩⟩⟩⟩⟩⟩
def rd_T56 (xs : List S56) (i : Int) : S56 := xs.getD i.toNat z56
theorem at_T56 {w : World} {A : Option Addr} {n : Nat} {xs : List S56} (h : Kd.C k56 w A n xs) (i : Int) (h0 : 0 ≤ i) (h1 : i < n) : ∃ ad A3 c3 A4 c4, A = some ad ∧ w.cell? (ad.add (i.toNat * 5)) = some (.int .i64 (rd_T56 xs i).f0) ∧ w.cell? ⟨(ad.add (i.toNat * 5)).block, (ad.add (i.toNat * 5)).off + 1, none⟩ = some (.int .i64 (rd_T56 xs i).f1) ∧ w.cell? ⟨(ad.add (i.toNat * 5)).block, (ad.add (i.toNat * 5)).off + 2, none⟩ = some (.int .i64 (rd_T56 xs i).f2) ∧ w.cell? ⟨(ad.add (i.toNat * 5)).block, (ad.add (i.toNat * 5)).off + 3, none⟩ = some (.slice A3 (rd_T56 xs i).f3.length c3) ∧ w.cell? ⟨(ad.add (i.toNat * 5)).block, (ad.add (i.toNat * 5)).off + 4, none⟩ = some (.slice A4 (rd_T56 xs i).f4.length c4) ∧ (rd_T56 xs i).f3.length ≤ c3 ∧ k87.C w A3 (rd_T56 xs i).f3.length (rd_T56 xs i).f3 ∧ (rd_T56 xs i).f4.length ≤ c4 ∧ k56.C w A4 (rd_T56 xs i).f4.length (rd_T56 xs i).f4 := by
  obtain ⟨ad, c, e, _, hK, hc0⟩ := Kd.C_get h z56 i h0 h1
  have hc : ∀ j u, c[j]? = some u → w.cell? (ad.add (i.toNat * 5 + j)) = some u := hc0
  obtain ⟨A3, c3, A4, c4, rfl, l3, g3, l4, g4⟩ := k56_open hK
  exact ⟨ad, A3, c3, A4, c4, e, hc 0 _ rfl, by rw [← add_field _ _ 1 (by omega)]; exact hc 1 _ rfl, by rw [← add_field _ _ 2 (by omega)]; exact hc 2 _ rfl, by rw [← add_field _ _ 3 (by omega)]; exact hc 3 _ rfl, by rw [← add_field _ _ 4 (by omega)]; exact hc 4 _ rfl, l3, g3, l4, g4⟩

def rd_L6 (xs : List (List ByteArray)) (i : Int) : (List ByteArray) := xs.getD i.toNat ([] : List ByteArray)
theorem at_L6 {w : World} {A : Option Addr} {n : Nat} {xs : List (List ByteArray)} (h : Kd.C (Kd.slice 9 Kd.string) w A n xs) (i : Int) (h0 : 0 ≤ i) (h1 : i < n) : ∃ ad A0 c0, A = some ad ∧ w.cell? (ad.add i.toNat) = some (.slice A0 (rd_L6 xs i).length c0) ∧ (rd_L6 xs i).length ≤ c0 ∧ Kd.string.C w A0 (rd_L6 xs i).length (rd_L6 xs i) := by
  obtain ⟨ad, c, e, _, hK, hc0⟩ := Kd.C_get h ([] : List ByteArray) i h0 h1
  have hc : ∀ j u, c[j]? = some u → w.cell? (ad.add (i.toNat * 1 + j)) = some u := hc0
  obtain ⟨A0, c0, rfl, l0, g0⟩ := hK
  exact ⟨ad, A0, c0, e, by have hq := hc 0 _ rfl; rwa [Nat.mul_one, Nat.add_zero] at hq, l0, g0⟩

/-! #### struct type 36, nested in itself -/
structure S36 where
  f0 : Int
  f1 : ByteArray
  f2 : (List ByteArray)
  f3 : (List S36)
def z36 : S36 := ⟨(0 : Int), (⟨#[]⟩ : ByteArray), ([] : List ByteArray), ([] : List S36)⟩
def F36 (d : Kd S36) : Kd S36 := Kd.iso (Kd.pair (Kd.int .i64) (Kd.pair Kd.string (Kd.pair (Kd.slice 9 Kd.string) (Kd.slice 36 d)))) (fun x : S36 => (x.f0, x.f1, x.f2, x.f3))
theorem mono36 : Kd.Mono F36 := Kd.mono_iso _ (Kd.mono_pair (Kd.mono_const _) (Kd.mono_pair (Kd.mono_const _) (Kd.mono_pair (Kd.mono_const _) (Kd.mono_slice 36 Kd.mono_id))))
theorem sub36 : Kd.Sub F36 [9, 36] := Kd.sub_iso _ (Kd.sub_pair (Kd.sub_const _ (by decide)) (Kd.sub_pair (Kd.sub_const _ (by decide)) (Kd.sub_pair (Kd.sub_const _ (by decide)) (Kd.sub_slice 36 (by decide) Kd.sub_id))))
theorem sz36 : ∀ n, (Kd.upto F36 4 [9, 36] n).sz = 4 := Kd.upto_sz (fun _ => rfl)
def k36 : Kd S36 := Kd.fix F36 4 [9, 36] sz36 (Kd.upto_E sub36)
theorem k36_open {w : World} {x : S36} {cs : List Value} (h : k36.K w x cs) : ∃ A2 c2 A3 c3, cs = [.int .i64 x.f0, .string x.f1, .slice A2 x.f2.length c2, .slice A3 x.f3.length c3] ∧ x.f2.length ≤ c2 ∧ Kd.string.C w A2 x.f2.length x.f2 ∧ x.f3.length ≤ c3 ∧ k36.C w A3 x.f3.length x.f3 := by
  obtain ⟨n, h⟩ := h
  cases n with
  | zero => exact h.elim
  | succ n =>
    obtain ⟨_, _, rfl, rfl, ⟨_, _, rfl, rfl, ⟨_, _, rfl, ⟨A2, c2, rfl, l2, g2⟩, ⟨A3, c3, rfl, l3, g3⟩⟩⟩⟩ := h
    exact ⟨A2, c2, A3, c3, rfl, l2, g2, l3, Kd.fix_C g3⟩
theorem k36_openM {w : World} {base : Nat} {ok : Nat → Prop} {x : S36} {cs : List Value} (h : k36.M w base ok x cs) : ∃ v2 v3, cs = [.int .i64 x.f0, .string x.f1, v2, v3] ∧ Kd.string.R 9 w base ok v2 x.f2 ∧ k36.R 36 w base ok v3 x.f3 := by
  obtain ⟨n, h⟩ := h
  cases n with
  | zero => exact h.elim
  | succ n =>
    obtain ⟨_, _, rfl, rfl, ⟨_, _, rfl, rfl, ⟨_, _, rfl, ⟨v2, rfl, g2⟩, ⟨v3, rfl, g3⟩⟩⟩⟩ := h
    exact ⟨v2, v3, rfl, g2, Kd.fix_R g3⟩
theorem k36_mk (w : World) (x : S36) {A2 : Option Addr} {c2 : Nat} (l2 : x.f2.length ≤ c2) (g2 : Kd.string.C w A2 x.f2.length x.f2) {A3 : Option Addr} {c3 : Nat} (l3 : x.f3.length ≤ c3) (g3 : k36.C w A3 x.f3.length x.f3) : k36.K w x [.int .i64 x.f0, .string x.f1, .slice A2 x.f2.length c2, .slice A3 x.f3.length c3] := by
  obtain ⟨n3, q3⟩ := Kd.fix_C_back mono36 g3
  have r3 := Kd.upto_C_le mono36 sz36 (show n3 ≤ n3 by omega) q3
  exact ⟨n3 + 1, ⟨[.int .i64 x.f0], [.string x.f1, .slice A2 x.f2.length c2, .slice A3 x.f3.length c3], rfl, rfl, ⟨[.string x.f1], [.slice A2 x.f2.length c2, .slice A3 x.f3.length c3], rfl, rfl, ⟨[.slice A2 x.f2.length c2], [.slice A3 x.f3.length c3], rfl, ⟨A2, c2, rfl, l2, g2⟩, ⟨A3, c3, rfl, l3, r3⟩⟩⟩⟩⟩
theorem k36_mkM (w : World) (base : Nat) (ok : Nat → Prop) (x : S36) {v2 : Value} (g2 : Kd.string.R 9 w base ok v2 x.f2) {v3 : Value} (g3 : k36.R 36 w base ok v3 x.f3) : k36.M w base ok x [.int .i64 x.f0, .string x.f1, v2, v3] := by
  obtain ⟨n3, q3⟩ := Kd.fix_R_back mono36 g3
  have r3 := Kd.upto_R_le mono36 sz36 (show n3 ≤ n3 by omega) q3
  exact ⟨n3 + 1, ⟨[.int .i64 x.f0], [.string x.f1, v2, v3], rfl, rfl, ⟨[.string x.f1], [v2, v3], rfl, rfl, ⟨[v2], [v3], rfl, ⟨v2, rfl, g2⟩, ⟨v3, rfl, r3⟩⟩⟩⟩⟩
def rd_T36 (xs : List S36) (i : Int) : S36 := xs.getD i.toNat z36
theorem at_T36 {w : World} {A : Option Addr} {n : Nat} {xs : List S36} (h : Kd.C k36 w A n xs) (i : Int) (h0 : 0 ≤ i) (h1 : i < n) : ∃ ad A2 c2 A3 c3, A = some ad ∧ w.cell? (ad.add (i.toNat * 4)) = some (.int .i64 (rd_T36 xs i).f0) ∧ w.cell? ⟨(ad.add (i.toNat * 4)).block, (ad.add (i.toNat * 4)).off + 1, none⟩ = some (.string (rd_T36 xs i).f1) ∧ w.cell? ⟨(ad.add (i.toNat * 4)).block, (ad.add (i.toNat * 4)).off + 2, none⟩ = some (.slice A2 (rd_T36 xs i).f2.length c2) ∧ w.cell? ⟨(ad.add (i.toNat * 4)).block, (ad.add (i.toNat * 4)).off + 3, none⟩ = some (.slice A3 (rd_T36 xs i).f3.length c3) ∧ (rd_T36 xs i).f2.length ≤ c2 ∧ Kd.string.C w A2 (rd_T36 xs i).f2.length (rd_T36 xs i).f2 ∧ (rd_T36 xs i).f3.length ≤ c3 ∧ k36.C w A3 (rd_T36 xs i).f3.length (rd_T36 xs i).f3 := by
  obtain ⟨ad, c, e, _, hK, hc0⟩ := Kd.C_get h z36 i h0 h1
  have hc : ∀ j u, c[j]? = some u → w.cell? (ad.add (i.toNat * 4 + j)) = some u := hc0
  obtain ⟨A2, c2, A3, c3, rfl, l2, g2, l3, g3⟩ := k36_open hK
  exact ⟨ad, A2, c2, A3, c3, e, hc 0 _ rfl, by rw [← add_field _ _ 1 (by omega)]; exact hc 1 _ rfl, by rw [← add_field _ _ 2 (by omega)]; exact hc 2 _ rfl, by rw [← add_field _ _ 3 (by omega)]; exact hc 3 _ rfl, l2, g2, l3, g3⟩

end Go.Proofs.YtdllbnecbbggfaaDoor.XFnGjQuoteValid
