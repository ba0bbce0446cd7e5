/- Proved here: parts of the law FnPrSpec (the texts XWords OwnRow Base FjPlain PrTrace Swar StrEnd QuoEnds PrSpecF PrSpecA PrSpecB PrSpecC PrSpecD PrSpecW XFnPrSpecx0 XFnPrSpecx2 XFnPrSpecx3), no conditions of their own beyond what each theorem says. -/
import Derived.Test.YtlllokmipeoelaaPa0
import Derived.Laws.CopyRow
import Derived.Laws.CopyOwn
import Derived.Deep.WholeRow
import Derived.Test.YtlllokmipeoelaaProg
import Derived.Laws.IdiomCopy
import Derived.Laws.MakeOwn
import Derived.Laws.Bits64
import Derived.Deep.LoopGhost
import Derived.Deep.Cut
import Derived.Deep.DeepCutAuto
import Derived.Deep.CutBlock
import Derived.LoopN
import Derived.Outline
import Derived.Deep.RegionLaw
import Derived.Below
import Derived.Deep.Draws
import Derived.Deep.AppendLies
import Derived.Maps.AppendAt
import Derived.OwnWalk
import Derived.Laws.BytesArg
import Derived.Laws.OwnMore
import Derived.Deep.OwnRows
import Derived.Tactics
import Derived.Lib.ConvBytes
import Derived.Laws.Slices
import Derived.WalkKit
import Derived.KernelRfl
import Derived.RowKit3
import Derived.Deep.QuietTactic
import Derived.BigQuiet
import Derived.WideLaws
import Derived.Deep.RegionHeld3
import Derived.Laws.Rows
import Derived.Lib.AppendStr
import Derived.ArgAppend
import Derived.OrdersHeld
import Derived.Laws.BitsLemmas
import Derived.RowKit
section
namespace Go.Proofs.Ytlllokmipeoelaa.XWords
open Go.RowKit Go.Proofs.YtlllokmipeoelaaW.PrintWords Go.Proofs.YtlllokmipeoelaaW.PrintLast
theorem below_alloc0 {B : Nat} {w W : World} (hB : B ≤ W.heap.size) (h : Below B w W) (o : Obj) : Below B w (W.alloc o) := h.alloc hB o
theorem extract_take (s : ByteArray) (n : Nat) : bytesOf (s.extract 0 n) = (bytesOf s).take n := by
  unfold bytesOf
  rw [ByteArray.data_extract, Array.toList_extract, List.map_take]
  simp
end Go.Proofs.Ytlllokmipeoelaa.XWords
end
section
namespace Go.Proofs.Ytlllokmipeoelaa.OwnRow
open Go.RowKit Go.Proofs.YtlllokmipeoelaaW.PrintWords
theorem heap_setCell {w : World} {g j e : Nat} {cur : Array Value} {fz : Nat × Nat} (h : w.heap[g]? = some (.cells cur e fz)) (v : Value) :
    (w.setCell ⟨g, j, none⟩ v).heap[g]? = some (.cells (cur.setIfInBounds j v) e fz) := by
  simp [World.setCell, Array.getElem?_modify, h]
/-- A row of the function's own that is not empty, spelled out. -/
theorem own_shape {W : World} {base e n : Nat} {v : Value} {xs : List Value} (h : W.ownsRow base e 1 v n xs) (hn : 0 < n) :
    ∃ g cap, v = .slice (some ⟨g, 0, none⟩) n cap ∧ base ≤ g ∧ n ≤ cap ∧ cap ≤ 9223372036854775807 ∧ g < W.heap.size ∧ (∀ j, j < n → (W.cell? ⟨g, j, none⟩).isSome = true) ∧ ∀ j, W.frozen? ⟨g, j, none⟩ = false := by
  rcases h.2 with ⟨_, h0⟩ | ⟨g, cap, cur, rfl, hb, hg, hnc, hc, hs, ht⟩
  · omega
  · refine ⟨g, cap, rfl, hb, hnc, by simpa [maxLen] using hc, ?_, fun j hj => ?_, fun j => ?_⟩
    · refine Nat.lt_of_not_le fun hle => ?_
      rw [Array.getElem?_eq_none hle] at hg
      cases hg
    · have hj' : j < cur.size := by omega
      simp [World.cell?, hg, hj']
    · simp [World.frozen?, hg]
theorem own_below {W W' : World} {base e n : Nat} {v : Value} {xs : List Value} (h : W.ownsRow base e 1 v n xs) (hb : Below W.heap.size W W') : W'.ownsRow base e 1 v n xs := by
  refine ⟨h.1, h.2.imp id ?_⟩
  rintro ⟨g, cap, cur, rfl, h1, hg, rest⟩
  have hlt : g < W.heap.size := by
    refine Nat.lt_of_not_le fun hle => ?_
    rw [Array.getElem?_eq_none hle] at hg
    cases hg
  exact ⟨g, cap, cur, rfl, h1, (hb.block g hlt).trans hg, rest⟩
end Go.Proofs.Ytlllokmipeoelaa.OwnRow
end
section
namespace Go.Proofs.Ytlllokmipeoelaa.Base
open Go.RowKit Go.Proofs.YtlllokmipeoelaaW.PrintWords Go.Proofs.YtlllokmipeoelaaW.PrintLast
theorem w64 {i : Int} (h0 : 0 ≤ i) (h : i ≤ 9223372036854775807) : wrap64 i = i := by unfold wrap64; omega
theorem rd_nil (i : Int) : rd [] i = 0 := by simp [rd]
theorem rd_get (A : List Int) (i : Int) (h : i.toNat < A.length) : rd A i = A[i.toNat] := by
  unfold rd; rw [List.getD_eq_getElem?_getD, List.getElem?_eq_getElem h]; rfl
theorem rd_out (A : List Int) (i : Int) (h : A.length ≤ i.toNat) : rd A i = 0 := by
  unfold rd; rw [List.getD_eq_getElem?_getD, List.getElem?_eq_none h]; rfl
theorem bytes_range (s : ByteArray) (i : Int) : 0 ≤ rd (bytesOf s) i ∧ rd (bytesOf s) i ≤ 255 := by rw [rd_bytesOf]; exact bt_range s i
theorem toList_bytes (s : ByteArray) (l : List UInt8) : s.toList = l ↔ bytesOf s = l.map (fun b => (b.toNat : Int)) := by
  rw [ByteArray.toList_eq]
  unfold bytesOf
  constructor
  · intro h; rw [h]
  · intro h
    refine (List.map_inj_right ?_).mp h
    intro a b hab
    exact UInt8.toNat_inj.mp (by omega)
theorem bytes_inj {a b : ByteArray} (h : bytesOf a = bytesOf b) : a = b := by
  have h1 : a.data.toList = b.data.toList := by
    rw [← ByteArray.toList_eq, ← ByteArray.toList_eq]
    exact (toList_bytes a _).mpr (by rw [ByteArray.toList_eq]; exact h)
  cases a; cases b; simp_all
theorem toList_inj {a b : ByteArray} (h : a.toList = b.toList) : a = b := by
  rw [ByteArray.toList_eq, ByteArray.toList_eq] at h
  exact bytes_inj (by unfold bytesOf; rw [h])
end Go.Proofs.Ytlllokmipeoelaa.Base
end
section
namespace Go.Proofs.Ytlllokmipeoelaa.Fj
open Go.RowKit Go.Proofs.YtlllokmipeoelaaW.PrintWords Go.Proofs.YtlllokmipeoelaaW.PrintLast
set_option linter.unusedVariables false
set_option linter.unusedSimpArgs false
def blank (c : Int) : Bool := c == 32 || (c == 10 || (c == 9 || c == 13))
/-- How many blanks lead. -/
def ws : List Int → Nat
  | [] => 0
  | c :: r => if blank c = true then ws r + 1 else 0
def digs : List Int → Nat
  | [] => 0
  | c :: r => if 48 ≤ c ∧ c ≤ 57 then digs r + 1 else 0
def simple8 (c : Int) : Bool := c == 34 || (c == 92 || (c == 47 || (c == 98 || (c == 102 || (c == 110 || (c == 114 || c == 116))))))
def hexd (c : Int) : Bool := decide (48 ≤ c ∧ c ≤ 57) || (decide (97 ≤ c ∧ c ≤ 102) || decide (65 ≤ c ∧ c ≤ 70))
/-- The inside of a string and its closing quote: how many bytes (RFC 8259, section 7). -/
def quo : List Int → Option Nat
  | [] => none
  | c :: r => if c = 34 then some 1 else if c < 32 then none else if c = 92 then (match r with
      | [] => none
      | d :: r2 => if simple8 d = true then (quo r2).map (· + 2) else if d = 117 then (match r2 with
          | a :: b :: e :: f :: r3 => if (hexd a && (hexd b && (hexd e && hexd f))) = true then (quo r3).map (· + 6) else none
          | _ => none) else none)
    else (quo r).map (· + 1)
def begins (w l : List Int) : Bool := l.take w.length == w
theorem ws_le : ∀ l, ws l ≤ l.length
  | [] => Nat.le_refl _
  | c :: r => by
    have := ws_le r
    rw [ws]; split <;> simp only [List.length_cons] <;> omega
theorem digs_le : ∀ l, digs l ≤ l.length
  | [] => Nat.le_refl _
  | c :: r => by
    have := digs_le r
    rw [digs]; split <;> simp only [List.length_cons] <;> omega
end Go.Proofs.Ytlllokmipeoelaa.Fj
end
section
namespace Go.Proofs.Ytlllokmipeoelaa.Pr
open Go.RowKit Go.Proofs.YtlllokmipeoelaaW.PrintWords Go.Proofs.YtlllokmipeoelaaW.PrintLast
set_option linter.unusedVariables false
/-- What is put in the place of a comment's byte: by pretty, by the reference. -/
def wh (c : Int) : Int := if c = 10 ∨ c = 9 ∨ c = 13 then c else 32
def wr (c : Int) : Int := if c = 10 then 10 else 32
/-- A comment. -/
inductive Com (l : List Int) : Nat → Nat → Prop
  | line (i e : Nat) : rd l (i : Int) = 47 → rd l ((i + 1 : Nat) : Int) = 47 → i + 2 ≤ e → e ≤ l.length → (∀ k : Nat, i + 2 ≤ k → k < e → rd l (k : Int) ≠ 10) → (e = l.length ∨ rd l (e : Int) = 10) → Com l i e
  | block (i e : Nat) : rd l (i : Int) = 47 → rd l ((i + 1 : Nat) : Int) = 42 → i + 4 ≤ e → e ≤ l.length → rd l ((e - 2 : Nat) : Int) = 42 → rd l ((e - 1 : Nat) : Int) = 47 →
      (∀ k : Nat, i + 2 ≤ k → k + 2 < e → ¬ (rd l (k : Int) = 42 ∧ rd l ((k + 1 : Nat) : Int) = 47)) → Com l i e
def cutp (l : List Int) (i e : Nat) : List Int := (l.drop i).take (e - i)
/-- A comma, the last byte above blanks, becomes a blank (the bytes from the last one on). -/
def kc : List Int → List Int
  | [] => []
  | c :: r => if c ≤ 32 then c :: kc r else if c = 44 then 32 :: r else c :: r
def kill (l : List Int) : List Int := (kc l.reverse).reverse
/-- pretty's loop, from a place on with what is made so far: what is made at the end. -/
inductive Run (l : List Int) : Nat → List Int → List Int → Prop
  | stop (i : Nat) (acc : List Int) : l.length ≤ i → Run l i acc acc
  | com (i : Nat) (acc fin : List Int) (e : Nat) : Com l i e → Run l e (acc ++ (cutp l i e).map wh) fin → Run l i acc fin
  | str (i : Nat) (acc fin : List Int) (m : Nat) : rd l (i : Int) = 34 → Fj.quo (l.drop (i + 1)) = some m → Run l (i + 1 + m) (acc ++ 34 :: (l.drop (i + 1)).take m) fin → Run l i acc fin
  | brk (i : Nat) (acc fin : List Int) : (rd l (i : Int) = 125 ∨ rd l (i : Int) = 93) → Run l (i + 1) (kill acc ++ [rd l (i : Int)]) fin → Run l i acc fin
  | oth (i : Nat) (acc fin : List Int) : i < l.length → rd l (i : Int) ≠ 47 → rd l (i : Int) ≠ 34 → rd l (i : Int) ≠ 125 → rd l (i : Int) ≠ 93 → Run l (i + 1) (acc ++ [rd l (i : Int)]) fin → Run l i acc fin
theorem cutp_len {l : List Int} {i e : Nat} (he : e ≤ l.length) (hi : i ≤ e) : (cutp l i e).length = e - i := by
  unfold cutp
  rw [List.length_take, List.length_drop]
  omega
theorem Com.lt {l : List Int} {i e : Nat} (h : Com l i e) : i + 2 ≤ e ∧ e ≤ l.length := by
  cases h <;> omega
end Go.Proofs.Ytlllokmipeoelaa.Pr
end
section
namespace Go.Proofs.Ytlllokmipeoelaa.Swar
open Go
set_option linter.unusedVariables false
set_option linter.unusedSimpArgs false
end Go.Proofs.Ytlllokmipeoelaa.Swar
end
section
namespace Go.Proofs.Ytlllokmipeoelaa.StrEnd
open Go.RowKit Go.Proofs.YtlllokmipeoelaaW.PrintWords Go.Proofs.YtlllokmipeoelaaW.PrintLast
set_option linter.unusedVariables false
set_option linter.unusedSimpArgs false
/-- The byte at p stands behind an odd number of backslashes. -/
def escd (l : List Int) : Nat → Bool
  | 0 => false
  | p + 1 => (rd l (p : Int) == 92) && !escd l p
theorem escd_not {l : List Int} {p : Nat} (h : rd l (p : Int) ≠ 92) : escd l (p + 1) = false := by
  rw [escd, beq_eq_false_iff_ne.mpr h]; rfl
theorem escd_yes {l : List Int} {p : Nat} (h : rd l (p : Int) = 92) : escd l (p + 1) = !escd l p := by
  rw [escd, beq_iff_eq.mpr h]; rfl
/-- The string ends at p: there the first quote that stands behind an even number of backslashes. -/
structure Ends (l : List Int) (q : Int) (p : Nat) : Prop where
  lt : p < l.length
  at_ : rd l (p : Int) = q
  even : escd l p = false
  first : ∀ j, j < p → rd l (j : Int) = q → escd l j = true
end Go.Proofs.Ytlllokmipeoelaa.StrEnd
end
section
namespace Go.Proofs.Ytlllokmipeoelaa.Pr
open Go.RowKit Go.Proofs.YtlllokmipeoelaaW.PrintWords Go.Proofs.YtlllokmipeoelaaW.PrintLast
set_option linter.unusedVariables false
set_option linter.unusedSimpArgs false
/-- The inside of a string of the reference ends where jsonparser's does. -/
theorem quo_ends : ∀ (n : Nat) (l : List Int) (m : Nat), l.length ≤ n → Fj.quo l = some m → ∃ q, m = q + 1 ∧ StrEnd.Ends l 34 q
  | _, [], m, _, h => by rw [Fj.quo] at h; cases h
  | 0, _ :: _, m, hn, _ => by simp at hn
  | n + 1, c :: r, m, hn, h => by
    simp only [List.length_cons] at hn
    have cons1 : ∀ (l' : List Int) (q : Nat), StrEnd.Ends l' 34 q → ∀ k : List Int, (∀ x ∈ k, x ≠ (34 : Int)) → StrEnd.escd (k ++ l') k.length = false → (∀ j, StrEnd.escd (k ++ l') (k.length + j) = StrEnd.escd l' j) → StrEnd.Ends (k ++ l') 34 (k.length + q) := by
      intro l' q hq k hk he hj
      have er : ∀ j : Nat, rd (k ++ l') ((k.length + j : Nat) : Int) = rd l' (j : Int) := fun j => by
        unfold rd
        simp only [Int.toNat_natCast, List.getD_eq_getElem?_getD]
        rw [List.getElem?_append_right (by omega), Nat.add_sub_cancel_left]
      refine ⟨by rw [List.length_append]; have := hq.lt; omega, by rw [er]; exact hq.at_, by rw [hj]; exact hq.even, fun j hjq h34 => ?_⟩
      by_cases hlt : j < k.length
      · exfalso
        unfold rd at h34
        simp only [Int.toNat_natCast, List.getD_eq_getElem?_getD] at h34
        rw [List.getElem?_append_left hlt, List.getElem?_eq_getElem hlt] at h34
        exact hk _ (List.getElem_mem hlt) h34
      · obtain ⟨i, rfl⟩ : ∃ i, j = k.length + i := ⟨j - k.length, by omega⟩
        rw [er] at h34
        rw [hj]
        exact hq.first i (by omega) h34
    have escd_app : ∀ (l' k : List Int), StrEnd.escd (k ++ l') k.length = false → ∀ j, StrEnd.escd (k ++ l') (k.length + j) = StrEnd.escd l' j := by
      intro l' k h0 j
      induction j with
      | zero => exact h0
      | succ j ih =>
        rw [← Nat.add_assoc, StrEnd.escd, StrEnd.escd, ih]
        congr 1
        unfold rd
        simp only [Int.toNat_natCast, List.getD_eq_getElem?_getD]
        rw [List.getElem?_append_right (by omega), Nat.add_sub_cancel_left]
    rw [Fj.quo.eq_def] at h
    simp only [] at h
    by_cases c1 : c = 34
    · subst c1
      rw [if_pos rfl] at h
      obtain rfl := Option.some.inj h
      exact ⟨0, rfl, by simp, rfl, rfl, fun j hj => absurd hj (Nat.not_lt_zero _)⟩
    · rw [if_neg c1] at h
      by_cases c2 : c < 32
      · rw [if_pos c2] at h; cases h
      · rw [if_neg c2] at h
        by_cases c3 : c = 92
        · subst c3
          rw [if_pos rfl] at h
          match r, hn, h with
          | [], _, h => cases h
          | d :: r2, hn, h =>
            simp only [] at h
            simp only [List.length_cons] at hn
            by_cases c4 : Fj.simple8 d = true
            · rw [if_pos c4] at h
              obtain ⟨x, hx, rfl⟩ := Option.map_eq_some_iff.mp h
              obtain ⟨q, rfl, hq⟩ := quo_ends n r2 x (by omega) hx
              -- behind two bytes, the second of which is escaped
              have e2 : StrEnd.escd (92 :: d :: r2) 2 = false := by
                rw [StrEnd.escd, StrEnd.escd, StrEnd.escd]
                have : rd (92 :: d :: r2) ((0 : Nat) : Int) = 92 := rfl
                rw [this]; simp
              have eapp := escd_app r2 [92, d] e2
              have er : ∀ j : Nat, rd ([92, d] ++ r2) ((2 + j : Nat) : Int) = rd r2 (j : Int) := fun j => by
                unfold rd
                simp only [Int.toNat_natCast, List.getD_eq_getElem?_getD]
                rw [List.getElem?_append_right (by simp)]
                simp
              refine ⟨q + 2, by omega, ⟨by have := hq.lt; simp; omega, ?_, ?_, fun j hj h34 => ?_⟩⟩
              · have := er q
                rw [show q + 2 = 2 + q by omega]
                exact this.trans hq.at_
              · have := eapp q
                rw [show q + 2 = 2 + q by omega]
                exact this.trans hq.even
              · match j, hj, h34 with
                | 0, _, h34 => cases h34
                | 1, _, _ => rfl
                | j + 2, hj, h34 =>
                  have h1 := er j
                  rw [show (2 + j : Nat) = j + 2 by omega] at h1
                  have h34' : rd r2 (j : Int) = 34 := h1.symm.trans h34
                  have h2 := eapp j
                  rw [show ([92, d].length + j : Nat) = j + 2 by simp; omega] at h2
                  exact h2.trans (hq.first j (by omega) h34')
            · rw [if_neg c4] at h
              by_cases c5 : d = 117
              · rw [if_pos c5] at h
                match r2, hn, h with
                | a :: b :: e :: f :: r3, hn, h =>
                  simp only [] at h
                  simp only [List.length_cons] at hn
                  by_cases c6 : (Fj.hexd a && (Fj.hexd b && (Fj.hexd e && Fj.hexd f))) = true
                  · rw [if_pos c6] at h
                    obtain ⟨x, hx, rfl⟩ := Option.map_eq_some_iff.mp h
                    obtain ⟨q, rfl, hq⟩ := quo_ends n r3 x (by omega) hx
                    have g := c6
                    simp only [Bool.and_eq_true] at g
                    obtain ⟨ga, gb, ge, gf⟩ := g
                    have hn34 : ∀ {y : Int}, Fj.hexd y = true → y ≠ 34 ∧ y ≠ 92 := fun {y} hy => by
                      unfold Fj.hexd at hy
                      simp only [Bool.or_eq_true, decide_eq_true_eq] at hy
                      omega
                    have e6 : StrEnd.escd (92 :: d :: a :: b :: e :: f :: r3) 6 = false := by
                      refine StrEnd.escd_not ?_
                      show f ≠ 92
                      exact (hn34 gf).2
                    have := cons1 r3 q hq [92, d, a, b, e, f] (fun y hy => by
                      simp only [List.mem_cons, List.mem_nil_iff, or_false] at hy
                      rcases hy with rfl | rfl | rfl | rfl | rfl | rfl
                      · decide
                      · omega
                      · exact (hn34 ga).1
                      · exact (hn34 gb).1
                      · exact (hn34 ge).1
                      · exact (hn34 gf).1) e6 (escd_app r3 [92, d, a, b, e, f] e6)
                    exact ⟨q + 6, by omega, by rw [show q + 6 = 6 + q by omega]; exact this⟩
                  · rw [if_neg c6] at h; cases h
                | [], _, h => cases h
                | [_], _, h => cases h
                | [_, _], _, h => cases h
                | [_, _, _], _, h => cases h
              · rw [if_neg c5] at h; cases h
        · rw [if_neg c3] at h
          obtain ⟨x, hx, rfl⟩ := Option.map_eq_some_iff.mp h
          obtain ⟨q, rfl, hq⟩ := quo_ends n r x (by omega) hx
          have e1 : StrEnd.escd (c :: r) 1 = false := StrEnd.escd_not (by show c ≠ 92; exact c3)
          have := cons1 r q hq [c] (fun y hy => by
            simp only [List.mem_cons, List.mem_nil_iff, or_false] at hy
            subst hy; exact c1) e1 (escd_app r [c] e1)
          exact ⟨q + 1, by omega, by rw [show q + 1 = 1 + q by omega]; exact this⟩
/-- Backslashes are counted alike from the head of the text. -/
theorem escd_drop {l : List Int} {i : Nat} (h : rd l (i : Int) ≠ 92) : ∀ p : Nat, StrEnd.escd l (i + 1 + p) = StrEnd.escd (l.drop (i + 1)) p
  | 0 => StrEnd.escd_not h
  | p + 1 => by
    rw [← Nat.add_assoc, StrEnd.escd, StrEnd.escd, escd_drop h p]
    congr 1
    unfold rd
    simp only [Int.toNat_natCast, List.getD_eq_getElem?_getD, List.getElem?_drop]
/-- The parity of the backslashes that are passed on the way back. -/
theorem escd_back {l : List Int} : ∀ (t j : Nat), (∀ u : Nat, u < t → rd l ((j + u : Nat) : Int) = 92) → StrEnd.escd l (j + t) = (decide (t % 2 = 1) ^^ StrEnd.escd l j)
  | 0, j, _ => by simp
  | t + 1, j, h => by
    rw [← Nat.add_assoc, StrEnd.escd_yes (h t (by omega)), escd_back t j fun u hu => h u (by omega)]
    by_cases c : t % 2 = 1
    · rw [decide_eq_true c, decide_eq_false (by omega)]
      cases StrEnd.escd l j <;> rfl
    · rw [decide_eq_false c, decide_eq_true (by omega)]
      cases StrEnd.escd l j <;> rfl
end Go.Proofs.Ytlllokmipeoelaa.Pr
end
section
namespace Go.Proofs.Ytlllokmipeoelaa.Pr
open Go.RowKit Go.Proofs.YtlllokmipeoelaaW.PrintWords Go.Proofs.YtlllokmipeoelaaW.PrintLast Go.Proofs.YtlllokmipeoelaaW.PrintMore
attribute [local go_sem] max2_int min2_int max_two min_two max_three min_three max_four min_four
set_option linter.unusedVariables false
set_option linter.unusedSimpArgs false
/-- The bytes of l lie in block g. -/
def Row (w : World) (g : Nat) (l : List Int) : Prop := ∀ j, j < l.length → w.cell? ⟨g, j, none⟩ = some (.int .u8 (rd l (j : Int)))
theorem Row.at_ {w wr : World} {g : Nat} {l : List Int} (h : Row w g l) (hb : Below w.heap.size w wr) (j : Nat) (hj : j < l.length) : wr.cell? ⟨g, j, none⟩ = some (.int .u8 (rd l (j : Int))) := pw_cell_below hb (h j hj)
theorem info8 : (Try.prog.info? 5).map (fun i => (i.zero, i.size, i.bytes)) = some (some (.int .u8 0), 1, 1) := by kernel_rfl
/-- What is asked at the end of a round. -/
def QS (N : Act → World → Prop) : Exit → Act → World → Prop
  | .normal, a, w => N a w
  | _, _, _ => False
/-- The code of a block, found in a body. -/
def findBlock (n : Nat) : Code → Option Code
  | .block i c => if i = n then some c else findBlock n c
  | .loop c => findBlock n c
  | .scope c => findBlock n c
  | .seq a b => match findBlock n a with
    | some c => some c
    | none => findBlock n b
  | .cond _ a b => match findBlock n a with
    | some c => some c
    | none => findBlock n b
  | _ => none
noncomputable def sp1 : Code := (Try.f18.body.bind (findBlock 1)).getD .skip
set_option maxRecDepth 100000 in
/-- A frame of 217 slots, written out. -/
theorem frame_lit (a : Act) (hs : a.tmps.size = 217) (hd : a.defers = []) : ∃ f : Nat → Value, (∀ n, f n = a.tmps.getD n undef) ∧ a = ⟨#[f 0, f 1, f 2, f 3, f 4, f 5, f 6, f 7, f 8, f 9, f 10, f 11, f 12, f 13, f 14, f 15, f 16, f 17, f 18, f 19, f 20, f 21, f 22, f 23, f 24, f 25, f 26, f 27, f 28, f 29, f 30, f 31, f 32, f 33, f 34, f 35, f 36, f 37, f 38, f 39, f 40, f 41, f 42, f 43, f 44, f 45, f 46, f 47, f 48, f 49, f 50, f 51, f 52, f 53, f 54, f 55, f 56, f 57, f 58, f 59, f 60, f 61, f 62, f 63, f 64, f 65, f 66, f 67, f 68, f 69, f 70, f 71, f 72, f 73, f 74, f 75, f 76, f 77, f 78, f 79, f 80, f 81, f 82, f 83, f 84, f 85, f 86, f 87, f 88, f 89, f 90, f 91, f 92, f 93, f 94, f 95, f 96, f 97, f 98, f 99, f 100, f 101, f 102, f 103, f 104, f 105, f 106, f 107, f 108, f 109, f 110, f 111, f 112, f 113, f 114, f 115, f 116, f 117, f 118, f 119, f 120, f 121, f 122, f 123, f 124, f 125, f 126, f 127, f 128, f 129, f 130, f 131, f 132, f 133, f 134, f 135, f 136, f 137, f 138, f 139, f 140, f 141, f 142, f 143, f 144, f 145, f 146, f 147, f 148, f 149, f 150, f 151, f 152, f 153, f 154, f 155, f 156, f 157, f 158, f 159, f 160, f 161, f 162, f 163, f 164, f 165, f 166, f 167, f 168, f 169, f 170, f 171, f 172, f 173, f 174, f 175, f 176, f 177, f 178, f 179, f 180, f 181, f 182, f 183, f 184, f 185, f 186, f 187, f 188, f 189, f 190, f 191, f 192, f 193, f 194, f 195, f 196, f 197, f 198, f 199, f 200, f 201, f 202, f 203, f 204, f 205, f 206, f 207, f 208, f 209, f 210, f 211, f 212, f 213, f 214, f 215, f 216], []⟩ := by
  obtain ⟨t, d⟩ := a
  simp only [] at hs hd
  subst hd
  refine ⟨fun n => t.getD n undef, fun _ => rfl, ?_⟩
  have h : t = ((List.range 217).map fun n => t.getD n undef).toArray := by
    apply Array.ext
    · simp [hs]
    · intro i h1 h2
      simp [Array.getD, h1]
  exact congrArg (fun x => Act.mk x []) h
/-- The frame at a place of the loop: what is made so far is vd, the place is y. -/
structure Fr (s0 vd : Value) (y : Int) (a : Act) : Prop where
  size : a.tmps.size = 217
  defers : a.defers = []
  e0 : a.tmps.getD 0 undef = s0
  e1 : a.tmps.getD 1 undef = vd
  e5 : a.tmps.getD 5 undef = .int .i64 y
/-- What holds of the world: acc is made, all else is as it was. -/
structure Mk (w wr : World) (vd : Value) (acc : List Int) : Prop where
  own : wr.ownsRow w.heap.size 5 1 vd acc.length (nums .u8 acc)
  bel : Below w.heap.size w wr
/-- Several bytes at once. -/
theorem reads_new (W : World) (e : TypeId) (ys : List Int) (hy : ys.length ≤ 100) : ReadsInt (W.alloc (.cells (nums .u8 ys).toArray e)) .u8 (some ⟨W.heap.size, 0, none⟩) ys.length ys := by
  refine ⟨rfl, by omega, fun _ => ⟨_, rfl, fun j hj => ?_⟩⟩
  rw [add_plain, World.cell?_alloc_new]
  simp [nums, List.getElem?_eq_getElem hj]
theorem append_lits {P : Program} {ops : Array Oper} {rest : List Oper} {o : Oper} {a : Act} {Q : Exit → Act → World → Prop} {w0 W : World} (base : Nat) (hgd : o.guard = none) (s x : Operand) (t e : TypeId)
    (ho : o.op = .call { callee := .builtin .append, args := #[s, x], argTypes := #[t, t] })
    (ht : P.underlying t = some (.slice e)) (hinfo : (P.info? e).map (fun i => (i.zero, i.size, i.bytes)) = some (some (.int .u8 0), 1, 1))
    (v : Value) (xs ys : List Int) (hy : ys.length ≤ 100) (hs : a.eval s = v) (hx : a.eval x = .slice (some ⟨W.heap.size, 0, none⟩) ys.length ys.length)
    (HO : W.ownsRow base e 1 v xs.length (nums .u8 xs)) (HB : Below base w0 W) (hbase : base ≤ W.heap.size) (hl : xs.length ≤ 1000000)
    (h : ∀ v1 w1, w1.ownsRow base e 1 v1 (xs ++ ys).length (nums .u8 (xs ++ ys)) → Below base w0 w1 → wpList P ops Q rest (a.put o.dst v1) w1) :
    wpList P ops Q (o :: rest) a (W.alloc (.cells (nums .u8 ys).toArray e)) :=
  print_append_row (w0 := w0) base hgd s x t e .u8 1 ho ht hinfo (by omega) v xs ys _ ys.length ys.length hs hx (own_alloc HO _) (reads_new W e ys hy) (XWords.below_alloc0 hbase HB _)
    (by show base ≤ (W.heap.push _).size; rw [Array.size_push]; omega) (by omega) fun v1 w1 h1 h2 _ _ => h v1 w1 h1 h2
theorem vint {x y : Int} (h : x = y) : Value.int .i64 x = .int .i64 y := by rw [h]
theorem cutp_snoc {l : List Int} {i k : Nat} (hi : i ≤ k) (hk : k < l.length) : cutp l i (k + 1) = cutp l i k ++ [rd l (k : Int)] := by
  unfold cutp
  rw [show k + 1 - i = (k - i) + 1 by omega, List.take_add_one, List.getElem?_drop, show i + (k - i) = k by omega, List.getElem?_eq_getElem hk]
  simp [rd, List.getD, hk]
theorem cutp_self (l : List Int) (i : Nat) : cutp l i i = [] := by unfold cutp; simp
end Go.Proofs.Ytlllokmipeoelaa.Pr
end
section
namespace Go.Proofs.Ytlllokmipeoelaa.Pr
open Go.RowKit Go.Proofs.YtlllokmipeoelaaW.PrintWords Go.Proofs.YtlllokmipeoelaaW.PrintLast Go.Proofs.YtlllokmipeoelaaW.PrintMore
attribute [local go_sem] max2_int min2_int max_two min_two max_three min_three max_four min_four
set_option linter.unusedVariables false
set_option linter.unusedSimpArgs false
set_option maxHeartbeats 16000000 in
set_option maxRecDepth 100000 in
theorem arm_oth (g c : Nat) (l fin : List Int) (w : World) (hrow : Row w g l) (hl : l.length ≤ 1000000) (wr : World) (a : Act) (i : Nat) (acc : List Int) (vd : Value) (hfr : Fr (.slice (some ⟨g, 0, none⟩) l.length c) vd (i : Int) a) (hil : i < l.length) (hal : acc.length ≤ i) (hmk : Mk w wr vd acc) (h47 : rd l (i : Int) ≠ 47) (h34 : rd l (i : Int) ≠ 34) (h125 : rd l (i : Int) ≠ 125) (h93 : rd l (i : Int) ≠ 93) (hR : Run l (i + 1) (acc ++ [rd l (i : Int)]) fin) (N : Act → World → Prop) (hn : ∀ (a' : Act) (w' : World) (i' : Nat) (acc' : List Int) (vd' : Value), i < i' → i' ≤ l.length + 1 → Fr (.slice (some ⟨g, 0, none⟩) l.length c) vd' ((i' : Int) - 1) a' → Run l i' acc' fin → acc'.length ≤ i' → Mk w w' vd' acc' → N a' w') :
    sp1.wp Try.prog (Exit.inBlock 1 (QS N)) a wr := by
  have HROW := Aside0.mk hrow
  have HMK := Aside0.mk hmk
  have HN := Aside0.mk hn
  obtain ⟨f1, hf, ha⟩ := frame_lit a hfr.size hfr.defers
  have e0_ := (hf 0).trans hfr.e0
  have e1_ := (hf 1).trans hfr.e1
  have e5_ := (hf 5).trans hfr.e5
  rw [e0_, e1_, e5_] at ha
  subst ha
  clear hf e0_ e1_ e5_ hfr
  clear hrow hmk hn
  have hx := HROW.out.at_ HMK.out.bel i hil
  have p1 : ((i : Int) < (l.length : Int)) = True := eq_true (by omega)
  have p1n : (i < l.length) = True := eq_true hil
  have b1 : (i : Int) ≤ 1000000 := by omega
  unfold sp1
  conv => arg 2; whnf
  have HR := Aside0.mk hR
  have HAL := Aside0.mk hal
  obtain ⟨x, hxx⟩ : ∃ x, rd l (i : Int) = x := ⟨_, rfl⟩
  rw [hxx] at hx h47 h34 h125 h93
  have e47 : (x == 47) = false := beq_eq_false_iff_ne.mpr h47
  have e34 : (x == 34) = false := beq_eq_false_iff_ne.mpr h34
  have e125 : (x == 125) = false := beq_eq_false_iff_ne.mpr h125
  have e93 : (x == 93) = false := beq_eq_false_iff_ne.mpr h93
  have HXX := Aside0.mk hxx
  clear hxx h47 h34 h125 h93 hR hal
  go_wp2_with (at_builtin; refine print_append_num (w0 := w) w.heap.size rfl (.tmp 138) (.tmp 143) 27 5 .u8 1 rfl Try.underlying27 info8 (by omega) _ acc x rfl rfl ?aO1 ?aB1 ?aS1 ?aL1 ?_; (case aO1 => exact HMK.out.own); (case aB1 => exact HMK.out.bel); (case aS1 => exact HMK.out.bel.size); (case aL1 => have := HAL.out; omega); intro v1 w1 ho hb hg hat; have M1 := Aside0.mk (Mk.mk ho hb); clear ho hb hg hat; have hx1 := HROW.out.at_ M1.out.bel i hil; rw [HXX.out] at hx1)
  exact HN.out _ _ (i + 1) _ _ (by omega) (by omega) ⟨rfl, rfl, rfl, rfl, vint (by omega)⟩ HR.out (by have := HAL.out; simp; omega) (by rw [HXX.out]; exact M1.out)
end Go.Proofs.Ytlllokmipeoelaa.Pr
end
section
namespace Go.Proofs.Ytlllokmipeoelaa.Pr
open Go.RowKit Go.Proofs.YtlllokmipeoelaaW.PrintWords Go.Proofs.YtlllokmipeoelaaW.PrintLast Go.Proofs.YtlllokmipeoelaaW.PrintMore
attribute [local go_sem] max2_int min2_int max_two min_two max_three min_three max_four min_four
set_option linter.unusedVariables false
set_option linter.unusedSimpArgs false
/-- A comma that is the last byte above blanks. -/
theorem kill_at (acc : List Int) (m : Nat) (hm : m < acc.length) (hlow : ∀ k : Nat, m < k → k < acc.length → rd acc (k : Int) ≤ 32) (h33 : ¬ rd acc (m : Int) ≤ 32) : kill acc = if rd acc (m : Int) = 44 then acc.set m 32 else acc := by
  have hd : acc = acc.take m ++ rd acc (m : Int) :: acc.drop (m + 1) := by
    have h1 : acc.drop m = rd acc (m : Int) :: acc.drop (m + 1) := by
      rw [List.drop_eq_getElem_cons hm]
      congr 1
      unfold rd
      simp only [Int.toNat_natCast, List.getD_eq_getElem?_getD]
      rw [List.getElem?_eq_getElem hm]
      rfl
    rw [← h1, List.take_append_drop]
  have hb : ∀ d ∈ acc.drop (m + 1), d ≤ 32 := fun d hd => by
    obtain ⟨j, hj, rfl⟩ := List.mem_iff_getElem.mp hd
    rw [List.length_drop] at hj
    have := hlow (m + 1 + j) (by omega) (by omega)
    unfold rd at this
    simp only [Int.toNat_natCast, List.getD_eq_getElem?_getD] at this
    rw [List.getElem?_eq_getElem (by omega)] at this
    simpa using this
  have hk : ∀ (a b : List Int) (c : Int), (∀ d ∈ b, d ≤ 32) → ¬ c ≤ 32 → kill (a ++ c :: b) = a ++ (if c = 44 then 32 else c) :: b := by
    intro a b c hb hc
    have low : ∀ (x y : List Int), (∀ c ∈ x, c ≤ 32) → kc (x ++ y) = x ++ kc y := by
      intro x y h
      induction x with
      | nil => rfl
      | cons z x ih => rw [List.cons_append, kc, if_pos (h z (by simp)), ih fun d hd => h d (by simp [hd])]; rfl
    unfold kill
    have e : (a ++ c :: b).reverse = b.reverse ++ c :: a.reverse := by simp
    rw [e, low _ _ (fun d hd => hb d (by simpa using hd)), kc, if_neg hc]
    by_cases h : c = 44
    · rw [if_pos h, if_pos h]; simp
    · rw [if_neg h, if_neg h]; simp
  have hlen : (acc.take m).length = m := by rw [List.length_take]; omega
  by_cases h44 : rd acc (m : Int) = 44
  · rw [if_pos h44]
    conv => lhs; rw [hd]
    conv => rhs; rw [hd]
    rw [hk _ _ _ hb h33, if_pos h44, List.set_append, if_neg (by omega), hlen, Nat.sub_self]
    rfl
  · rw [if_neg h44]
    conv => lhs; rw [hd]
    conv => rhs; rw [hd]
    rw [hk _ _ _ hb h33, if_neg h44]
theorem kill_none (acc : List Int) (hlow : ∀ k : Nat, k < acc.length → rd acc (k : Int) ≤ 32) : kill acc = acc := by
  have low : ∀ (x : List Int), (∀ c ∈ x, c ≤ 32) → kc x = x := by
    intro x h
    induction x with
    | nil => rfl
    | cons z x ih => rw [kc, if_pos (h z (by simp)), ih fun d hd => h d (by simp [hd])]
  unfold kill
  rw [low, List.reverse_reverse]
  intro c hc
  obtain ⟨j, hj, rfl⟩ := List.mem_iff_getElem.mp (by simpa using hc : c ∈ acc)
  have := hlow j hj
  unfold rd at this
  simp only [Int.toNat_natCast, List.getD_eq_getElem?_getD] at this
  rw [List.getElem?_eq_getElem hj] at this
  simpa using this
theorem nums_set (xs : List Int) (m : Nat) (x : Int) : nums .u8 (xs.set m x) = (nums .u8 xs).set m (.int .u8 x) := by simp [nums, List.map_set]
theorem rd_app_left {a : List Int} {c : Int} {m : Nat} (h : m < a.length) : rd (a ++ [c]) (m : Int) = rd a (m : Int) := by
  unfold rd
  simp only [Int.toNat_natCast, List.getD_eq_getElem?_getD]
  rw [List.getElem?_append_left h]
theorem set_app_left {a : List Int} {c x : Int} {m : Nat} (h : m < a.length) : (a ++ [c]).set m x = a.set m x ++ [c] := by rw [List.set_append, if_pos h]
/-- What is made, as cells. -/
theorem Mk.shape {w wr : World} {vd : Value} {acc : List Int} (h : Mk w wr vd acc) (hn : 0 < acc.length) :
    ∃ gd cap, vd = .slice (some ⟨gd, 0, none⟩) acc.length cap ∧ w.heap.size ≤ gd ∧ acc.length ≤ cap ∧ (∀ j, j < acc.length → wr.cell? ⟨gd, j, none⟩ = some (.int .u8 (rd acc (j : Int)))) ∧ ∀ j, wr.frozen? ⟨gd, j, none⟩ = false := by
  obtain ⟨gd, cap, rfl, h1, h2, h3, h4, h5, h6⟩ := OwnRow.own_shape h.own hn
  refine ⟨gd, cap, rfl, h1, h2, fun j hj => ?_, h6⟩
  rw [h.own.cellAt j (by omega)]
  simp [nums, rd, List.getD, hj]
theorem Mk.set {w wr : World} {gd cap n : Nat} {acc : List Int} (hn : acc.length = n) (h : Mk w wr (.slice (some ⟨gd, 0, none⟩) n cap) acc) (hg : w.heap.size ≤ gd) (m : Nat) (x : Int) : Mk w (wr.setCell ⟨gd, m, none⟩ (.int .u8 x)) (.slice (some ⟨gd, 0, none⟩) n cap) (acc.set m x) := by
  subst hn
  have h1 := h.own.stored m (.int .u8 x)
  refine ⟨?_, h.bel.setCell (by exact hg) _⟩
  rw [nums_set, List.length_set]
  exact h1.1
set_option maxHeartbeats 16000000 in
set_option maxRecDepth 100000 in
theorem arm_brk (g c : Nat) (l fin : List Int) (w : World) (hrow : Row w g l) (hl : l.length ≤ 1000000) (wr : World) (a : Act) (i : Nat) (acc : List Int) (vd : Value) (hfr : Fr (.slice (some ⟨g, 0, none⟩) l.length c) vd (i : Int) a) (hil : i < l.length) (hal : acc.length ≤ i) (hmk : Mk w wr vd acc) (hc : rd l (i : Int) = 125 ∨ rd l (i : Int) = 93) (hR : Run l (i + 1) (kill acc ++ [rd l (i : Int)]) fin) (N : Act → World → Prop) (hn : ∀ (a' : Act) (w' : World) (i' : Nat) (acc' : List Int) (vd' : Value), i < i' → i' ≤ l.length + 1 → Fr (.slice (some ⟨g, 0, none⟩) l.length c) vd' ((i' : Int) - 1) a' → Run l i' acc' fin → acc'.length ≤ i' → Mk w w' vd' acc' → N a' w') :
    sp1.wp Try.prog (Exit.inBlock 1 (QS N)) a wr := by
  have HROW := Aside0.mk hrow
  have HMK := Aside0.mk hmk
  have HN := Aside0.mk hn
  obtain ⟨f2, hf, ha⟩ := frame_lit a hfr.size hfr.defers
  have e0_ := (hf 0).trans hfr.e0
  have e1_ := (hf 1).trans hfr.e1
  have e5_ := (hf 5).trans hfr.e5
  rw [e0_, e1_, e5_] at ha
  subst ha
  clear hf e0_ e1_ e5_ hfr
  clear hrow hmk hn
  have hx := HROW.out.at_ HMK.out.bel i hil
  have p1 : ((i : Int) < (l.length : Int)) = True := eq_true (by omega)
  have p1n : (i < l.length) = True := eq_true hil
  have b1 : (i : Int) ≤ 1000000 := by omega
  unfold sp1
  conv => arg 2; whnf
  have HR := Aside0.mk hR
  have HAL := Aside0.mk hal
  obtain ⟨x, hxx⟩ : ∃ x, rd l (i : Int) = x := ⟨_, rfl⟩
  rw [hxx] at hx hc
  have e47 : (x == 47) = false := beq_eq_false_iff_ne.mpr (by omega)
  have e34 : (x == 34) = false := beq_eq_false_iff_ne.mpr (by omega)
  have HXX := Aside0.mk hxx
  clear hxx hR hal
  rcases (show (x == 125) = true ∨ (x == 125) = false ∧ (x == 93) = true by rcases hc with rfl | rfl; exact .inl rfl; exact .inr ⟨rfl, rfl⟩) with e125 | ⟨e125, e93⟩
  all_goals
    clear hc
    go_upto_block 10 with (at_builtin; refine print_append_num (w0 := w) w.heap.size rfl (.tmp 138) (.tmp 143) 27 5 .u8 1 rfl Try.underlying27 info8 (by omega) _ acc x rfl rfl ?aO1 ?aB1 ?aS1 ?aL1 ?_; (case aO1 => exact HMK.out.own); (case aB1 => exact HMK.out.bel); (case aS1 => exact HMK.out.bel.size); (case aL1 => have := HAL.out; omega); intro v1 w1 ho hb hg hat; have M1 := Aside0.mk (Mk.mk ho hb); clear ho hb hg hat; have hx1 := HROW.out.at_ M1.out.bel i hil; rw [HXX.out] at hx1; have b2 : (acc.length : Int) + 1 ≤ 2000000 := (by have := HAL.out; omega); obtain ⟨gd, cap, hv1, hgd, hcap, hcl, hfz⟩ := M1.out.shape (by simp); rw [List.length_append, List.length_singleton] at hv1 hcap; subst hv1)
    clear hx hx1 hcl hfz
    have HGD := Aside0.mk hgd
    clear hgd
    refine wp_block ?_
    refine wp_loop_ghost_k (fun kq a' w' => kq ≤ acc.length ∧ w' = w1 ∧ Fr (.slice (some ⟨g, 0, none⟩) l.length c) (.slice (some ⟨gd, 0, none⟩) (acc.length + 1) cap) (i : Int) a' ∧ a'.tmps.getD 7 undef = .int .i64 ((kq : Int) - 1) ∧ Aside0 (∀ k : Nat, kq ≤ k → k < acc.length → rd acc (k : Int) ≤ 32)) acc.length ?_ ?_
    · exact ⟨Nat.le_refl _, rfl, ⟨rfl, rfl, rfl, rfl, rfl⟩, vint (by omega), ⟨fun k h1 h2 => by omega⟩⟩
    rintro n a2 w2 ⟨hn1, rfl, hfr, h7, hlow⟩ J2 K2 hJ2 hK2
    obtain ⟨f3, hf, ha⟩ := frame_lit a2 hfr.size hfr.defers
    have e0_ := (hf 0).trans hfr.e0
    have e1_ := (hf 1).trans hfr.e1
    have e5_ := (hf 5).trans hfr.e5
    have e7_ := (hf 7).trans h7
    rw [e0_, e1_, e5_, e7_] at ha
    subst ha
    clear hf e0_ e1_ e5_ e7_ hfr h7
    cases n with
    | zero =>
      have z1 : ((0 : Nat) : Int) - 1 = -1 := rfl
      rw [z1]
      go_wp2
      exact HN.out _ _ (i + 1) _ _ (by omega) (by omega) ⟨rfl, rfl, rfl, rfl, vint (by omega)⟩ HR.out (by have := HAL.out; simp [kill_none acc fun k hk => hlow.out k (by omega) hk]; omega) (by rw [kill_none acc fun k hk => hlow.out k (by omega) hk, HXX.out]; simpa using M1.out)
    | succ m =>
      have z1 : ((m + 1 : Nat) : Int) - 1 = (m : Int) := by omega
      rw [z1]
      have HM : Aside0 (m < acc.length) := ⟨hn1⟩
      have zl : m < acc.length + 1 := by omega
      have z2 : ((m : Int) < (acc.length : Int) + 1) = True := eq_true (by omega)
      have z2n : (m < acc.length + 1) = True := eq_true zl
      have z3 : (0 ≤ (m : Int)) = True := eq_true (by omega)
      have hcm : w2.cell? ⟨gd, m, none⟩ = some (.int .u8 (rd acc (m : Int))) := by
        obtain ⟨gd', cap', hv1, _, _, hcl, _⟩ := M1.out.shape (by simp)
        rw [List.length_append, List.length_singleton] at hv1
        injection hv1 with q1 _ _
        injection q1 with q1
        injection q1 with q1
        subst q1
        rw [hcl m (by simp; omega), rd_app_left HM.out]
      have hfm : w2.frozen? ⟨gd, m, none⟩ = false := by
        obtain ⟨gd', cap', hv1, _, _, _, hfz⟩ := M1.out.shape (by simp)
        rw [List.length_append, List.length_singleton] at hv1
        injection hv1 with q1 _ _
        injection q1 with q1
        injection q1 with q1
        subst q1
        exact hfz m
      obtain ⟨y, hy⟩ : ∃ y, rd acc (m : Int) = y := ⟨_, rfl⟩
      rw [hy] at hcm
      have HY := Aside0.mk hy
      clear hy z1 hn1 zl
      by_cases c32 : y ≤ 32
      · have q1 : decide (y ≤ 32) = true := decide_eq_true c32
        go_wp2
        refine Handed.intro m (by omega) (hJ2 _ _ _ ?_)
        refine ⟨by have := HM.out; omega, rfl, ⟨rfl, rfl, rfl, rfl, rfl⟩, vint (by have := HM.out; unfold wrap64; omega), ⟨fun k h1 h2 => ?_⟩⟩
        by_cases e : k = m
        · subst e; rw [HY.out]; exact c32
        · exact hlow.out k (by omega) h2
      · have q1 : decide (y ≤ 32) = false := decide_eq_false c32
        have HK := Aside0.mk (kill_at acc m HM.out (fun k h1 h2 => hlow.out k (by omega) h2) (by rw [HY.out]; exact c32))
        clear hlow
        by_cases c44 : y = 44
        · have q2 : (y == 44) = true := beq_iff_eq.mpr c44
          have HK1 : Aside0 (kill acc = acc.set m 32) := ⟨by rw [HK.out, if_pos (by rw [HY.out]; exact c44)]⟩
          clear c44 c32 HK
          go_wp2
          exact HN.out _ _ (i + 1) _ _ (by omega) (by omega) ⟨rfl, rfl, rfl, rfl, vint (by omega)⟩ HR.out (by have := HAL.out; simp [HK1.out]; omega) (by rw [HK1.out, HXX.out, ← set_app_left HM.out]; exact Mk.set (by simp) M1.out HGD.out m 32)
        · have q2 : (y == 44) = false := beq_eq_false_iff_ne.mpr c44
          have HK1 : Aside0 (kill acc = acc) := ⟨by rw [HK.out, if_neg (by rw [HY.out]; exact c44)]⟩
          clear c44 c32 HK
          go_wp2
          exact HN.out _ _ (i + 1) _ _ (by omega) (by omega) ⟨rfl, rfl, rfl, rfl, vint (by omega)⟩ HR.out (by have := HAL.out; simp [HK1.out]; omega) (by rw [HK1.out, HXX.out]; simpa using M1.out)
end Go.Proofs.Ytlllokmipeoelaa.Pr
end
section
namespace Go.Proofs.Ytlllokmipeoelaa.Pr
open Go.RowKit Go.Proofs.YtlllokmipeoelaaW.PrintWords Go.Proofs.YtlllokmipeoelaaW.PrintLast Go.Proofs.YtlllokmipeoelaaW.PrintMore
attribute [local go_sem] max2_int min2_int max_two min_two max_three min_three max_four min_four
set_option linter.unusedVariables false
set_option linter.unusedSimpArgs false
theorem wh_other {c : Int} (h : c ≠ 10) (h9 : c ≠ 9) (h13 : c ≠ 13) : wh c = 32 := by unfold wh; rw [if_neg (by omega)]
theorem wh_10 : wh 10 = 10 := rfl
theorem run_long {l : List Int} {i : Nat} {acc fin : List Int} (h : Run l i acc fin) (hi : l.length ≤ i) : fin = acc := by
  cases h with
  | stop => rfl
  | com _ _ _ e hc _ => have := hc.lt; omega
  | str _ _ _ m h34 _ _ => rw [Base.rd_out l _ (by simpa using hi)] at h34; cases h34
  | brk _ _ _ h _ => rw [Base.rd_out l _ (by simpa using hi)] at h; omega
  | oth _ _ _ h => omega
theorem run_lf {l : List Int} {i : Nat} {acc fin : List Int} (h : Run l i acc fin) (hi : rd l (i : Int) = 10) (hl : i < l.length) : Run l (i + 1) (acc ++ [10]) fin := by
  cases h with
  | stop _ _ h => omega
  | com _ _ _ e hc _ => cases hc <;> omega
  | str _ _ _ m h34 _ _ => omega
  | brk _ _ _ h _ => omega
  | oth _ _ _ _ _ _ _ _ h => rw [hi] at h; exact h
theorem cutp_head2 {l : List Int} {i : Nat} (h : i + 2 ≤ l.length) : cutp l i (i + 2) = [rd l (i : Int), rd l ((i + 1 : Nat) : Int)] := by
  rw [cutp_snoc (by omega) (by omega), cutp_snoc (Nat.le_refl _) (by omega), cutp_self]
  rfl
theorem rdlt {l : List Int} {i : Nat} {c : Int} (h : rd l (i : Int) = c) (hc : c ≠ 0) : i < l.length := by
  refine Nat.lt_of_not_le fun hx => hc ?_
  rw [← h, Base.rd_out l _ (by simpa using hx)]
set_option maxHeartbeats 16000000 in
set_option maxRecDepth 100000 in
theorem arm_line (g c : Nat) (l fin : List Int) (w : World) (hrow : Row w g l) (hl : l.length ≤ 1000000) (wr : World) (a : Act) (i : Nat) (acc : List Int) (vd : Value) (hfr : Fr (.slice (some ⟨g, 0, none⟩) l.length c) vd (i : Int) a) (hil : i < l.length) (hal : acc.length ≤ i) (hmk : Mk w wr vd acc) (h47 : rd l (i : Int) = 47) (hb : rd l ((i + 1 : Nat) : Int) = 47) (hal0 : acc.length ≤ i) (e : Nat) (h2 : i + 2 ≤ e) (he : e ≤ l.length) (hno : ∀ k : Nat, i + 2 ≤ k → k < e → rd l (k : Int) ≠ 10) (hend : e = l.length ∨ rd l (e : Int) = 10) (hR : Run l e (acc ++ (cutp l i e).map wh) fin) (N : Act → World → Prop) (hn : ∀ (a' : Act) (w' : World) (i' : Nat) (acc' : List Int) (vd' : Value), i < i' → i' ≤ l.length + 1 → Fr (.slice (some ⟨g, 0, none⟩) l.length c) vd' ((i' : Int) - 1) a' → Run l i' acc' fin → acc'.length ≤ i' → Mk w w' vd' acc' → N a' w') :
    sp1.wp Try.prog (Exit.inBlock 1 (QS N)) a wr := by
  have HROW := Aside0.mk hrow
  have HMK := Aside0.mk hmk
  have HN := Aside0.mk hn
  obtain ⟨f4, hf, ha⟩ := frame_lit a hfr.size hfr.defers
  have e0_ := (hf 0).trans hfr.e0
  have e1_ := (hf 1).trans hfr.e1
  have e5_ := (hf 5).trans hfr.e5
  rw [e0_, e1_, e5_] at ha
  subst ha
  clear hf e0_ e1_ e5_ hfr
  clear hrow hmk hn
  have hx := HROW.out.at_ HMK.out.bel i hil
  have p1 : ((i : Int) < (l.length : Int)) = True := eq_true (by omega)
  have p1n : (i < l.length) = True := eq_true hil
  have b1 : (i : Int) ≤ 1000000 := by omega
  unfold sp1
  conv => arg 2; whnf
  have HR := Aside0.mk hR
  have HAL := Aside0.mk hal
  have HE : Aside0 (i + 2 ≤ e ∧ e ≤ l.length) := ⟨by omega, he⟩
  have HEE := Aside0.mk hend
  have HNO := Aside0.mk hno
  clear hend hno
  have i1 : i + 1 < l.length := by omega
  have hx1 := HROW.out.at_ HMK.out.bel (i + 1) i1
  rw [h47] at hx
  rw [hb] at hx1
  have p2 : ((i : Int) < (l.length : Int) - 1) = True := eq_true (by omega)
  have p3 : ((i : Int) + 1 < (l.length : Int)) = True := eq_true (by omega)
  have p3n : (i + 1 < l.length) = True := eq_true i1
  have p3m : (0 ≤ (i : Int) + 1) = True := eq_true (by omega)
  have HC2 : Aside0 ((cutp l i (i + 2)).map wh = [32, 32]) := ⟨by rw [cutp_head2 (by omega), h47, hb]; rfl⟩
  clear h47 hR hal hal0 h2 he i1
  have b2 : (l.length : Int) ≤ 1000000 := by omega
  go_upto_block 2 with (at_builtin; refine append_lits (w0 := w) w.heap.size rfl (.tmp 32) (.tmp 33) 27 5 rfl Try.underlying27 info8 _ acc [32, 32] (by simp) rfl rfl ?aO1 ?aB1 ?aS1 ?aL1 ?_; (case aO1 => exact HMK.out.own); (case aB1 => exact HMK.out.bel); (case aS1 => exact HMK.out.bel.size); (case aL1 => (have := HAL.out; omega)); intro v1 w1 ho hb; have M1 := Aside0.mk (Mk.mk ho hb); clear ho hb)
  clear hx hx1 p1 p1n p2 p3 p3n p3m b1 hb
  refine wp_block ?_
  refine wp_loop_ghost_k (fun kq a' w' => ∃ (k : Nat) (acc' : List Int) (vd' : Value), k + kq = e - 0 ∧ i + 2 ≤ k ∧ Fr (.slice (some ⟨g, 0, none⟩) l.length c) vd' (k : Int) a' ∧ Aside0 (acc' = acc ++ (cutp l i k).map wh ∧ Mk w w' vd' acc')) (e - 0 - (i + 2)) ?_ ?_
  · exact ⟨i + 2, _, _, by have := HE.out; omega, Nat.le_refl _, ⟨rfl, rfl, rfl, rfl, vint (by first | omega | (unfold wrap64; omega) | (push_cast; omega))⟩, ⟨by rw [HC2.out], M1.out⟩⟩
  rintro n a2 w2 ⟨k, acc2, vd2, hk, hik, hfr, HM2⟩ J2 K2 hJ2 hK2
  obtain ⟨f5, hf, ha⟩ := frame_lit a2 hfr.size hfr.defers
  have e0_ := (hf 0).trans hfr.e0
  have e1_ := (hf 1).trans hfr.e1
  have e5_ := (hf 5).trans hfr.e5
  rw [e0_, e1_, e5_] at ha
  subst ha
  clear hf e0_ e1_ e5_ hfr
  have HK : Aside0 (k + n = e - 0 ∧ i + 2 ≤ k) := ⟨hk, hik⟩
  have HLEN : Aside0 (acc2.length ≤ 1000000 ∧ acc2.length ≤ k) := ⟨by
    rw [HM2.out.1, List.length_append, List.length_map, cutp_len (by have := HE.out; omega) (by omega)]
    have := HAL.out; have := HE.out; omega⟩
  have kb : (k : Int) ≤ 1000000 := by have := HE.out; omega
  by_cases hke : k = e
  · subst hke
    rcases HEE.out with hl2 | h10
    · have p4 : ((k : Int) < (l.length : Int)) = False := eq_false (by omega)
      clear hk hik
      go_wp2
      have hfin := run_long HR.out (Nat.le_of_eq hl2.symm)
      exact HN.out _ _ (k + 1) acc2 _ (by have := HK.out; omega) (by have := HE.out; omega) ⟨rfl, rfl, rfl, rfl, vint (by first | omega | (unfold wrap64; omega))⟩ (by rw [hfin, ← HM2.out.1]; exact Run.stop _ _ (by omega)) (by have := HLEN.out; omega) HM2.out.2
    · have hkl : k < l.length := rdlt h10 (by decide)
      have p4 : ((k : Int) < (l.length : Int)) = True := eq_true (by omega)
      have p4n : (k < l.length) = True := eq_true hkl
      have hx := HROW.out.at_ HM2.out.2.bel k hkl
      rw [h10] at hx
      clear hk hik
      go_wp2_with (at_builtin; refine print_append_num (w0 := w) w.heap.size rfl (.tmp 48) (.tmp 49) 27 5 .u8 1 rfl Try.underlying27 info8 (by omega) _ acc2 10 rfl rfl ?aO3 ?aB3 ?aS3 ?aL3 ?_; (case aO3 => exact HM2.out.2.own); (case aB3 => exact HM2.out.2.bel); (case aS3 => exact HM2.out.2.bel.size); (case aL3 => have := HLEN.out; omega); intro v3 w3 ho hb hg hat; have M3 := Aside0.mk (Mk.mk ho hb); clear ho hb hg hat)
      have hR3 := run_lf HR.out h10 hkl
      rw [← HM2.out.1] at hR3
      exact HN.out _ _ (k + 1) _ _ (by have := HK.out; omega) (by have := HE.out; omega) ⟨rfl, rfl, rfl, rfl, vint (by first | omega | (unfold wrap64; omega))⟩ hR3 (by have := HLEN.out; simp; omega) M3.out
  · have hkl : k < l.length := by have := HE.out; omega
    have HKL := Aside0.mk hkl
    have HN0 : Aside0 (0 < n) := ⟨by omega⟩
    have p4 : ((k : Int) < (l.length : Int)) = True := eq_true (by omega)
    have p4n : (k < l.length) = True := eq_true hkl
    have hx := HROW.out.at_ HM2.out.2.bel k hkl
    have h10 := HNO.out k hik (by omega)
    obtain ⟨x, hxx⟩ : ∃ x, rd l (k : Int) = x := ⟨_, rfl⟩
    rw [hxx] at hx h10
    have HXX := Aside0.mk hxx
    have e10 : (x == 10) = false := beq_eq_false_iff_ne.mpr h10
    clear hk hik hkl hke hxx
    by_cases c9 : x = 9
    · have e9 : (x == 9) = true := beq_iff_eq.mpr c9
      clear h10
      go_wp2_with (at_builtin; refine print_append_num (w0 := w) w.heap.size rfl (.tmp 63) (.tmp 68) 27 5 .u8 1 rfl Try.underlying27 info8 (by omega) _ acc2 9 rfl rfl ?aO3 ?aB3 ?aS3 ?aL3 ?_; (case aO3 => exact HM2.out.2.own); (case aB3 => exact HM2.out.2.bel); (case aS3 => exact HM2.out.2.bel.size); (case aL3 => have := HLEN.out; omega); intro v3 w3 ho hb hg hat; have M3 := Aside0.mk (Mk.mk ho hb); clear ho hb hg hat)
      refine Handed.intro (n - 1) (by have := HN0.out; omega) (hJ2 _ _ _ ?_)
      exact ⟨k + 1, _, _, by have := HK.out; have := HN0.out; omega, by have := HK.out; omega, ⟨rfl, rfl, rfl, rfl, vint (by first | omega | (unfold wrap64; omega))⟩, ⟨by rw [cutp_snoc (by have := HK.out; omega) HKL.out, List.map_append, ← List.append_assoc, ← HM2.out.1, HXX.out, c9, List.map_singleton, show wh 9 = 9 from rfl] <;> rfl, M3.out⟩⟩
    · have e9 : (x == 9) = false := beq_eq_false_iff_ne.mpr c9
      by_cases c13 : x = 13
      · have e13 : (x == 13) = true := beq_iff_eq.mpr c13
        go_wp2_with (at_builtin; refine print_append_num (w0 := w) w.heap.size rfl (.tmp 63) (.tmp 68) 27 5 .u8 1 rfl Try.underlying27 info8 (by omega) _ acc2 13 rfl rfl ?aO3 ?aB3 ?aS3 ?aL3 ?_; (case aO3 => exact HM2.out.2.own); (case aB3 => exact HM2.out.2.bel); (case aS3 => exact HM2.out.2.bel.size); (case aL3 => have := HLEN.out; omega); intro v3 w3 ho hb hg hat; have M3 := Aside0.mk (Mk.mk ho hb); clear ho hb hg hat)
        refine Handed.intro (n - 1) (by have := HN0.out; omega) (hJ2 _ _ _ ?_)
        exact ⟨k + 1, _, _, by have := HK.out; have := HN0.out; omega, by have := HK.out; omega, ⟨rfl, rfl, rfl, rfl, vint (by first | omega | (unfold wrap64; omega))⟩, ⟨by rw [cutp_snoc (by have := HK.out; omega) HKL.out, List.map_append, ← List.append_assoc, ← HM2.out.1, HXX.out, c13, List.map_singleton, show wh 13 = 13 from rfl] <;> rfl, M3.out⟩⟩
      · have e13 : (x == 13) = false := beq_eq_false_iff_ne.mpr c13
        go_wp2_with (at_builtin; refine print_append_num (w0 := w) w.heap.size rfl (.tmp 70) (.tmp 71) 27 5 .u8 1 rfl Try.underlying27 info8 (by omega) _ acc2 32 rfl rfl ?aO3 ?aB3 ?aS3 ?aL3 ?_; (case aO3 => exact HM2.out.2.own); (case aB3 => exact HM2.out.2.bel); (case aS3 => exact HM2.out.2.bel.size); (case aL3 => have := HLEN.out; omega); intro v3 w3 ho hb hg hat; have M3 := Aside0.mk (Mk.mk ho hb); clear ho hb hg hat)
        refine Handed.intro (n - 1) (by have := HN0.out; omega) (hJ2 _ _ _ ?_)
        exact ⟨k + 1, _, _, by have := HK.out; have := HN0.out; omega, by have := HK.out; omega, ⟨rfl, rfl, rfl, rfl, vint (by first | omega | (unfold wrap64; omega))⟩, ⟨by rw [cutp_snoc (by have := HK.out; omega) HKL.out, List.map_append, ← List.append_assoc, ← HM2.out.1, HXX.out, List.map_singleton, wh_other h10 c9 c13] <;> rfl, M3.out⟩⟩
set_option maxHeartbeats 16000000 in
set_option maxRecDepth 100000 in
theorem arm_block (g c : Nat) (l fin : List Int) (w : World) (hrow : Row w g l) (hl : l.length ≤ 1000000) (wr : World) (a : Act) (i : Nat) (acc : List Int) (vd : Value) (hfr : Fr (.slice (some ⟨g, 0, none⟩) l.length c) vd (i : Int) a) (hil : i < l.length) (hal : acc.length ≤ i) (hmk : Mk w wr vd acc) (h47 : rd l (i : Int) = 47) (hb : rd l ((i + 1 : Nat) : Int) = 42) (hal0 : acc.length ≤ i) (e : Nat) (h2 : i + 4 ≤ e) (he : e ≤ l.length) (hno : ∀ k : Nat, i + 2 ≤ k → k + 2 < e → ¬ (rd l (k : Int) = 42 ∧ rd l ((k + 1 : Nat) : Int) = 47)) (hend : rd l ((e - 2 : Nat) : Int) = 42 ∧ rd l ((e - 1 : Nat) : Int) = 47) (hR : Run l e (acc ++ (cutp l i e).map wh) fin) (N : Act → World → Prop) (hn : ∀ (a' : Act) (w' : World) (i' : Nat) (acc' : List Int) (vd' : Value), i < i' → i' ≤ l.length + 1 → Fr (.slice (some ⟨g, 0, none⟩) l.length c) vd' ((i' : Int) - 1) a' → Run l i' acc' fin → acc'.length ≤ i' → Mk w w' vd' acc' → N a' w') :
    sp1.wp Try.prog (Exit.inBlock 1 (QS N)) a wr := by
  have HROW := Aside0.mk hrow
  have HMK := Aside0.mk hmk
  have HN := Aside0.mk hn
  obtain ⟨f6, hf, ha⟩ := frame_lit a hfr.size hfr.defers
  have e0_ := (hf 0).trans hfr.e0
  have e1_ := (hf 1).trans hfr.e1
  have e5_ := (hf 5).trans hfr.e5
  rw [e0_, e1_, e5_] at ha
  subst ha
  clear hf e0_ e1_ e5_ hfr
  clear hrow hmk hn
  have hx := HROW.out.at_ HMK.out.bel i hil
  have p1 : ((i : Int) < (l.length : Int)) = True := eq_true (by omega)
  have p1n : (i < l.length) = True := eq_true hil
  have b1 : (i : Int) ≤ 1000000 := by omega
  unfold sp1
  conv => arg 2; whnf
  have HR := Aside0.mk hR
  have HAL := Aside0.mk hal
  have HE : Aside0 (i + 2 ≤ e ∧ e ≤ l.length) := ⟨by omega, he⟩
  have HE4 : Aside0 (i + 4 ≤ e) := ⟨h2⟩
  have HEE := Aside0.mk hend
  have HNO := Aside0.mk hno
  clear hend hno
  have i1 : i + 1 < l.length := by omega
  have hx1 := HROW.out.at_ HMK.out.bel (i + 1) i1
  rw [h47] at hx
  rw [hb] at hx1
  have p2 : ((i : Int) < (l.length : Int) - 1) = True := eq_true (by omega)
  have p3 : ((i : Int) + 1 < (l.length : Int)) = True := eq_true (by omega)
  have p3n : (i + 1 < l.length) = True := eq_true i1
  have p3m : (0 ≤ (i : Int) + 1) = True := eq_true (by omega)
  have HC2 : Aside0 ((cutp l i (i + 2)).map wh = [32, 32]) := ⟨by rw [cutp_head2 (by omega), h47, hb]; rfl⟩
  clear h47 hR hal hal0 h2 he i1
  have b2 : (l.length : Int) ≤ 1000000 := by omega
  go_upto_block 4 with (at_builtin; refine append_lits (w0 := w) w.heap.size rfl (.tmp 79) (.tmp 80) 27 5 rfl Try.underlying27 info8 _ acc [32, 32] (by simp) rfl rfl ?aO1 ?aB1 ?aS1 ?aL1 ?_; (case aO1 => exact HMK.out.own); (case aB1 => exact HMK.out.bel); (case aS1 => exact HMK.out.bel.size); (case aL1 => (have := HAL.out; omega)); intro v1 w1 ho hb; have M1 := Aside0.mk (Mk.mk ho hb); clear ho hb)
  clear hx hx1 p1 p1n p2 p3 p3n p3m b1 hb
  refine wp_block ?_
  refine wp_loop_ghost_k (fun kq a' w' => ∃ (k : Nat) (acc' : List Int) (vd' : Value), k + kq = e - 2 ∧ i + 2 ≤ k ∧ Fr (.slice (some ⟨g, 0, none⟩) l.length c) vd' (k : Int) a' ∧ Aside0 (acc' = acc ++ (cutp l i k).map wh ∧ Mk w w' vd' acc')) (e - 2 - (i + 2)) ?_ ?_
  · exact ⟨i + 2, _, _, by have := HE.out; have := HE4.out; omega, Nat.le_refl _, ⟨rfl, rfl, rfl, rfl, vint (by first | omega | (unfold wrap64; omega) | (push_cast; omega))⟩, ⟨by rw [HC2.out], M1.out⟩⟩
  rintro n a2 w2 ⟨k, acc2, vd2, hk, hik, hfr, HM2⟩ J2 K2 hJ2 hK2
  obtain ⟨f7, hf, ha⟩ := frame_lit a2 hfr.size hfr.defers
  have e0_ := (hf 0).trans hfr.e0
  have e1_ := (hf 1).trans hfr.e1
  have e5_ := (hf 5).trans hfr.e5
  rw [e0_, e1_, e5_] at ha
  subst ha
  clear hf e0_ e1_ e5_ hfr
  have HK : Aside0 (k + n = e - 2 ∧ i + 2 ≤ k) := ⟨hk, hik⟩
  have HLEN : Aside0 (acc2.length ≤ 1000000 ∧ acc2.length ≤ k) := ⟨by
    rw [HM2.out.1, List.length_append, List.length_map, cutp_len (by have := HE.out; omega) (by omega)]
    have := HAL.out; have := HE.out; omega⟩
  have kb : (k : Int) ≤ 1000000 := by have := HE.out; omega
  have p4 : ((k : Int) < (l.length : Int) - 1) = True := eq_true (by have := HE.out; have := HE4.out; omega)
  have hkl : k < l.length := by have := HE.out; have := HE4.out; omega
  have hkl1 : k + 1 < l.length := by have := HE.out; have := HE4.out; omega
  have HKL := Aside0.mk hkl
  have p5 : ((k : Int) < (l.length : Int)) = True := eq_true (by omega)
  have p5n : (k < l.length) = True := eq_true hkl
  have p6 : ((k : Int) + 1 < (l.length : Int)) = True := eq_true (by omega)
  have p6n : (k + 1 < l.length) = True := eq_true hkl1
  have p7 : (0 ≤ (k : Int) + 1) = True := eq_true (by omega)
  have hx := HROW.out.at_ HM2.out.2.bel k hkl
  have hx1 := HROW.out.at_ HM2.out.2.bel (k + 1) hkl1
  by_cases hke : n = 0
  · obtain rfl : k = e - 2 := by omega
    have he1 : e - 2 + 1 = e - 1 := by have := HE4.out; omega
    rw [HEE.out.1] at hx
    rw [he1, HEE.out.2] at hx1
    rw [← he1] at hx1
    have HE1 := Aside0.mk he1
    clear hk hik hkl hkl1 he1 hke
    generalize hke : e - 2 = k at *
    have HKE := Aside0.mk hke
    clear hke
    go_wp2_with (at_builtin; refine append_lits (w0 := w) w.heap.size rfl (.tmp 104) (.tmp 105) 27 5 rfl Try.underlying27 info8 _ acc2 [32, 32] (by simp) rfl rfl ?aO3 ?aB3 ?aS3 ?aL3 ?_; (case aO3 => exact HM2.out.2.own); (case aB3 => exact HM2.out.2.bel); (case aS3 => exact HM2.out.2.bel.size); (case aL3 => (have := HLEN.out; omega)); intro v3 w3 ho hb; have M3 := Aside0.mk (Mk.mk ho hb); clear ho hb)
    refine HN.out _ _ e _ _ (by have := HE4.out; omega) (by have := HE.out; omega) ⟨rfl, rfl, rfl, rfl, vint (by have := HE4.out; have := HKE.out; first | omega | (unfold wrap64; omega))⟩ HR.out ?_ ?_
    · rw [List.length_append, List.length_map, cutp_len HE.out.2 (by have := HE.out; omega)]
      have := HAL.out; have := HE.out; omega
    · rw [show e = k + 1 + 1 by have := HE4.out; have := HKE.out; omega, cutp_snoc (by have := HE4.out; have := HKE.out; omega) (by have := HE.out; have := HKE.out; have := HE4.out; omega), cutp_snoc (by have := HE4.out; have := HKE.out; omega) HKL.out, HEE.out.1, HE1.out, HEE.out.2, List.map_append, List.map_append, List.append_assoc]
      have h3 := M3.out
      rw [HM2.out.1, List.append_assoc] at h3
      exact h3
  · have HN0 : Aside0 (0 < n) := ⟨by omega⟩
    have hno1 := HNO.out k hik (by omega)
    obtain ⟨x, hxx⟩ : ∃ x, rd l (k : Int) = x := ⟨_, rfl⟩
    rw [hxx] at hx hno1
    have HXX := Aside0.mk hxx
    clear hk hik hkl hkl1 hke hxx
    by_cases c42 : x = 42
    · have e42 : (x == 42) = true := beq_iff_eq.mpr c42
      obtain ⟨y, hyy⟩ : ∃ y, rd l ((k + 1 : Nat) : Int) = y := ⟨_, rfl⟩
      rw [hyy] at hx1 hno1
      have e47 : (y == 47) = false := beq_eq_false_iff_ne.mpr fun h => hno1 ⟨c42, h⟩
      have e10 : (x == 10) = false := beq_eq_false_iff_ne.mpr (by omega)
      have e9 : (x == 9) = false := beq_eq_false_iff_ne.mpr (by omega)
      have e13 : (x == 13) = false := beq_eq_false_iff_ne.mpr (by omega)
      clear hyy hno1
      go_wp2_with (at_builtin; refine print_append_num (w0 := w) w.heap.size rfl (.tmp 135) (.tmp 136) 27 5 .u8 1 rfl Try.underlying27 info8 (by omega) _ acc2 32 rfl rfl ?aO3 ?aB3 ?aS3 ?aL3 ?_; (case aO3 => exact HM2.out.2.own); (case aB3 => exact HM2.out.2.bel); (case aS3 => exact HM2.out.2.bel.size); (case aL3 => have := HLEN.out; omega); intro v3 w3 ho hb hg hat; have M3 := Aside0.mk (Mk.mk ho hb); clear ho hb hg hat)
      refine Handed.intro (n - 1) (by have := HN0.out; omega) (hJ2 _ _ _ ?_)
      exact ⟨k + 1, _, _, by have := HK.out; have := HN0.out; omega, by have := HK.out; omega, ⟨rfl, rfl, rfl, rfl, vint (by first | omega | (unfold wrap64; omega))⟩, ⟨by rw [cutp_snoc (by have := HK.out; omega) HKL.out, List.map_append, ← List.append_assoc, ← HM2.out.1, HXX.out, List.map_singleton, wh_other (by omega) (by omega) (by omega)] <;> rfl, M3.out⟩⟩
    · have e42 : (x == 42) = false := beq_eq_false_iff_ne.mpr c42
      clear hno1
      by_cases c10 : x = 10
      · have e10 : (x == 10) = true := beq_iff_eq.mpr c10
        go_wp2_with (at_builtin; refine print_append_num (w0 := w) w.heap.size rfl (.tmp 128) (.tmp 133) 27 5 .u8 1 rfl Try.underlying27 info8 (by omega) _ acc2 10 rfl rfl ?aO3 ?aB3 ?aS3 ?aL3 ?_; (case aO3 => exact HM2.out.2.own); (case aB3 => exact HM2.out.2.bel); (case aS3 => exact HM2.out.2.bel.size); (case aL3 => have := HLEN.out; omega); intro v3 w3 ho hb hg hat; have M3 := Aside0.mk (Mk.mk ho hb); clear ho hb hg hat)
        refine Handed.intro (n - 1) (by have := HN0.out; omega) (hJ2 _ _ _ ?_)
        exact ⟨k + 1, _, _, by have := HK.out; have := HN0.out; omega, by have := HK.out; omega, ⟨rfl, rfl, rfl, rfl, vint (by first | omega | (unfold wrap64; omega))⟩, ⟨by rw [cutp_snoc (by have := HK.out; omega) HKL.out, List.map_append, ← List.append_assoc, ← HM2.out.1, HXX.out, c10, List.map_singleton, wh_10] <;> rfl, M3.out⟩⟩
      · have e10 : (x == 10) = false := beq_eq_false_iff_ne.mpr c10
        by_cases c9 : x = 9
        · have e9 : (x == 9) = true := beq_iff_eq.mpr c9
          go_wp2_with (at_builtin; refine print_append_num (w0 := w) w.heap.size rfl (.tmp 128) (.tmp 133) 27 5 .u8 1 rfl Try.underlying27 info8 (by omega) _ acc2 9 rfl rfl ?aO3 ?aB3 ?aS3 ?aL3 ?_; (case aO3 => exact HM2.out.2.own); (case aB3 => exact HM2.out.2.bel); (case aS3 => exact HM2.out.2.bel.size); (case aL3 => have := HLEN.out; omega); intro v3 w3 ho hb hg hat; have M3 := Aside0.mk (Mk.mk ho hb); clear ho hb hg hat)
          refine Handed.intro (n - 1) (by have := HN0.out; omega) (hJ2 _ _ _ ?_)
          exact ⟨k + 1, _, _, by have := HK.out; have := HN0.out; omega, by have := HK.out; omega, ⟨rfl, rfl, rfl, rfl, vint (by first | omega | (unfold wrap64; omega))⟩, ⟨by rw [cutp_snoc (by have := HK.out; omega) HKL.out, List.map_append, ← List.append_assoc, ← HM2.out.1, HXX.out, c9, List.map_singleton, show wh 9 = 9 from rfl] <;> rfl, M3.out⟩⟩
        · have e9 : (x == 9) = false := beq_eq_false_iff_ne.mpr c9
          by_cases c13 : x = 13
          · have e13 : (x == 13) = true := beq_iff_eq.mpr c13
            go_wp2_with (at_builtin; refine print_append_num (w0 := w) w.heap.size rfl (.tmp 128) (.tmp 133) 27 5 .u8 1 rfl Try.underlying27 info8 (by omega) _ acc2 13 rfl rfl ?aO3 ?aB3 ?aS3 ?aL3 ?_; (case aO3 => exact HM2.out.2.own); (case aB3 => exact HM2.out.2.bel); (case aS3 => exact HM2.out.2.bel.size); (case aL3 => have := HLEN.out; omega); intro v3 w3 ho hb hg hat; have M3 := Aside0.mk (Mk.mk ho hb); clear ho hb hg hat)
            refine Handed.intro (n - 1) (by have := HN0.out; omega) (hJ2 _ _ _ ?_)
            exact ⟨k + 1, _, _, by have := HK.out; have := HN0.out; omega, by have := HK.out; omega, ⟨rfl, rfl, rfl, rfl, vint (by first | omega | (unfold wrap64; omega))⟩, ⟨by rw [cutp_snoc (by have := HK.out; omega) HKL.out, List.map_append, ← List.append_assoc, ← HM2.out.1, HXX.out, c13, List.map_singleton, show wh 13 = 13 from rfl] <;> rfl, M3.out⟩⟩
          · have e13 : (x == 13) = false := beq_eq_false_iff_ne.mpr c13
            go_wp2_with (at_builtin; refine print_append_num (w0 := w) w.heap.size rfl (.tmp 135) (.tmp 136) 27 5 .u8 1 rfl Try.underlying27 info8 (by omega) _ acc2 32 rfl rfl ?aO3 ?aB3 ?aS3 ?aL3 ?_; (case aO3 => exact HM2.out.2.own); (case aB3 => exact HM2.out.2.bel); (case aS3 => exact HM2.out.2.bel.size); (case aL3 => have := HLEN.out; omega); intro v3 w3 ho hb hg hat; have M3 := Aside0.mk (Mk.mk ho hb); clear ho hb hg hat)
            refine Handed.intro (n - 1) (by have := HN0.out; omega) (hJ2 _ _ _ ?_)
            exact ⟨k + 1, _, _, by have := HK.out; have := HN0.out; omega, by have := HK.out; omega, ⟨rfl, rfl, rfl, rfl, vint (by first | omega | (unfold wrap64; omega))⟩, ⟨by rw [cutp_snoc (by have := HK.out; omega) HKL.out, List.map_append, ← List.append_assoc, ← HM2.out.1, HXX.out, List.map_singleton, wh_other c10 c9 c13] <;> rfl, M3.out⟩⟩
end Go.Proofs.Ytlllokmipeoelaa.Pr
end
section
namespace Go.Proofs.Ytlllokmipeoelaa.Pr
open Go.RowKit Go.Proofs.YtlllokmipeoelaaW.PrintWords Go.Proofs.YtlllokmipeoelaaW.PrintLast Go.Proofs.YtlllokmipeoelaaW.PrintMore
attribute [local go_sem] max2_int min2_int max_two min_two max_three min_three max_four min_four
set_option linter.unusedVariables false
set_option linter.unusedSimpArgs false
theorem cutp_str {l : List Int} {i m : Nat} (h34 : rd l (i : Int) = 34) (hi : i < l.length) : cutp l i (i + 1 + m) = 34 :: (l.drop (i + 1)).take m := by
  unfold cutp
  rw [show i + 1 + m - i = m + 1 by omega, List.drop_eq_getElem_cons hi, List.take_succ_cons]
  congr 1
  rw [← h34]
  unfold rd
  simp only [Int.toNat_natCast, List.getD_eq_getElem?_getD]
  rw [List.getElem?_eq_getElem hi]
  rfl
theorem cutp_one {l : List Int} {i : Nat} (hi : i < l.length) : cutp l i (i + 1) = [rd l (i : Int)] := by
  rw [cutp_snoc (Nat.le_refl _) hi, cutp_self]
  rfl
theorem rd_drop' (l : List Int) (i j : Nat) : rd (l.drop i) (j : Int) = rd l ((i + j : Nat) : Int) := by
  unfold rd
  simp only [Int.toNat_natCast, List.getD_eq_getElem?_getD, List.getElem?_drop]
theorem par_rem (t : Nat) : ((-((t : Int) + 1)).tmod 2 != 0) = decide (t % 2 = 0) := by
  rw [Int.neg_tmod, Int.tmod_eq_emod_of_nonneg (by omega)]
  by_cases h : t % 2 = 0
  · rw [decide_eq_true h]
    exact bne_iff_ne.mpr (by omega)
  · rw [decide_eq_false h]
    exact bne_eq_false_iff_eq.mpr (by omega)
/-- Where the string ends. -/
structure Clo (l : List Int) (i E : Nat) : Prop where
  gt : i + 1 ≤ E
  lt : E < l.length
  at_ : rd l (E : Int) = 34
  even : StrEnd.escd l E = false
  first : ∀ j, i + 1 ≤ j → j < E → rd l (j : Int) = 34 → StrEnd.escd l j = true
theorem clo_of {l : List Int} {i m : Nat} (h34 : rd l (i : Int) = 34) (hq : Fj.quo (l.drop (i + 1)) = some m) : Clo l i (i + m) := by
  obtain ⟨q, rfl, hE⟩ := quo_ends _ _ _ (Nat.le_refl _) hq
  have hlt := hE.lt
  rw [List.length_drop] at hlt
  have e1 := escd_drop (l := l) (i := i) (by omega)
  rw [show i + (q + 1) = i + 1 + q by omega]
  refine ⟨by omega, by omega, by rw [← rd_drop']; exact hE.at_, by rw [e1]; exact hE.even, fun j h1 h2 h3 => ?_⟩
  obtain ⟨p, rfl⟩ : ∃ p, j = i + 1 + p := ⟨j - (i + 1), by omega⟩
  rw [e1]
  exact hE.first p (by omega) (by rw [rd_drop']; exact h3)
set_option maxHeartbeats 16000000 in
set_option maxRecDepth 100000 in
theorem arm_str (g c : Nat) (l fin : List Int) (w : World) (hrow : Row w g l) (hl : l.length ≤ 1000000) (wr : World) (a : Act) (i : Nat) (acc : List Int) (vd : Value) (hfr : Fr (.slice (some ⟨g, 0, none⟩) l.length c) vd (i : Int) a) (hil : i < l.length) (hal : acc.length ≤ i) (hmk : Mk w wr vd acc) (h34 : rd l (i : Int) = 34) (E : Nat) (hE : Clo l i E) (hR : Run l (E + 1) (acc ++ cutp l i (E + 1)) fin) (N : Act → World → Prop) (hn : ∀ (a' : Act) (w' : World) (i' : Nat) (acc' : List Int) (vd' : Value), i < i' → i' ≤ l.length + 1 → Fr (.slice (some ⟨g, 0, none⟩) l.length c) vd' ((i' : Int) - 1) a' → Run l i' acc' fin → acc'.length ≤ i' → Mk w w' vd' acc' → N a' w') :
    sp1.wp Try.prog (Exit.inBlock 1 (QS N)) a wr := by
  have HROW := Aside0.mk hrow
  have HMK := Aside0.mk hmk
  have HN := Aside0.mk hn
  obtain ⟨f8, hf, ha⟩ := frame_lit a hfr.size hfr.defers
  have e0_ := (hf 0).trans hfr.e0
  have e1_ := (hf 1).trans hfr.e1
  have e5_ := (hf 5).trans hfr.e5
  rw [e0_, e1_, e5_] at ha
  subst ha
  clear hf e0_ e1_ e5_ hfr
  clear hrow hmk hn
  have hx := HROW.out.at_ HMK.out.bel i hil
  have p1 : ((i : Int) < (l.length : Int)) = True := eq_true (by omega)
  have p1n : (i < l.length) = True := eq_true hil
  have b1 : (i : Int) ≤ 1000000 := by omega
  unfold sp1
  conv => arg 2; whnf
  have HR := Aside0.mk hR
  have HAL := Aside0.mk hal
  have HE := Aside0.mk hE
  have HX0 := Aside0.mk h34
  have HIL := Aside0.mk hil
  rw [h34] at hx
  have b2 : (l.length : Int) ≤ 1000000 := by omega
  clear h34 hE hR hal
  go_upto_block 6 with (at_builtin; refine print_append_num (w0 := w) w.heap.size rfl (.tmp 138) (.tmp 143) 27 5 .u8 1 rfl Try.underlying27 info8 (by omega) _ acc 34 rfl rfl ?aO1 ?aB1 ?aS1 ?aL1 ?_; (case aO1 => exact HMK.out.own); (case aB1 => exact HMK.out.bel); (case aS1 => exact HMK.out.bel.size); (case aL1 => have := HAL.out; omega); intro v1 w1 ho hb hg hat; have M1 := Aside0.mk (Mk.mk ho hb); clear ho hb hg hat; have hx1 := HROW.out.at_ M1.out.bel i HIL.out; rw [HX0.out] at hx1)
  clear hx hx1 p1 p1n b1
  refine wp_block ?_
  refine wp_loop_ghost_k (fun kq a' w' => ∃ (k : Nat) (acc' : List Int) (vd' : Value), k + kq = E ∧ i + 1 ≤ k ∧ Fr (.slice (some ⟨g, 0, none⟩) l.length c) vd' (k : Int) a' ∧ Aside0 (acc' = acc ++ cutp l i k ∧ Mk w w' vd' acc')) (E - (i + 1)) ?_ ?_
  · exact ⟨i + 1, _, _, by have := HE.out.gt; omega, Nat.le_refl _, ⟨rfl, rfl, rfl, rfl, vint (by first | omega | (unfold wrap64; omega) | (push_cast; omega))⟩, ⟨by rw [cutp_one hil, HX0.out], M1.out⟩⟩
  rintro n a2 w2 ⟨k, acc2, vd2, hk, hik, hfr, HM2⟩ J2 K2 hJ2 hK2
  obtain ⟨f9, hf, ha⟩ := frame_lit a2 hfr.size hfr.defers
  have e0_ := (hf 0).trans hfr.e0
  have e1_ := (hf 1).trans hfr.e1
  have e5_ := (hf 5).trans hfr.e5
  rw [e0_, e1_, e5_] at ha
  subst ha
  clear hf e0_ e1_ e5_ hfr
  have HK : Aside0 (k + n = E ∧ i + 1 ≤ k) := ⟨hk, hik⟩
  have HLEN : Aside0 (acc2.length ≤ 1000000 ∧ acc2.length ≤ k) := ⟨by
    rw [HM2.out.1, List.length_append, cutp_len (by have := HE.out.lt; omega) (by omega)]
    have := HAL.out; have := HE.out.lt; omega⟩
  have kb : (k : Int) ≤ 1000000 := by have := HE.out.lt; omega
  have hkl : k < l.length := by have := HE.out.lt; omega
  have HKL := Aside0.mk hkl
  have p4 : ((k : Int) < (l.length : Int)) = True := eq_true (by omega)
  have p4n : (k < l.length) = True := eq_true hkl
  have hx := HROW.out.at_ HM2.out.2.bel k hkl
  obtain ⟨x, hxx⟩ : ∃ x, rd l (k : Int) = x := ⟨_, rfl⟩
  rw [hxx] at hx
  have HXX := Aside0.mk hxx
  clear hk hik hxx
  go_upto_if 169 with (at_builtin; refine print_append_num (w0 := w) w.heap.size rfl (.tmp 158) (.tmp 163) 27 5 .u8 1 rfl Try.underlying27 info8 (by omega) _ acc2 x rfl rfl ?aO3 ?aB3 ?aS3 ?aL3 ?_; (case aO3 => exact HM2.out.2.own); (case aB3 => exact HM2.out.2.bel); (case aS3 => exact HM2.out.2.bel.size); (case aL3 => have := HLEN.out; omega); intro v3 w3 ho hb hg hat; have M3 := Aside0.mk (Mk.mk ho hb); clear ho hb hg hat; have hx3 := HROW.out.at_ M3.out.bel k HKL.out; rw [HXX.out] at hx3)
  refine wp_cond_split rfl ?_ ?_
  rotate_left
  · intro h
    have HLT : Aside0 (k < E) := ⟨by
      have h2 : x ≠ 34 := by intro e; rw [e] at h; cases h
      have h3 : k ≠ E := by rintro rfl; exact h2 (HXX.out.symm.trans HE.out.at_)
      have := HK.out; omega⟩
    clear h
    go_wp2
    refine Handed.intro (n - 1) (by have := HLT.out; have := HK.out; omega) (hJ2 _ _ _ ?_)
    exact ⟨k + 1, _, _, by have := HK.out; have := HLT.out; omega, by have := HK.out; omega, ⟨rfl, rfl, rfl, rfl, vint (by first | omega | (unfold wrap64; omega) | (push_cast; omega))⟩, ⟨by rw [cutp_snoc (by have := HK.out; omega) HKL.out, ← List.append_assoc, ← HM2.out.1, HXX.out], M3.out⟩⟩
  · intro h
    have hx34 : x = 34 := by simpa using h
    have HX34 := Aside0.mk hx34
    clear h hx34 hx hx3
    go_upto_block 8 with fail
    refine wp_block ?_
    refine wp_loop_ghost_k (fun kq a' w' => ∃ j : Nat, j = i + kq ∧ j + 1 ≤ k ∧ Fr (.slice (some ⟨g, 0, none⟩) l.length c) v3 (k : Int) a' ∧ a'.tmps.getD 6 undef = .int .i64 (j : Int) ∧ Aside0 (∀ u : Nat, j < u → u < k → rd l (u : Int) = 92) ∧ w' = w3) (k - 1 - i) ?_ ?_
    · exact ⟨k - 1, by have := HK.out; omega, by have := HK.out; omega, ⟨rfl, rfl, rfl, rfl, vint (by first | omega | (unfold wrap64; omega) | (push_cast; omega))⟩, vint (by have := HK.out; first | omega | (unfold wrap64; omega)), ⟨fun u h1 h2 => by omega⟩, rfl⟩
    rintro n4 a4 w4 ⟨j, hj, hjk, hfr, h6, hbs, rfl⟩ J4 K4 hJ4 hK4
    obtain ⟨f10, hf, ha⟩ := frame_lit a4 hfr.size hfr.defers
    have e0_ := (hf 0).trans hfr.e0
    have e1_ := (hf 1).trans hfr.e1
    have e5_ := (hf 5).trans hfr.e5
    have e6_ := (hf 6).trans h6
    rw [e0_, e1_, e5_, e6_] at ha
    subst ha
    clear hf e0_ e1_ e5_ e6_ hfr h6
    have hjl : j < l.length := by omega
    have HJ : Aside0 (j = i + n4 ∧ j + 1 ≤ k) := ⟨hj, hjk⟩
    have p5 : ((j : Int) < (l.length : Int)) = True := eq_true (by omega)
    have p5n : (j < l.length) = True := eq_true hjl
    have b5 : (j : Int) ≤ 1000000 := by omega
    have hy := HROW.out.at_ M3.out.bel j hjl
    obtain ⟨y, hyy⟩ : ∃ y, rd l (j : Int) = y := ⟨_, rfl⟩
    rw [hyy] at hy
    have HYY := Aside0.mk hyy
    clear hyy hj hjl
    by_cases c92 : y = 92
    · have e92 : (y != 92) = false := by rw [c92]; rfl
      have HJ1 : Aside0 (i < j) := ⟨by
        have h1 : j ≠ i := by rintro rfl; have := HX0.out; rw [HYY.out] at this; omega
        have := HJ.out; omega⟩
      have HBS : Aside0 (∀ u : Nat, j - 1 < u → u < k → rd l (u : Int) = 92) := ⟨fun u h1 h2 => by
        by_cases e : u = j
        · subst e; rw [HYY.out, c92]
        · exact hbs.out u (by omega) h2⟩
      clear c92 hjk
      go_wp2
      refine Handed.intro (n4 - 1) (by have := HJ.out; have := HJ1.out; omega) (hJ4 _ _ _ ?_)
      exact ⟨j - 1, by have := HJ.out; have := HJ1.out; omega, by have := HJ.out; omega, ⟨rfl, rfl, rfl, rfl, vint (by first | omega | (unfold wrap64; omega) | (push_cast; omega))⟩, vint (by have := HJ1.out; first | omega | (unfold wrap64; omega)), HBS, rfl⟩
    · have e92 : (y != 92) = true := bne_iff_ne.mpr c92
      have hpar := escd_back (l := l) (k - (j + 1)) (j + 1) fun u hu => hbs.out (j + 1 + u) (by omega) (by omega)
      rw [StrEnd.escd_not (by rw [HYY.out]; exact c92), Bool.xor_false, show j + 1 + (k - (j + 1)) = k by omega] at hpar
      clear c92 hbs
      have HD : Aside0 ((j : Int) - (k : Int) = -(((k - (j + 1) : Nat) : Int) + 1)) := ⟨by omega⟩
      have HPAR := Aside0.mk hpar
      clear hpar
      go_upto_if 183 with fail
      refine wp_cond_split rfl ?_ ?_
      · intro h
        rw [HD.out, par_rem] at h
        have hke : k = E := by
          refine Nat.le_antisymm (by have := HK.out; omega) (Nat.le_of_not_lt fun hlt => ?_)
          have h1 := HE.out.first k HK.out.2 hlt (by rw [HXX.out]; exact HX34.out)
          rw [HPAR.out] at h1
          have h2 := of_decide_eq_true h1
          have h3 := of_decide_eq_true h
          omega
        have HKE := Aside0.mk hke
        clear h hke
        go_wp2
        have hR := HR.out
        rw [← HKE.out, cutp_snoc (by have := HK.out; omega) HKL.out, ← List.append_assoc, ← HM2.out.1, HXX.out] at hR
        exact HN.out _ _ (k + 1) _ _ (by have := HK.out; omega) (by have := HKL.out; omega) ⟨rfl, rfl, rfl, rfl, vint (by first | omega | (unfold wrap64; omega) | (push_cast; omega))⟩ hR (by have := HLEN.out; simp; omega) M3.out
      · intro h
        rw [HD.out, par_rem] at h
        have HLT : Aside0 (k < E) := ⟨by
          refine Nat.lt_of_le_of_ne (by have := HK.out; omega) fun hke => ?_
          have h1 := HE.out.even
          rw [← hke, HPAR.out] at h1
          have h2 := of_decide_eq_false h1
          have h3 := of_decide_eq_false h
          omega⟩
        clear h
        go_wp2
        refine Handed.intro (n - 1) (by have := HLT.out; have := HK.out; omega) (hJ2 _ _ _ ?_)
        exact ⟨k + 1, _, _, by have := HK.out; have := HLT.out; omega, by have := HK.out; omega, ⟨rfl, rfl, rfl, rfl, vint (by first | omega | (unfold wrap64; omega) | (push_cast; omega))⟩, ⟨by rw [cutp_snoc (by have := HK.out; omega) HKL.out, ← List.append_assoc, ← HM2.out.1, HXX.out], M3.out⟩⟩
end Go.Proofs.Ytlllokmipeoelaa.Pr
end
section
namespace Go.Proofs.Ytlllokmipeoelaa.Pr
open Go.RowKit Go.Proofs.YtlllokmipeoelaaW.PrintWords Go.Proofs.YtlllokmipeoelaaW.PrintLast Go.Proofs.YtlllokmipeoelaaW.PrintMore
attribute [local go_sem] max2_int min2_int max_two min_two max_three min_three max_four min_four
set_option linter.unusedVariables false
set_option linter.unusedSimpArgs false
set_option maxHeartbeats 16000000 in
set_option maxRecDepth 100000 in
/-- pretty's spec makes what the trace says. -/
theorem spec_calls (g c : Nat) (l fin : List Int) (w : World) (hrow : Row w g l) (hl : l.length ≤ 1000000) (hrun : Run l 0 [] fin) :
    Calls Try.prog 18 #[.slice (some ⟨g, 0, none⟩) l.length c, .slice none 0 0] w fun e w' => ∃ v, e = .returned v ∧ Mk w w' v fin := by
  have HROW := Aside0.mk hrow
  have HRUN := Aside0.mk hrun
  clear hrow hrun
  go_enter Try.func18, Try.ntmps18
  go_upto_block 0 with fail
  refine wp_block ?_
  refine wp_loop_ghost_k (fun kq a' w' => ∃ (i : Nat) (acc : List Int) (vd : Value), i + kq = l.length + 1 ∧ Fr (.slice (some ⟨g, 0, none⟩) l.length c) vd (i : Int) a' ∧ Aside0 (Run l i acc fin ∧ acc.length ≤ i ∧ Mk w w' vd acc)) (l.length + 1) ?_ ?_
  · exact ⟨0, [], _, by omega, ⟨rfl, rfl, rfl, rfl, rfl⟩, ⟨HRUN.out, Nat.le_refl _, ⟨World.ownsRow_nil _ _ _ _, Below.refl _ _⟩⟩⟩
  rintro n a2 w2 ⟨i, acc, vd, hn, hfr, HS⟩ J2 K2 hJ2 hK2
  obtain ⟨f11, hf, ha⟩ := frame_lit a2 hfr.size hfr.defers
  have e0_ := (hf 0).trans hfr.e0
  have e1_ := (hf 1).trans hfr.e1
  have e5_ := (hf 5).trans hfr.e5
  rw [e0_, e1_, e5_] at ha
  subst ha
  clear hf e0_ e1_ e5_ hfr
  have HN := Aside0.mk hn
  have b1 : (i : Int) ≤ 1000001 := by omega
  by_cases hil : i < l.length
  · have p1 : ((i : Int) < (l.length : Int)) = True := eq_true (by omega)
    clear hn
    go_upto_block 1 with fail
    refine wp_mono (Q := QS (fun a' w' => ∃ (i' : Nat) (acc' : List Int) (vd' : Value), i < i' ∧ i' ≤ l.length + 1 ∧ Fr (.slice (some ⟨g, 0, none⟩) l.length c) vd' ((i' : Int) - 1) a' ∧ Aside0 (Run l i' acc' fin ∧ acc'.length ≤ i' ∧ Mk w w' vd' acc'))) (wp_block ?_) ?_
    · obtain ⟨hrun, hal, hmk⟩ := HS.out
      cases hrun with
      | stop _ _ h => omega
      | com _ _ _ e hc hR =>
        cases hc with
        | line h1 h2 h3 h4 h5 h6 => exact arm_line g c l fin w HROW.out hl _ _ i acc vd ⟨rfl, rfl, rfl, rfl, rfl⟩ hil hal hmk h1 h2 hal e h3 h4 h5 h6 hR _ (fun a' w' i' acc' vd' h1 h2 h3 h4 h5 h6 => ⟨i', acc', vd', h1, h2, h3, ⟨h4, h5, h6⟩⟩)
        | block h1 h2 h3 h4 h5 h6 h7 => exact arm_block g c l fin w HROW.out hl _ _ i acc vd ⟨rfl, rfl, rfl, rfl, rfl⟩ hil hal hmk h1 h2 hal e h3 h4 h7 ⟨h5, h6⟩ hR _ (fun a' w' i' acc' vd' h1 h2 h3 h4 h5 h6 => ⟨i', acc', vd', h1, h2, h3, ⟨h4, h5, h6⟩⟩)
      | str _ _ _ m h34 hq hR =>
        refine arm_str g c l fin w HROW.out hl _ _ i acc vd ⟨rfl, rfl, rfl, rfl, rfl⟩ hil hal hmk h34 (i + m) (clo_of h34 hq) ?_ _ (fun a' w' i' acc' vd' h1 h2 h3 h4 h5 h6 => ⟨i', acc', vd', h1, h2, h3, ⟨h4, h5, h6⟩⟩)
        rw [show i + m + 1 = i + 1 + m by omega, cutp_str h34 hil]
        exact hR
      | brk _ _ _ hc hR => exact arm_brk g c l fin w HROW.out hl _ _ i acc vd ⟨rfl, rfl, rfl, rfl, rfl⟩ hil hal hmk hc hR _ (fun a' w' i' acc' vd' h1 h2 h3 h4 h5 h6 => ⟨i', acc', vd', h1, h2, h3, ⟨h4, h5, h6⟩⟩)
      | oth _ _ _ _ h47 h34 h125 h93 hR => exact arm_oth g c l fin w HROW.out hl _ _ i acc vd ⟨rfl, rfl, rfl, rfl, rfl⟩ hil hal hmk h47 h34 h125 h93 hR _ (fun a' w' i' acc' vd' h1 h2 h3 h4 h5 h6 => ⟨i', acc', vd', h1, h2, h3, ⟨h4, h5, h6⟩⟩)
    · intro e a5 w5 hq
      cases e with
      | normal =>
        obtain ⟨i', acc', vd', h1, h2, hfr, HS5⟩ := hq
        obtain ⟨f12, hf, ha⟩ := frame_lit a5 hfr.size hfr.defers
        have e0_ := (hf 0).trans hfr.e0
        have e1_ := (hf 1).trans hfr.e1
        have e5_ := (hf 5).trans hfr.e5
        rw [e0_, e1_, e5_] at ha
        subst ha
        clear hf e0_ e1_ e5_ hfr
        have HI5 : Aside0 (i < i' ∧ i' ≤ l.length + 1) := ⟨h1, h2⟩
        have b5 : (i' : Int) ≤ 1000001 := by omega
        have b6 : 0 < (i' : Int) := by omega
        have e9 : (i' : Int) - 1 + 1 = (i' : Int) := by omega
        clear h1 h2 p1 b1
        go_wp2
        refine Handed.intro (l.length + 1 - i') (by have := HN.out; have := HI5.out; omega) (hJ2 _ _ _ ?_)
        exact ⟨i', acc', vd', by have := HI5.out; omega, ⟨rfl, rfl, rfl, rfl, vint (by first | omega | (unfold wrap64; omega))⟩, HS5⟩
      | _ => exact hq.elim
  · have p1 : ((i : Int) < (l.length : Int)) = False := eq_false (by omega)
    have hfin := run_long HS.out.1 (by omega)
    clear hn hil
    go_wp2
    go_ret
    exact ⟨_, rfl, by rw [hfin]; exact HS.out.2.2⟩
set_option maxHeartbeats 4000000 in
set_option maxRecDepth 100000 in
theorem Spec_calls (g c : Nat) (l fin : List Int) (w : World) (hrow : Row w g l) (hl : l.length ≤ 1000000) (hrun : Run l 0 [] fin) :
    Calls Try.prog 13 #[.slice (some ⟨g, 0, none⟩) l.length c] w fun e w' => ∃ v, e = .returned v ∧ Mk w w' v fin := by
  have HC := Aside0.mk (spec_calls g c l fin w hrow hl hrun)
  clear hrow hrun
  go_enter Try.func13, Try.ntmps13
  go_wp2_with (go_at_call 18; refine HC.out.mono ?_; rintro e w1 ⟨v, rfl, hm⟩; have HM := Aside0.mk hm; clear hm)
  go_ret
  exact ⟨_, rfl, HM.out⟩
theorem row_bytes (W : World) (s : ByteArray) (hs : s.size ≤ 9223372036854775807) : Row (Lib.bytesWorld W 5 s) W.heap.size (bytesOf s) := fun j hj => by
  rw [bytesOf_length] at hj
  obtain ⟨ad, e, hc⟩ := (bytes_reads W 5 s hs).2.2 (by omega)
  injection e with e
  subst e
  have := hc j hj
  rw [add_plain] at this
  rw [this]
  rfl
set_option maxHeartbeats 4000000 in
set_option maxRecDepth 100000 in
/-- impl.PrSpec makes what the trace says. -/
theorem prspec_calls (s : ByteArray) (fin : List Int) (w : World) (hs : s.size ≤ 1000000) (hrun : Run (bytesOf s) 0 [] fin) :
    Calls Try.prog 6 #[.string s] w fun e w' => e = .returned (.string (strOfNums fin)) ∧ Below w.heap.size w w' := by
  have kb := fun W => print_bytes (P := Try.prog) 9 27 5 Try.underlying9 Try.underlying27 Try.underlying5 s W
  have HC := Aside0.mk (Spec_calls w.heap.size (grownCap w s.size 0 5) (bytesOf s) fin (Lib.bytesWorld w 5 s) (row_bytes w s (by omega)) (by rw [bytesOf_length]; omega) hrun)
  rw [bytesOf_length] at HC
  have HB := Aside0.mk (bytes_below (Below.refl w.heap.size w) (Nat.le_refl _) 5 s)
  clear hrun
  go_enter Try.func6, Try.ntmps6
  go_wp2_with (go_at_call 13; refine HC.out.mono ?_; rintro e w1 ⟨v, rfl, hm⟩; have HM := Aside0.mk hm; have hcv := own_string (P := Try.prog) Try.underlying27 Try.underlying5 Try.underlying9 hm.own; clear hm)
  go_ret
  exact ⟨rfl, HB.out.trans (HM.out.bel.mono (by rw [Lib.bytesWorld_size]; omega))⟩
end Go.Proofs.Ytlllokmipeoelaa.Pr
end
section
-- Written by xprint.py of this session (a program that runs the kit's print and adds to it); Lean checks it.
namespace Go.Proofs.Ytlllokmipeoelaa.XFnPrSpec
open Go.RowKit Go.Proofs.YtlllokmipeoelaaW.PrintWords Go.Proofs.YtlllokmipeoelaaW.PrintLast Go.Proofs.YtlllokmipeoelaaW.PrintMore
attribute [local go_sem] max2_int min2_int max_two min_two max_three min_three max_four min_four   -- for this text's walks alone
set_option linter.unusedVariables false
set_option linter.unusedSimpArgs false
def errW : Option Int → Value
  | none => .nilIface
  | some c => .iface 0 (.int .i64 c)
theorem errW_none : errW none = .nilIface := rfl
theorem errW_some (c : Int) : errW (some c) = .iface 0 (.int .i64 c) := rfl
theorem info37 : (Try.prog.info? 37).map (fun i => (i.zero, i.size, i.bytes)) = some (some (.agg #[(.int .i64 0), (.int .i64 0), (.int .i64 0), (.slice none 0 0), (.slice none 0 0)]), 5, 72) := by kernel_rfl
theorem info46 : (Try.prog.info? 46).map (fun i => (i.zero, i.size, i.bytes)) = some (some (.agg #[(.int .i64 0), (.int .i64 0)]), 2, 16) := by kernel_rfl
-- the values' own types
/-! #### struct type 46 -/
structure S46 where
  f0 : Int
  f1 : Int
def z46 : S46 := ⟨(0 : Int), (0 : Int)⟩
def k46 : Kd S46 := Kd.iso (Kd.pair (Kd.int .i64) (Kd.int .i64)) (fun x : S46 => (x.f0, x.f1))
theorem k46_open {w : World} {x : S46} {cs : List Value} (h : k46.K w x cs) : cs = [.int .i64 x.f0, .int .i64 x.f1] := by
  obtain ⟨_, _, rfl, rfl, rfl⟩ := h
  exact rfl
theorem k46_mkM (w : World) (base : Nat) (ok : Nat → Prop) (x : S46)  : k46.M w base ok x [.int .i64 x.f0, .int .i64 x.f1] := ⟨[.int .i64 x.f0], [.int .i64 x.f1], rfl, rfl, rfl⟩
def rd_T46 (xs : List S46) (i : Int) : S46 := xs.getD i.toNat z46
theorem at_T46 {w : World} {A : Option Addr} {n : Nat} {xs : List S46} (h : Kd.C k46 w A n xs) (i : Int) (h0 : 0 ≤ i) (h1 : i < n) : ∃ ad , A = some ad ∧ w.cell? (ad.add (i.toNat * 2)) = some (.int .i64 (rd_T46 xs i).f0) ∧ w.cell? ⟨(ad.add (i.toNat * 2)).block, (ad.add (i.toNat * 2)).off + 1, none⟩ = some (.int .i64 (rd_T46 xs i).f1) := by
  obtain ⟨ad, c, e, _, hK, hc0⟩ := Kd.C_get h z46 i h0 h1
  have hc : ∀ j u, c[j]? = some u → w.cell? (ad.add (i.toNat * 2 + j)) = some u := hc0
  obtain rfl := k46_open hK
  exact ⟨ad, e, hc 0 _ rfl, by rw [← add_field _ _ 1 (by omega)]; exact hc 1 _ rfl⟩
/-! #### struct type 37, nested in itself -/
structure S37 where
  f0 : Int
  f1 : Int
  f2 : Int
  f3 : (List S46)
  f4 : (List S37)
def z37 : S37 := ⟨(0 : Int), (0 : Int), (0 : Int), ([] : List S46), ([] : List S37)⟩
def F37 (d : Kd S37) : Kd S37 := Kd.iso (Kd.pair (Kd.int .i64) (Kd.pair (Kd.int .i64) (Kd.pair (Kd.int .i64) (Kd.pair (Kd.slice 46 k46) (Kd.slice 37 d))))) (fun x : S37 => (x.f0, x.f1, x.f2, x.f3, x.f4))
theorem mono37 : Kd.Mono F37 := Kd.mono_iso _ (Kd.mono_pair (Kd.mono_const _) (Kd.mono_pair (Kd.mono_const _) (Kd.mono_pair (Kd.mono_const _) (Kd.mono_pair (Kd.mono_const _) (Kd.mono_slice 37 Kd.mono_id)))))
theorem sub37 : Kd.Sub F37 [37, 46] := Kd.sub_iso _ (Kd.sub_pair (Kd.sub_const _ (by decide)) (Kd.sub_pair (Kd.sub_const _ (by decide)) (Kd.sub_pair (Kd.sub_const _ (by decide)) (Kd.sub_pair (Kd.sub_const _ (by decide)) (Kd.sub_slice 37 (by decide) Kd.sub_id)))))
theorem sz37 : ∀ n, (Kd.upto F37 5 [37, 46] n).sz = 5 := Kd.upto_sz (fun _ => rfl)
def k37 : Kd S37 := Kd.fix F37 5 [37, 46] sz37 (Kd.upto_E sub37)
theorem k37_open {w : World} {x : S37} {cs : List Value} (h : k37.K w x cs) : ∃ A3 c3 A4 c4, cs = [.int .i64 x.f0, .int .i64 x.f1, .int .i64 x.f2, .slice A3 x.f3.length c3, .slice A4 x.f4.length c4] ∧ x.f3.length ≤ c3 ∧ k46.C w A3 x.f3.length x.f3 ∧ x.f4.length ≤ c4 ∧ k37.C w A4 x.f4.length x.f4 := by
  obtain ⟨n, h⟩ := h
  cases n with
  | zero => exact h.elim
  | succ n =>
    obtain ⟨_, _, rfl, rfl, ⟨_, _, rfl, rfl, ⟨_, _, rfl, rfl, ⟨_, _, rfl, ⟨A3, c3, rfl, l3, g3⟩, ⟨A4, c4, rfl, l4, g4⟩⟩⟩⟩⟩ := h
    exact ⟨A3, c3, A4, c4, rfl, l3, g3, l4, Kd.fix_C g4⟩
theorem k37_mkM (w : World) (base : Nat) (ok : Nat → Prop) (x : S37) {v3 : Value} (g3 : k46.R 46 w base ok v3 x.f3) {v4 : Value} (g4 : k37.R 37 w base ok v4 x.f4) : k37.M w base ok x [.int .i64 x.f0, .int .i64 x.f1, .int .i64 x.f2, v3, v4] := by
  obtain ⟨n4, q4⟩ := Kd.fix_R_back mono37 g4
  have r4 := Kd.upto_R_le mono37 sz37 (show n4 ≤ n4 by omega) q4
  exact ⟨n4 + 1, ⟨[.int .i64 x.f0], [.int .i64 x.f1, .int .i64 x.f2, v3, v4], rfl, rfl, ⟨[.int .i64 x.f1], [.int .i64 x.f2, v3, v4], rfl, rfl, ⟨[.int .i64 x.f2], [v3, v4], rfl, rfl, ⟨[v3], [v4], rfl, ⟨v3, rfl, g3⟩, ⟨v4, rfl, r4⟩⟩⟩⟩⟩⟩
def rd_T37 (xs : List S37) (i : Int) : S37 := xs.getD i.toNat z37
theorem at_T37 {w : World} {A : Option Addr} {n : Nat} {xs : List S37} (h : Kd.C k37 w A n xs) (i : Int) (h0 : 0 ≤ i) (h1 : i < n) : ∃ ad A3 c3 A4 c4, A = some ad ∧ w.cell? (ad.add (i.toNat * 5)) = some (.int .i64 (rd_T37 xs i).f0) ∧ w.cell? ⟨(ad.add (i.toNat * 5)).block, (ad.add (i.toNat * 5)).off + 1, none⟩ = some (.int .i64 (rd_T37 xs i).f1) ∧ w.cell? ⟨(ad.add (i.toNat * 5)).block, (ad.add (i.toNat * 5)).off + 2, none⟩ = some (.int .i64 (rd_T37 xs i).f2) ∧ w.cell? ⟨(ad.add (i.toNat * 5)).block, (ad.add (i.toNat * 5)).off + 3, none⟩ = some (.slice A3 (rd_T37 xs i).f3.length c3) ∧ w.cell? ⟨(ad.add (i.toNat * 5)).block, (ad.add (i.toNat * 5)).off + 4, none⟩ = some (.slice A4 (rd_T37 xs i).f4.length c4) ∧ (rd_T37 xs i).f3.length ≤ c3 ∧ k46.C w A3 (rd_T37 xs i).f3.length (rd_T37 xs i).f3 ∧ (rd_T37 xs i).f4.length ≤ c4 ∧ k37.C w A4 (rd_T37 xs i).f4.length (rd_T37 xs i).f4 := by
  obtain ⟨ad, c, e, _, hK, hc0⟩ := Kd.C_get h z37 i h0 h1
  have hc : ∀ j u, c[j]? = some u → w.cell? (ad.add (i.toNat * 5 + j)) = some u := hc0
  obtain ⟨A3, c3, A4, c4, rfl, l3, g3, l4, g4⟩ := k37_open hK
  exact ⟨ad, A3, c3, A4, c4, e, hc 0 _ rfl, by rw [← add_field _ _ 1 (by omega)]; exact hc 1 _ rfl, by rw [← add_field _ _ 2 (by omega)]; exact hc 2 _ rfl, by rw [← add_field _ _ 3 (by omega)]; exact hc 3 _ rfl, by rw [← add_field _ _ 4 (by omega)]; exact hc 4 _ rfl, l3, g3, l4, g4⟩
end Go.Proofs.Ytlllokmipeoelaa.XFnPrSpec
end
section
-- Written by xprint.py of this session (a program that runs the kit's print and adds to it); Lean checks it.
namespace Go.Proofs.Ytlllokmipeoelaa.XFnPrSpec
open Go.RowKit Go.Proofs.YtlllokmipeoelaaW.PrintWords Go.Proofs.YtlllokmipeoelaaW.PrintLast Go.Proofs.YtlllokmipeoelaaW.PrintMore
attribute [local go_sem] max2_int min2_int max_two min_two max_three min_three max_four min_four   -- for this text's walks alone
set_option linter.unusedVariables false
set_option linter.unusedSimpArgs false
/-! ### spec_comment: function 7 -/
mutual
def spec_comment.j0 : Nat → ByteArray → Int → Bool → Option (Int × Bool)
  | 0, _, _, _ => none
  | k + 1, x0, x1, x30 => if x30 = true then (some (x1, false)) else (spec_comment.l0 k x0 x1 (wrap64 (x1 + 2)))
def spec_comment.l0 : Nat → ByteArray → Int → Int → Option (Int × Bool)
  | 0, _, _, _ => none
  | k + 1, x0, x1, x6 => if x6 < (x0.size : Int) then (if 0 ≤ (wrap64 (x1 + 1)) then (if (wrap64 (x1 + 1)) < (x0.size : Int) then (if (bt x0 (wrap64 (x1 + 1))) = 47 then (if 0 ≤ x6 then (spec_comment.j2 k x0 x1 x6 ((bt x0 x6) == 10)) else (none)) else (spec_comment.j2 k x0 x1 x6 false)) else (none)) else (none)) else (if 0 ≤ (wrap64 (x1 + 1)) then (if (wrap64 (x1 + 1)) < (x0.size : Int) then (some ((x0.size : Int), ((bt x0 (wrap64 (x1 + 1))) == 47))) else (none)) else (none))
def spec_comment.j2 : Nat → ByteArray → Int → Int → Bool → Option (Int × Bool)
  | 0, _, _, _, _ => none
  | k + 1, x0, x1, x6, x40 => if x40 = true then (some (x6, true)) else (if 0 ≤ (wrap64 (x1 + 1)) then (if (wrap64 (x1 + 1)) < (x0.size : Int) then (if (bt x0 (wrap64 (x1 + 1))) = 42 then (if x6 > (wrap64 (x1 + 2)) then (if 0 ≤ (wrap64 (x6 - 1)) then (if (wrap64 (x6 - 1)) < (x0.size : Int) then (if (bt x0 (wrap64 (x6 - 1))) = 42 then (if 0 ≤ x6 then (if x6 < (x0.size : Int) then (if (bt x0 x6) = 47 then (some (wrap64 (x6 + 1), true)) else (spec_comment.l0 k x0 x1 (wrap64 (x6 + 1)))) else (none)) else (none)) else (spec_comment.l0 k x0 x1 (wrap64 (x6 + 1)))) else (none)) else (none)) else (spec_comment.l0 k x0 x1 (wrap64 (x6 + 1)))) else (spec_comment.l0 k x0 x1 (wrap64 (x6 + 1)))) else (none)) else (none))
end
def spec_comment.f (k : Nat) (a0 : ByteArray) (a1 : Int) : Option (Int × Bool) := if 0 ≤ a1 then (if a1 < (a0.size : Int) then (if (bt a0 a1) = 47 then (if (wrap64 (a1 + 1)) = (a0.size : Int) then (spec_comment.j0 k a0 a1 true) else (if 0 ≤ (wrap64 (a1 + 1)) then (if (wrap64 (a1 + 1)) < (a0.size : Int) then (if (bt a0 (wrap64 (a1 + 1))) = 47 then (spec_comment.j0 k a0 a1 false) else (spec_comment.j0 k a0 a1 ((bt a0 (wrap64 (a1 + 1))) != 42))) else (none)) else (none))) else (some (a1, true))) else (none)) else (none)
set_option maxHeartbeats 8000000 in
set_option maxRecDepth 100000 in
theorem spec_comment.calls (k : Nat) (a0 : ByteArray) (a1 : Int) (r1 : Int) (r2 : Bool) (w : World) (h : spec_comment.f k a0 a1 = some (r1, r2)) :
    Calls Try.prog 7 #[.string a0, .int .i64 a1] w fun e w' => e = .returned (.tuple #[.int .i64 r1, .bool r2]) ∧ Drawn0 w w' := by
  have H : (if 0 ≤ a1 then (if a1 < (a0.size : Int) then (if (bt a0 a1) = 47 then (if (wrap64 (a1 + 1)) = (a0.size : Int) then (spec_comment.j0 k a0 a1 true) else (if 0 ≤ (wrap64 (a1 + 1)) then (if (wrap64 (a1 + 1)) < (a0.size : Int) then (if (bt a0 (wrap64 (a1 + 1))) = 47 then (spec_comment.j0 k a0 a1 false) else (spec_comment.j0 k a0 a1 ((bt a0 (wrap64 (a1 + 1))) != 42))) else (none)) else (none))) else (some (a1, true))) else (none)) else (none)) = some (r1, r2) := h
  clear h
  by_cases c3 : 0 ≤ a1
  · rw [if_pos c3] at H
    have c3b0 : decide (0 ≤ a1) = true := decide_eq_true c3
    clear c3
    by_cases c4 : a1 < (a0.size : Int)
    · rw [if_pos c4] at H
      have c4b0 : decide (a1 < (a0.size : Int)) = true := decide_eq_true c4
      clear c4
      by_cases c6 : (bt a0 a1) = 47
      · rw [if_pos c6] at H
        have c6b0 : ((bt a0 a1) == 47) = true := beq_iff_eq.mpr c6
        have c6b1 : ((bt a0 a1) != 47) = false := bne_eq_false_iff_eq.mpr c6
        clear c6
        have HC7 := Aside0.mk H
        clear H
        have p5 : 0 ≤ (a1 : Int) := of_decide_eq_true (by first | (with_reducible assumption) | assumption)
        have q5 : a1 < (a0.size : Int) := of_decide_eq_true (by first | (with_reducible assumption) | assumption)
        have hx5 := bt_at a0 a1
        replace p5 := eq_true p5
        replace q5 := eq_true q5
        go_enter Try.func7, Try.ntmps7
        go_upto_region 3 with (fail)
        repeat (go_quiet (fail); go_upto_region 3 with (fail))
        go_cut [30] (fun v30 wc => ∃ (kq : Nat) (x30_6 : Bool), v30 = .bool x30_6 ∧ Aside0 (spec_comment.j0 kq a0 a1 x30_6 = some (r1, r2)) ∧ Aside0 (kq ≤ k) ∧ Drawn0 w wc)
        case first =>
          have H := HC7.out
          clear HC7
          by_cases c8 : (wrap64 (a1 + 1)) = (a0.size : Int)
          · rw [if_pos c8] at H
            have c8b0 : ((wrap64 (a1 + 1)) == (a0.size : Int)) = true := beq_iff_eq.mpr c8
            have c8b1 : ((wrap64 (a1 + 1)) != (a0.size : Int)) = false := bne_eq_false_iff_eq.mpr c8
            clear c8
            (first | rw [c8b0] | (simp only [i64_w, i32_w]; rw [c8b0]) | skip)
            have H' := Aside0.mk H
            clear H
            go_wp2
            repeat (go_quiet (fail); try go_wp2)
            go_meet
            case rel => exact ⟨_, (true), (by first | rfl | (simp; done) | (simp [*]; done)), H', ⟨by first | omega | exact Nat.le_refl _⟩, by repeat (first | exact Drawn0.refl _ | apply Drawn0.step)⟩
          · rw [if_neg c8] at H
            have c8b0 : ((wrap64 (a1 + 1)) == (a0.size : Int)) = false := beq_eq_false_iff_ne.mpr c8
            have c8b1 : ((wrap64 (a1 + 1)) != (a0.size : Int)) = true := bne_iff_ne.mpr c8
            (first | rw [c8b0] | (simp only [i64_w, i32_w]; rw [c8b0]) | skip)
            obtain ⟨ji9, hji9⟩ : ∃ j_ : Int, (wrap64 (a1 + 1)) = j_ := ⟨_, rfl⟩
            replace H : (if 0 ≤ (ji9) then (if (ji9) < (a0.size : Int) then (if (bt a0 (ji9)) = 47 then (spec_comment.j0 k a0 a1 false) else (spec_comment.j0 k a0 a1 ((bt a0 (ji9)) != 42))) else (none)) else (none)) = some (r1, r2) := by first | (rw [hji9] at H; exact H) | (simp only [hji9] at H ⊢; exact H)
            (try rw [hji9] at c8b0)
            (try rw [hji9] at c8b1)
            have hji9w : (IntKind.i64.wrap (a1 + 1)) = ji9 := (i64_w _).trans hji9
            by_cases c10 : 0 ≤ (ji9)
            · rw [if_pos c10] at H
              have c10b0 : decide (0 ≤ (ji9)) = true := decide_eq_true c10
              clear c10
              by_cases c11 : (ji9) < (a0.size : Int)
              · rw [if_pos c11] at H
                have c11b0 : decide ((ji9) < (a0.size : Int)) = true := decide_eq_true c11
                clear c11
                by_cases c13 : (bt a0 (ji9)) = 47
                · rw [if_pos c13] at H
                  have c13b0 : ((bt a0 (ji9)) == 47) = true := beq_iff_eq.mpr c13
                  have c13b1 : ((bt a0 (ji9)) != 47) = false := bne_eq_false_iff_eq.mpr c13
                  clear c13
                  have H' := Aside0.mk H
                  clear H
                  have p12 : 0 ≤ ((ji9) : Int) := of_decide_eq_true (by first | (with_reducible assumption) | assumption)
                  have q12 : (ji9) < (a0.size : Int) := of_decide_eq_true (by first | (with_reducible assumption) | assumption)
                  have hx12 := bt_at a0 (ji9)
                  replace p12 := eq_true p12
                  replace q12 := eq_true q12
                  go_wp2
                  repeat (go_quiet (fail); try go_wp2)
                  go_meet
                  case rel => exact ⟨_, (false), (by first | rfl | (simp; done) | (simp [*]; done)), H', ⟨by first | omega | exact Nat.le_refl _⟩, by repeat (first | exact Drawn0.refl _ | apply Drawn0.step)⟩
                · rw [if_neg c13] at H
                  have c13b0 : ((bt a0 (ji9)) == 47) = false := beq_eq_false_iff_ne.mpr c13
                  have c13b1 : ((bt a0 (ji9)) != 47) = true := bne_iff_ne.mpr c13
                  have H' := Aside0.mk H
                  clear H
                  have p12 : 0 ≤ ((ji9) : Int) := of_decide_eq_true (by first | (with_reducible assumption) | assumption)
                  have q12 : (ji9) < (a0.size : Int) := of_decide_eq_true (by first | (with_reducible assumption) | assumption)
                  have hx12 := bt_at a0 (ji9)
                  replace p12 := eq_true p12
                  replace q12 := eq_true q12
                  have p14 : 0 ≤ ((ji9) : Int) := of_decide_eq_true (by first | (with_reducible assumption) | assumption)
                  have q14 : (ji9) < (a0.size : Int) := of_decide_eq_true (by first | (with_reducible assumption) | assumption)
                  have hx14 := bt_at a0 (ji9)
                  replace p14 := eq_true p14
                  replace q14 := eq_true q14
                  go_wp2
                  repeat (go_quiet (fail); try go_wp2)
                  go_meet
                  case rel => exact ⟨_, (((bt a0 (ji9)) != 42)), (by first | rfl | (simp; done) | (simp only [← hji9] <;> (first | rfl | simp)) | (simp [*]; done)), H', ⟨by first | omega | exact Nat.le_refl _⟩, by repeat (first | exact Drawn0.refl _ | apply Drawn0.step)⟩
              · rw [if_neg c11] at H
                exact absurd H (by simp)
            · rw [if_neg c10] at H
              exact absurd H (by simp)
        case rest =>
          clear HC7
          try clear c1
          try clear p1
          try clear q1
          try clear hx1
          try clear p2
          try clear c3
          try clear c3b0
          try clear c4
          try clear c4b0
          try clear p5
          try clear q5
          try clear hx5
          try clear c6
          try clear c6b0
          try clear c6b1
          try clear p6
          try clear c7
          try clear c8
          try clear c8b0
          try clear c8b1
          try clear c10
          try clear c10b0
          try clear c11
          try clear c11b0
          try clear p12
          try clear q12
          try clear hx12
          try clear c13
          try clear c13b0
          try clear c13b1
          try clear p14
          try clear q14
          try clear hx14
          try clear p12
          try clear p14
          try clear p5
          try clear q12
          try clear q14
          try clear q5
          obtain ⟨kq, x30_6, rfl, HA, HJ6, ⟨mc6, rfl⟩⟩ := hcut
          cases kq with
          | zero => exact absurd HA.out (by simp [spec_comment.j0])
          | succ kj6 =>
            have H := HA.out
            clear HA
            simp only [spec_comment.j0] at H
            by_cases c15 : x30_6 = true
            · subst c15
              have H1 : (some (a1, false)) = some (r1, r2) := by rw [if_pos rfl] at H; exact H
              clear H
              have H := H1
              clear H1
              simp only [Option.some.injEq, Prod.mk.injEq] at H
              obtain ⟨rfl, rfl⟩ := H
              go_wp2
              repeat (go_quiet (fail); try go_wp2)
              go_ret2
              exact ⟨by first | rfl | (simp; done) | (simp [*]; done), by repeat (first | exact Drawn0.refl _ | apply Drawn0.step)⟩
            · replace c15 := Bool.eq_false_iff.mpr c15
              subst c15
              have H1 : (spec_comment.l0 kj6 a0 a1 (wrap64 (a1 + 2))) = some (r1, r2) := by rw [if_neg (show ¬ (false = true) by decide)] at H; exact H
              clear H
              have H := H1
              clear H1
              have H' := Aside0.mk H
              clear H
              go_wp2
              repeat (go_quiet (fail); try go_wp2)
              try simp only [Act.put, List.setIfInBounds_toArray, List.set_cons_succ, List.set_cons_zero]
              go_loopg [6] kj6 (fun kq v6 w' => ∃ (x6_2 : Int), v6 = .int .i64 x6_2 ∧ Aside0 (spec_comment.l0 kq a0 a1 x6_2 = some (r1, r2)) ∧ Aside0 (kq ≤ kj6) ∧ Drawn0 w w')
              case atStart => exact ⟨(wrap64 (a1 + 2)), (by first | rfl | (simp; done) | (simp [*]; done)), H', ⟨Nat.le_refl _⟩, by repeat (first | exact Drawn0.refl _ | apply Drawn0.step)⟩
              case round =>
                clear H'
                try clear c1
                try clear p1
                try clear q1
                try clear hx1
                try clear p2
                try clear c3
                try clear c3b0
                try clear c4
                try clear c4b0
                try clear p5
                try clear q5
                try clear hx5
                try clear c6
                try clear c6b0
                try clear c6b1
                try clear p6
                try clear c7
                try clear c8
                try clear c8b0
                try clear c8b1
                try clear c10
                try clear c10b0
                try clear c11
                try clear c11b0
                try clear p12
                try clear q12
                try clear hx12
                try clear c13
                try clear c13b0
                try clear c13b1
                try clear p14
                try clear q14
                try clear hx14
                try clear c15
                try clear p1
                try clear p12
                try clear p14
                try clear p2
                try clear p5
                try clear p6
                try clear q1
                try clear q12
                try clear q14
                try clear q5
                obtain ⟨x6_2, rfl, HA, HK2, ⟨m2, rfl⟩⟩ := hrel
                cases gk with
                | zero => exact absurd HA.out (by simp [spec_comment.l0])
                | succ k2 =>
                  have H := HA.out
                  clear HA
                  simp only [spec_comment.l0] at H
                  by_cases c16 : x6_2 < (a0.size : Int)
                  · rw [if_pos c16] at H
                    have c16b0 : decide (x6_2 < (a0.size : Int)) = true := decide_eq_true c16
                    clear c16
                    have HC17 := Aside0.mk H
                    clear H
                    go_upto_region 8 with (fail)
                    repeat (go_quiet (fail); go_upto_region 8 with (fail))
                    go_cut [40] (fun v40 wc => ∃ (kq : Nat) (x40_16 : Bool), v40 = .bool x40_16 ∧ Aside0 (spec_comment.j2 kq a0 a1 x6_2 x40_16 = some (r1, r2)) ∧ Aside0 (kq ≤ k2) ∧ Drawn0 w wc)
                    case first =>
                      have H := HC17.out
                      clear HC17
                      obtain ⟨ji18, hji18⟩ : ∃ j_ : Int, (wrap64 (a1 + 1)) = j_ := ⟨_, rfl⟩
                      replace H : (if 0 ≤ (ji18) then (if (ji18) < (a0.size : Int) then (if (bt a0 (ji18)) = 47 then (if 0 ≤ x6_2 then (spec_comment.j2 k2 a0 a1 x6_2 ((bt a0 x6_2) == 10)) else (none)) else (spec_comment.j2 k2 a0 a1 x6_2 false)) else (none)) else (none)) = some (r1, r2) := by first | (rw [hji18] at H; exact H) | (simp only [hji18] at H ⊢; exact H)
                      have hji18w : (IntKind.i64.wrap (a1 + 1)) = ji18 := (i64_w _).trans hji18
                      by_cases c19 : 0 ≤ (ji18)
                      · rw [if_pos c19] at H
                        have c19b0 : decide (0 ≤ (ji18)) = true := decide_eq_true c19
                        clear c19
                        (first | rw [c19b0] | (simp only [i64_w, i32_w]; rw [c19b0]) | skip)
                        by_cases c20 : (ji18) < (a0.size : Int)
                        · rw [if_pos c20] at H
                          have c20b0 : decide ((ji18) < (a0.size : Int)) = true := decide_eq_true c20
                          clear c20
                          by_cases c22 : (bt a0 (ji18)) = 47
                          · rw [if_pos c22] at H
                            have c22b0 : ((bt a0 (ji18)) == 47) = true := beq_iff_eq.mpr c22
                            have c22b1 : ((bt a0 (ji18)) != 47) = false := bne_eq_false_iff_eq.mpr c22
                            clear c22
                            by_cases c23 : 0 ≤ x6_2
                            · rw [if_pos c23] at H
                              have c23b0 : decide (0 ≤ x6_2) = true := decide_eq_true c23
                              clear c23
                              have H' := Aside0.mk H
                              clear H
                              have p21 : 0 ≤ ((ji18) : Int) := of_decide_eq_true (by first | (with_reducible assumption) | assumption)
                              have q21 : (ji18) < (a0.size : Int) := of_decide_eq_true (by first | (with_reducible assumption) | assumption)
                              have hx21 := bt_at a0 (ji18)
                              replace p21 := eq_true p21
                              replace q21 := eq_true q21
                              have p24 : 0 ≤ (x6_2 : Int) := of_decide_eq_true (by first | (with_reducible assumption) | assumption)
                              have q24 : x6_2 < (a0.size : Int) := of_decide_eq_true (by first | (with_reducible assumption) | assumption)
                              have hx24 := bt_at a0 x6_2
                              replace p24 := eq_true p24
                              replace q24 := eq_true q24
                              go_wp2
                              repeat (go_quiet (fail); try go_wp2)
                              go_meet
                              case rel => exact ⟨_, (((bt a0 x6_2) == 10)), (by first | rfl | (simp; done) | (simp [*]; done)), H', ⟨by have := HJ6.out; have := HK2.out; first | omega | exact Nat.le_refl _⟩, by repeat (first | exact Drawn0.refl _ | apply Drawn0.step)⟩
                            · rw [if_neg c23] at H
                              exact absurd H (by simp)
                          · rw [if_neg c22] at H
                            have c22b0 : ((bt a0 (ji18)) == 47) = false := beq_eq_false_iff_ne.mpr c22
                            have c22b1 : ((bt a0 (ji18)) != 47) = true := bne_iff_ne.mpr c22
                            have H' := Aside0.mk H
                            clear H
                            have p21 : 0 ≤ ((ji18) : Int) := of_decide_eq_true (by first | (with_reducible assumption) | assumption)
                            have q21 : (ji18) < (a0.size : Int) := of_decide_eq_true (by first | (with_reducible assumption) | assumption)
                            have hx21 := bt_at a0 (ji18)
                            replace p21 := eq_true p21
                            replace q21 := eq_true q21
                            go_wp2
                            repeat (go_quiet (fail); try go_wp2)
                            go_meet
                            case rel => exact ⟨_, (false), (by first | rfl | (simp; done) | (simp [*]; done)), H', ⟨by have := HJ6.out; have := HK2.out; first | omega | exact Nat.le_refl _⟩, by repeat (first | exact Drawn0.refl _ | apply Drawn0.step)⟩
                        · rw [if_neg c20] at H
                          exact absurd H (by simp)
                      · rw [if_neg c19] at H
                        exact absurd H (by simp)
                    case rest =>
                      clear HC17
                      try clear c1
                      try clear p1
                      try clear q1
                      try clear hx1
                      try clear c2
                      try clear p2
                      try clear q2
                      try clear hx2
                      try clear c3
                      try clear c3b0
                      try clear c4
                      try clear c4b0
                      try clear p5
                      try clear q5
                      try clear hx5
                      try clear c6
                      try clear c6b0
                      try clear c6b1
                      try clear p6
                      try clear c7
                      try clear c8
                      try clear c8b0
                      try clear c8b1
                      try clear c10
                      try clear c10b0
                      try clear c11
                      try clear c11b0
                      try clear p12
                      try clear q12
                      try clear hx12
                      try clear c13
                      try clear c13b0
                      try clear c13b1
                      try clear p14
                      try clear q14
                      try clear hx14
                      try clear c15
                      try clear c16
                      try clear c16b0
                      try clear c19
                      try clear c19b0
                      try clear c20
                      try clear c20b0
                      try clear p21
                      try clear q21
                      try clear hx21
                      try clear c22
                      try clear c22b0
                      try clear c22b1
                      try clear c23
                      try clear c23b0
                      try clear p24
                      try clear q24
                      try clear hx24
                      try clear p1
                      try clear p12
                      try clear p14
                      try clear p2
                      try clear p21
                      try clear p24
                      try clear p5
                      try clear p6
                      try clear q1
                      try clear q12
                      try clear q14
                      try clear q21
                      try clear q24
                      try clear q5
                      obtain ⟨kq, x40_16, rfl, HA, HJ16, ⟨mc16, rfl⟩⟩ := hcut
                      cases kq with
                      | zero => exact absurd HA.out (by simp [spec_comment.j2])
                      | succ kj16 =>
                        have H := HA.out
                        clear HA
                        simp only [spec_comment.j2] at H
                        by_cases c25 : x40_16 = true
                        · subst c25
                          have H1 : (some (x6_2, true)) = some (r1, r2) := by rw [if_pos rfl] at H; exact H
                          clear H
                          have H := H1
                          clear H1
                          simp only [Option.some.injEq, Prod.mk.injEq] at H
                          obtain ⟨rfl, rfl⟩ := H
                          go_wp2
                          repeat (go_quiet (fail); try go_wp2)
                          go_ret2
                          exact ⟨by first | rfl | (simp; done) | (simp [*]; done), by repeat (first | exact Drawn0.refl _ | apply Drawn0.step)⟩
                        · replace c25 := Bool.eq_false_iff.mpr c25
                          subst c25
                          have H1 : (if 0 ≤ (wrap64 (a1 + 1)) then (if (wrap64 (a1 + 1)) < (a0.size : Int) then (if (bt a0 (wrap64 (a1 + 1))) = 42 then (if x6_2 > (wrap64 (a1 + 2)) then (if 0 ≤ (wrap64 (x6_2 - 1)) then (if (wrap64 (x6_2 - 1)) < (a0.size : Int) then (if (bt a0 (wrap64 (x6_2 - 1))) = 42 then (if 0 ≤ x6_2 then (if x6_2 < (a0.size : Int) then (if (bt a0 x6_2) = 47 then (some (wrap64 (x6_2 + 1), true)) else (spec_comment.l0 kj16 a0 a1 (wrap64 (x6_2 + 1)))) else (none)) else (none)) else (spec_comment.l0 kj16 a0 a1 (wrap64 (x6_2 + 1)))) else (none)) else (none)) else (spec_comment.l0 kj16 a0 a1 (wrap64 (x6_2 + 1)))) else (spec_comment.l0 kj16 a0 a1 (wrap64 (x6_2 + 1)))) else (none)) else (none)) = some (r1, r2) := by rw [if_neg (show ¬ (false = true) by decide)] at H; exact H
                          clear H
                          have H := H1
                          clear H1
                          obtain ⟨ji26, hji26⟩ : ∃ j_ : Int, (wrap64 (a1 + 1)) = j_ := ⟨_, rfl⟩
                          replace H : (if 0 ≤ (ji26) then (if (ji26) < (a0.size : Int) then (if (bt a0 (ji26)) = 42 then (if x6_2 > (wrap64 (a1 + 2)) then (if 0 ≤ (wrap64 (x6_2 - 1)) then (if (wrap64 (x6_2 - 1)) < (a0.size : Int) then (if (bt a0 (wrap64 (x6_2 - 1))) = 42 then (if 0 ≤ x6_2 then (if x6_2 < (a0.size : Int) then (if (bt a0 x6_2) = 47 then (some (wrap64 (x6_2 + 1), true)) else (spec_comment.l0 kj16 a0 a1 (wrap64 (x6_2 + 1)))) else (none)) else (none)) else (spec_comment.l0 kj16 a0 a1 (wrap64 (x6_2 + 1)))) else (none)) else (none)) else (spec_comment.l0 kj16 a0 a1 (wrap64 (x6_2 + 1)))) else (spec_comment.l0 kj16 a0 a1 (wrap64 (x6_2 + 1)))) else (none)) else (none)) = some (r1, r2) := by first | (rw [hji26] at H; exact H) | (simp only [hji26] at H ⊢; exact H)
                          have hji26w : (IntKind.i64.wrap (a1 + 1)) = ji26 := (i64_w _).trans hji26
                          by_cases c27 : 0 ≤ (ji26)
                          · rw [if_pos c27] at H
                            have c27b0 : decide (0 ≤ (ji26)) = true := decide_eq_true c27
                            clear c27
                            by_cases c28 : (ji26) < (a0.size : Int)
                            · rw [if_pos c28] at H
                              have c28b0 : decide ((ji26) < (a0.size : Int)) = true := decide_eq_true c28
                              clear c28
                              by_cases c30 : (bt a0 (ji26)) = 42
                              · rw [if_pos c30] at H
                                have c30b0 : ((bt a0 (ji26)) == 42) = true := beq_iff_eq.mpr c30
                                have c30b1 : ((bt a0 (ji26)) != 42) = false := bne_eq_false_iff_eq.mpr c30
                                clear c30
                                by_cases c31 : x6_2 > (wrap64 (a1 + 2))
                                · rw [if_pos c31] at H
                                  have c31b0 : decide ((wrap64 (a1 + 2)) < x6_2) = true := decide_eq_true c31
                                  clear c31
                                  obtain ⟨ji32, hji32⟩ : ∃ j_ : Int, (wrap64 (x6_2 - 1)) = j_ := ⟨_, rfl⟩
                                  replace H : (if 0 ≤ (ji32) then (if (ji32) < (a0.size : Int) then (if (bt a0 (ji32)) = 42 then (if 0 ≤ x6_2 then (if x6_2 < (a0.size : Int) then (if (bt a0 x6_2) = 47 then (some (wrap64 (x6_2 + 1), true)) else (spec_comment.l0 kj16 a0 a1 (wrap64 (x6_2 + 1)))) else (none)) else (none)) else (spec_comment.l0 kj16 a0 a1 (wrap64 (x6_2 + 1)))) else (none)) else (none)) = some (r1, r2) := by first | (rw [hji32] at H; exact H) | (simp only [hji32] at H ⊢; exact H)
                                  have hji32w : (IntKind.i64.wrap (x6_2 - 1)) = ji32 := (i64_w _).trans hji32
                                  by_cases c33 : 0 ≤ (ji32)
                                  · rw [if_pos c33] at H
                                    have c33b0 : decide (0 ≤ (ji32)) = true := decide_eq_true c33
                                    clear c33
                                    by_cases c34 : (ji32) < (a0.size : Int)
                                    · rw [if_pos c34] at H
                                      have c34b0 : decide ((ji32) < (a0.size : Int)) = true := decide_eq_true c34
                                      clear c34
                                      by_cases c36 : (bt a0 (ji32)) = 42
                                      · rw [if_pos c36] at H
                                        have c36b0 : ((bt a0 (ji32)) == 42) = true := beq_iff_eq.mpr c36
                                        have c36b1 : ((bt a0 (ji32)) != 42) = false := bne_eq_false_iff_eq.mpr c36
                                        clear c36
                                        by_cases c37 : 0 ≤ x6_2
                                        · rw [if_pos c37] at H
                                          have c37b0 : decide (0 ≤ x6_2) = true := decide_eq_true c37
                                          clear c37
                                          by_cases c38 : x6_2 < (a0.size : Int)
                                          · rw [if_pos c38] at H
                                            have c38b0 : decide (x6_2 < (a0.size : Int)) = true := decide_eq_true c38
                                            clear c38
                                            by_cases c40 : (bt a0 x6_2) = 47
                                            · rw [if_pos c40] at H
                                              have c40b0 : ((bt a0 x6_2) == 47) = true := beq_iff_eq.mpr c40
                                              have c40b1 : ((bt a0 x6_2) != 47) = false := bne_eq_false_iff_eq.mpr c40
                                              clear c40
                                              simp only [Option.some.injEq, Prod.mk.injEq] at H
                                              obtain ⟨rfl, rfl⟩ := H
                                              have p29 : 0 ≤ ((ji26) : Int) := of_decide_eq_true (by first | (with_reducible assumption) | assumption)
                                              have q29 : (ji26) < (a0.size : Int) := of_decide_eq_true (by first | (with_reducible assumption) | assumption)
                                              have hx29 := bt_at a0 (ji26)
                                              replace p29 := eq_true p29
                                              replace q29 := eq_true q29
                                              have p35 : 0 ≤ ((ji32) : Int) := of_decide_eq_true (by first | (with_reducible assumption) | assumption)
                                              have q35 : (ji32) < (a0.size : Int) := of_decide_eq_true (by first | (with_reducible assumption) | assumption)
                                              have hx35 := bt_at a0 (ji32)
                                              replace p35 := eq_true p35
                                              replace q35 := eq_true q35
                                              have p39 : 0 ≤ (x6_2 : Int) := of_decide_eq_true (by first | (with_reducible assumption) | assumption)
                                              have q39 : x6_2 < (a0.size : Int) := of_decide_eq_true (by first | (with_reducible assumption) | assumption)
                                              have hx39 := bt_at a0 x6_2
                                              replace p39 := eq_true p39
                                              replace q39 := eq_true q39
                                              go_wp2
                                              repeat (go_quiet (fail); try go_wp2)
                                              go_ret2
                                              exact ⟨by first | rfl | (simp; done) | (simp only [← hji26, ← hji32] <;> (first | rfl | simp)) | (simp [*]; done), by repeat (first | exact Drawn0.refl _ | apply Drawn0.step)⟩
                                            · rw [if_neg c40] at H
                                              have c40b0 : ((bt a0 x6_2) == 47) = false := beq_eq_false_iff_ne.mpr c40
                                              have c40b1 : ((bt a0 x6_2) != 47) = true := bne_iff_ne.mpr c40
                                              have H' := Aside0.mk H
                                              clear H
                                              have p29 : 0 ≤ ((ji26) : Int) := of_decide_eq_true (by first | (with_reducible assumption) | assumption)
                                              have q29 : (ji26) < (a0.size : Int) := of_decide_eq_true (by first | (with_reducible assumption) | assumption)
                                              have hx29 := bt_at a0 (ji26)
                                              replace p29 := eq_true p29
                                              replace q29 := eq_true q29
                                              have p35 : 0 ≤ ((ji32) : Int) := of_decide_eq_true (by first | (with_reducible assumption) | assumption)
                                              have q35 : (ji32) < (a0.size : Int) := of_decide_eq_true (by first | (with_reducible assumption) | assumption)
                                              have hx35 := bt_at a0 (ji32)
                                              replace p35 := eq_true p35
                                              replace q35 := eq_true q35
                                              have p39 : 0 ≤ (x6_2 : Int) := of_decide_eq_true (by first | (with_reducible assumption) | assumption)
                                              have q39 : x6_2 < (a0.size : Int) := of_decide_eq_true (by first | (with_reducible assumption) | assumption)
                                              have hx39 := bt_at a0 x6_2
                                              replace p39 := eq_true p39
                                              replace q39 := eq_true q39
                                              go_wp2
                                              repeat (go_quiet (fail); try go_wp2)
                                              go_roundg kj16
                                              case measure => have := HJ6.out; have := HK2.out; have := HJ16.out; omega
                                              case rel => exact ⟨(wrap64 (x6_2 + 1)), (by first | rfl | (simp; done) | (simp [*]; done)), H', ⟨by have := HJ6.out; have := HK2.out; have := HJ16.out; omega⟩, by repeat (first | exact Drawn0.refl _ | apply Drawn0.step)⟩
                                          · rw [if_neg c38] at H
                                            exact absurd H (by simp)
                                        · rw [if_neg c37] at H
                                          exact absurd H (by simp)
                                      · rw [if_neg c36] at H
                                        have c36b0 : ((bt a0 (ji32)) == 42) = false := beq_eq_false_iff_ne.mpr c36
                                        have c36b1 : ((bt a0 (ji32)) != 42) = true := bne_iff_ne.mpr c36
                                        have H' := Aside0.mk H
                                        clear H
                                        have p29 : 0 ≤ ((ji26) : Int) := of_decide_eq_true (by first | (with_reducible assumption) | assumption)
                                        have q29 : (ji26) < (a0.size : Int) := of_decide_eq_true (by first | (with_reducible assumption) | assumption)
                                        have hx29 := bt_at a0 (ji26)
                                        replace p29 := eq_true p29
                                        replace q29 := eq_true q29
                                        have p35 : 0 ≤ ((ji32) : Int) := of_decide_eq_true (by first | (with_reducible assumption) | assumption)
                                        have q35 : (ji32) < (a0.size : Int) := of_decide_eq_true (by first | (with_reducible assumption) | assumption)
                                        have hx35 := bt_at a0 (ji32)
                                        replace p35 := eq_true p35
                                        replace q35 := eq_true q35
                                        go_wp2
                                        repeat (go_quiet (fail); try go_wp2)
                                        go_roundg kj16
                                        case measure => have := HJ6.out; have := HK2.out; have := HJ16.out; omega
                                        case rel => exact ⟨(wrap64 (x6_2 + 1)), (by first | rfl | (simp; done) | (simp [*]; done)), H', ⟨by have := HJ6.out; have := HK2.out; have := HJ16.out; omega⟩, by repeat (first | exact Drawn0.refl _ | apply Drawn0.step)⟩
                                    · rw [if_neg c34] at H
                                      exact absurd H (by simp)
                                  · rw [if_neg c33] at H
                                    exact absurd H (by simp)
                                · rw [if_neg c31] at H
                                  have c31b0 : decide ((wrap64 (a1 + 2)) < x6_2) = false := decide_eq_false c31
                                  clear c31
                                  have H' := Aside0.mk H
                                  clear H
                                  have p29 : 0 ≤ ((ji26) : Int) := of_decide_eq_true (by first | (with_reducible assumption) | assumption)
                                  have q29 : (ji26) < (a0.size : Int) := of_decide_eq_true (by first | (with_reducible assumption) | assumption)
                                  have hx29 := bt_at a0 (ji26)
                                  replace p29 := eq_true p29
                                  replace q29 := eq_true q29
                                  go_wp2
                                  repeat (go_quiet (fail); try go_wp2)
                                  go_roundg kj16
                                  case measure => have := HJ6.out; have := HK2.out; have := HJ16.out; omega
                                  case rel => exact ⟨(wrap64 (x6_2 + 1)), (by first | rfl | (simp; done) | (simp [*]; done)), H', ⟨by have := HJ6.out; have := HK2.out; have := HJ16.out; omega⟩, by repeat (first | exact Drawn0.refl _ | apply Drawn0.step)⟩
                              · rw [if_neg c30] at H
                                have c30b0 : ((bt a0 (ji26)) == 42) = false := beq_eq_false_iff_ne.mpr c30
                                have c30b1 : ((bt a0 (ji26)) != 42) = true := bne_iff_ne.mpr c30
                                have H' := Aside0.mk H
                                clear H
                                have p29 : 0 ≤ ((ji26) : Int) := of_decide_eq_true (by first | (with_reducible assumption) | assumption)
                                have q29 : (ji26) < (a0.size : Int) := of_decide_eq_true (by first | (with_reducible assumption) | assumption)
                                have hx29 := bt_at a0 (ji26)
                                replace p29 := eq_true p29
                                replace q29 := eq_true q29
                                go_wp2
                                repeat (go_quiet (fail); try go_wp2)
                                go_roundg kj16
                                case measure => have := HJ6.out; have := HK2.out; have := HJ16.out; omega
                                case rel => exact ⟨(wrap64 (x6_2 + 1)), (by first | rfl | (simp; done) | (simp [*]; done)), H', ⟨by have := HJ6.out; have := HK2.out; have := HJ16.out; omega⟩, by repeat (first | exact Drawn0.refl _ | apply Drawn0.step)⟩
                            · rw [if_neg c28] at H
                              exact absurd H (by simp)
                          · rw [if_neg c27] at H
                            exact absurd H (by simp)
                  · rw [if_neg c16] at H
                    have c16b0 : decide (x6_2 < (a0.size : Int)) = false := decide_eq_false c16
                    clear c16
                    obtain ⟨ji41, hji41⟩ : ∃ j_ : Int, (wrap64 (a1 + 1)) = j_ := ⟨_, rfl⟩
                    replace H : (if 0 ≤ (ji41) then (if (ji41) < (a0.size : Int) then (some ((a0.size : Int), ((bt a0 (ji41)) == 47))) else (none)) else (none)) = some (r1, r2) := by first | (rw [hji41] at H; exact H) | (simp only [hji41] at H ⊢; exact H)
                    have hji41w : (IntKind.i64.wrap (a1 + 1)) = ji41 := (i64_w _).trans hji41
                    by_cases c42 : 0 ≤ (ji41)
                    · rw [if_pos c42] at H
                      have c42b0 : decide (0 ≤ (ji41)) = true := decide_eq_true c42
                      clear c42
                      by_cases c43 : (ji41) < (a0.size : Int)
                      · rw [if_pos c43] at H
                        have c43b0 : decide ((ji41) < (a0.size : Int)) = true := decide_eq_true c43
                        clear c43
                        simp only [Option.some.injEq, Prod.mk.injEq] at H
                        obtain ⟨rfl, rfl⟩ := H
                        have p44 : 0 ≤ ((ji41) : Int) := of_decide_eq_true (by first | (with_reducible assumption) | assumption)
                        have q44 : (ji41) < (a0.size : Int) := of_decide_eq_true (by first | (with_reducible assumption) | assumption)
                        have hx44 := bt_at a0 (ji41)
                        replace p44 := eq_true p44
                        replace q44 := eq_true q44
                        go_wp2
                        repeat (go_quiet (fail); try go_wp2)
                        go_ret2
                        exact ⟨by first | rfl | (simp; done) | (simp only [← hji41] <;> (first | rfl | simp)) | (simp [*]; done), by repeat (first | exact Drawn0.refl _ | apply Drawn0.step)⟩
                      · rw [if_neg c43] at H
                        exact absurd H (by simp)
                    · rw [if_neg c42] at H
                      exact absurd H (by simp)
      · rw [if_neg c6] at H
        have c6b0 : ((bt a0 a1) == 47) = false := beq_eq_false_iff_ne.mpr c6
        have c6b1 : ((bt a0 a1) != 47) = true := bne_iff_ne.mpr c6
        simp only [Option.some.injEq, Prod.mk.injEq] at H
        obtain ⟨rfl, rfl⟩ := H
        have p5 : 0 ≤ (a1 : Int) := of_decide_eq_true (by first | (with_reducible assumption) | assumption)
        have q5 : a1 < (a0.size : Int) := of_decide_eq_true (by first | (with_reducible assumption) | assumption)
        have hx5 := bt_at a0 a1
        replace p5 := eq_true p5
        replace q5 := eq_true q5
        go_enter Try.func7, Try.ntmps7
        go_wp2
        repeat (go_quiet (fail); try go_wp2)
        go_ret2
        exact ⟨by first | rfl | (simp; done) | (simp [*]; done), by repeat (first | exact Drawn0.refl _ | apply Drawn0.step)⟩
    · rw [if_neg c4] at H
      exact absurd H (by simp)
  · rw [if_neg c3] at H
    exact absurd H (by simp)
/-- A state of type 31 at block g of W; what its slices lead to came in by w0. -/
def IsS31 (w0 W : World) (g : Nat) (f0 : ByteArray) (f1 : Int) : Prop := W.heap[g]? = some (.cells #[.string f0, .int .i64 f1] 31 (0, 0)) ∧ w0.heap.size ≤ g
theorem IsS31.grown {w0 W : World} {g : Nat} {f0 : ByteArray} {f1 : Int} {W1 : World} {row : Option Nat} (h : IsS31 w0 W g f0 f1) (hw : W.grownBy W1 row) (hne : some g ≠ row) : IsS31 w0 W1 g f0 f1 := by
  obtain ⟨hb, hg⟩ := h
  exact ⟨blk_grown hb hw hne, hg⟩
theorem IsS31.below {w0 W : World} {g : Nat} {f0 : ByteArray} {f1 : Int} {W1 : World} (h : IsS31 w0 W g f0 f1) (hw : Below W.heap.size W W1) : IsS31 w0 W1 g f0 f1 := h.grown (grown_of_below hw none) (by simp)
theorem IsS31.drewN {w0 W : World} {g : Nat} {f0 : ByteArray} {f1 : Int} (h : IsS31 w0 W g f0 f1) (m : Nat) : IsS31 w0 (W.drewN m) g f0 f1 := h
theorem IsS31.apart {w0 W : World} {g : Nat} {f0 : ByteArray} {f1 : Int} {α : Type} {d : Kd α} {e : Nat} {base : Nat} {ok : Nat → Prop} {v : Value} {xs : List α} (h : IsS31 w0 W g f0 f1) (ho : d.R e W base ok v xs) (ht : ∀ q, q ∈ e :: d.E → q ≠ 31) : d.R e W base (fun k => ok k ∧ k ≠ g) v xs := by
  obtain ⟨hb, hg⟩ := h
  exact Kd.R_types ho hb ht
theorem IsS31.own_ne {w0 W : World} {g : Nat} {f0 : ByteArray} {f1 : Int} {α : Type} {d : Kd α} {e : Nat} {base : Nat} {ok : Nat → Prop} {v : Value} {xs : List α} (h : IsS31 w0 W g f0 f1) (ho : d.R e W base ok v xs) (ht : e ≠ 31) : some g ≠ v.ownBlock := by
  obtain ⟨hb, hg⟩ := h
  exact Kd.R_ne ho hb ht
theorem IsS31.lt {w0 W : World} {g : Nat} {f0 : ByteArray} {f1 : Int} (h : IsS31 w0 W g f0 f1) : g < W.heap.size := by
  obtain ⟨hb, hg⟩ := h
  exact blk_lt hb
theorem IsS31.ge {w0 W : World} {g : Nat} {f0 : ByteArray} {f1 : Int} (h : IsS31 w0 W g f0 f1) : w0.heap.size ≤ g := by
  obtain ⟨hb, hg⟩ := h
  exact hg
theorem IsS31.far {w0 W : World} {g : Nat} {f0 : ByteArray} {f1 : Int} {p : Addr} (h : IsS31 w0 W g f0 f1) (hne : g ≠ p.block) (u : Value) : IsS31 w0 (W.setCell p u) g f0 f1 := by
  obtain ⟨hb, hg⟩ := h
  exact ⟨blk_far hb hne u, hg⟩
theorem cellS31_0 {W : World} {g : Nat} {f0 : ByteArray} {f1 : Int} (h : W.heap[g]? = some (.cells #[.string f0, .int .i64 f1] 31 (0, 0))) : W.cell? ⟨g, 0, none⟩ = some (.string f0) := (blk_cell h 0).trans rfl
theorem IsS31.set_0 {w0 W : World} {g : Nat} {f0 : ByteArray} {f1 : Int} (h : IsS31 w0 W g f0 f1) (x : ByteArray) : IsS31 w0 (W.setCell ⟨g, 0, none⟩ (.string x)) g x f1 := by
  obtain ⟨hb, hg⟩ := h
  exact ⟨by simpa using blk_set hb 0 (.string x), hg⟩
theorem cellS31_1 {W : World} {g : Nat} {f0 : ByteArray} {f1 : Int} (h : W.heap[g]? = some (.cells #[.string f0, .int .i64 f1] 31 (0, 0))) : W.cell? ⟨g, 1, none⟩ = some (.int .i64 f1) := (blk_cell h 1).trans rfl
theorem IsS31.set_1 {w0 W : World} {g : Nat} {f0 : ByteArray} {f1 : Int} (h : IsS31 w0 W g f0 f1) (x : Int) : IsS31 w0 (W.setCell ⟨g, 1, none⟩ (.int .i64 x)) g f0 x := by
  obtain ⟨hb, hg⟩ := h
  exact ⟨by simpa using blk_set hb 1 (.int .i64 x), hg⟩
/-! ### spec_reader_here: function 19 -/
def spec_reader_here.f (s0_0 : ByteArray) (s0_1 : Int) : Option (Int × ByteArray × Int) := if s0_1 < (s0_0.size : Int) then (if 0 ≤ s0_1 then (some (bt s0_0 s0_1, s0_0, s0_1)) else (none)) else (some (0, s0_0, s0_1))
set_option maxHeartbeats 8000000 in
set_option maxRecDepth 100000 in
theorem spec_reader_here.calls (g : Nat) (s0_0 : ByteArray) (s0_1 : Int) (r1 : Int) (r2 : ByteArray) (r3 : Int) (w0 w : World) (hI : IsS31 w0 w g s0_0 s0_1) (hB : Below w0.heap.size w0 w) (h : spec_reader_here.f s0_0 s0_1 = some (r1, r2, r3)) :
    Calls Try.prog 19 #[.pointer (some ⟨g, 0, none⟩)] w fun e w' => e = .returned (.int .u8 r1) ∧ IsS31 w0 w' g r2 r3 ∧ Below w0.heap.size w0 w' ∧ KeepBut w w' g none := by
  have HI0 := Aside0.mk hI
  have HK := Aside0.mk (KeepBut.refl w g none)
  have HL := Aside0.mk hB.size
  clear hI
  have HW0 := Aside0.mk hB.size
  have HB := Aside0.mk hB
  clear hB
  have H : (if s0_1 < (s0_0.size : Int) then (if 0 ≤ s0_1 then (some (bt s0_0 s0_1, s0_0, s0_1)) else (none)) else (some (0, s0_0, s0_1))) = some (r1, r2, r3) := h
  clear h
  by_cases c2 : s0_1 < (s0_0.size : Int)
  · rw [if_pos c2] at H
    have c2b0 : decide (s0_1 < (s0_0.size : Int)) = true := decide_eq_true c2
    clear c2
    by_cases c3 : 0 ≤ s0_1
    · rw [if_pos c3] at H
      have c3b0 : decide (0 ≤ s0_1) = true := decide_eq_true c3
      clear c3
      simp only [Option.some.injEq, Prod.mk.injEq] at H
      obtain ⟨rfl, rfl, rfl⟩ := H
      obtain ⟨HGz5, hgz5⟩ := HI0.out
      have hcz5_0 := cellS31_0 HGz5
      have hcz5_1 := cellS31_1 HGz5
      have hfz5_0 := blk_frozen HGz5 0
      have hfz5_1 := blk_frozen HGz5 1
      clear HGz5 hgz5
      have p4 : 0 ≤ (s0_1 : Int) := of_decide_eq_true (by first | (with_reducible assumption) | assumption)
      have q4 : s0_1 < (s0_0.size : Int) := of_decide_eq_true (by first | (with_reducible assumption) | assumption)
      have hx4 := bt_at s0_0 s0_1
      replace p4 := eq_true p4
      replace q4 := eq_true q4
      go_enter Try.func19, Try.ntmps19
      go_wp2
      repeat (go_quiet (fail); try go_wp2)
      go_ret
      exact ⟨by first | rfl | (simp [errW_none, errW_some] <;> rfl) | (simp [*, errW_none, errW_some] <;> rfl), by repeat (first | (with_reducible first | exact HI0.out | apply IsS31.alloc | apply IsS31.drewN | apply IsS31.drew | apply IsS31.set_0 | apply IsS31.set_1) | exact HI0.out), by repeat (first | (with_reducible first | exact HB.out | apply below_alloc | apply pw_below_drewN | apply below_drew1 | refine below_set ?_ (IsS31.ge HI0.out)) | exact HB.out), by repeat (first | (with_reducible first | exact HK.out | apply KeepBut.set_ | apply keep_drewN | apply keep_drew | apply keep_alloc) | exact HK.out)⟩
    · rw [if_neg c3] at H
      exact absurd H (by simp)
  · rw [if_neg c2] at H
    have c2b0 : decide (s0_1 < (s0_0.size : Int)) = false := decide_eq_false c2
    clear c2
    simp only [Option.some.injEq, Prod.mk.injEq] at H
    obtain ⟨rfl, rfl, rfl⟩ := H
    obtain ⟨HGz6, hgz6⟩ := HI0.out
    have hcz6_0 := cellS31_0 HGz6
    have hcz6_1 := cellS31_1 HGz6
    have hfz6_0 := blk_frozen HGz6 0
    have hfz6_1 := blk_frozen HGz6 1
    clear HGz6 hgz6
    go_enter Try.func19, Try.ntmps19
    go_wp2
    repeat (go_quiet (fail); try go_wp2)
    go_ret
    exact ⟨by first | rfl | (simp [errW_none, errW_some] <;> rfl) | (simp [*, errW_none, errW_some] <;> rfl), by repeat (first | (with_reducible first | exact HI0.out | apply IsS31.alloc | apply IsS31.drewN | apply IsS31.drew | apply IsS31.set_0 | apply IsS31.set_1) | exact HI0.out), by repeat (first | (with_reducible first | exact HB.out | apply below_alloc | apply pw_below_drewN | apply below_drew1 | refine below_set ?_ (IsS31.ge HI0.out)) | exact HB.out), by repeat (first | (with_reducible first | exact HK.out | apply KeepBut.set_ | apply keep_drewN | apply keep_drew | apply keep_alloc) | exact HK.out)⟩
end Go.Proofs.Ytlllokmipeoelaa.XFnPrSpec
end
section
-- Written by xprint.py of this session (a program that runs the kit's print and adds to it); Lean checks it.
namespace Go.Proofs.Ytlllokmipeoelaa.XFnPrSpec
open Go.RowKit Go.Proofs.YtlllokmipeoelaaW.PrintWords Go.Proofs.YtlllokmipeoelaaW.PrintLast Go.Proofs.YtlllokmipeoelaaW.PrintMore
attribute [local go_sem] max2_int min2_int max_two min_two max_three min_three max_four min_four   -- for this text's walks alone
set_option linter.unusedVariables false
set_option linter.unusedSimpArgs false
/-! ### spec_hexDigit: function 20 -/
mutual
def spec_hexDigit.j0 : Nat → Int → Bool → Option (Int × Bool)
  | 0, _, _ => none
  | k + 1, x0, x4 => if x4 = true then (some ((x0 - 48) % 256, true)) else (if 97 ≤ x0 then (spec_hexDigit.j1 k x0 (decide (x0 ≤ 102))) else (spec_hexDigit.j1 k x0 false))
def spec_hexDigit.j1 : Nat → Int → Bool → Option (Int × Bool)
  | 0, _, _ => none
  | k + 1, x0, x14 => if x14 = true then (some (((x0 - 97) % 256) + 10, true)) else (if 65 ≤ x0 then (if x0 ≤ 70 then (some (((x0 - 65) % 256) + 10, true)) else (some (0, false))) else (some (0, false)))
end
def spec_hexDigit.f (k : Nat) (a0 : Int) : Option (Int × Bool) := if 48 ≤ a0 then (spec_hexDigit.j0 k a0 (decide (a0 ≤ 57))) else (spec_hexDigit.j0 k a0 false)
theorem spec_hexDigit.mono_l : ∀ k, (∀ y0 y1, LeO (spec_hexDigit.j0 k y0 y1) (spec_hexDigit.j0 (k + 1) y0 y1)) ∧ (∀ y0 y1, LeO (spec_hexDigit.j1 k y0 y1) (spec_hexDigit.j1 (k + 1) y0 y1))
  | 0 => ⟨fun _ _ r h => by simp [spec_hexDigit.j0] at h, fun _ _ r h => by simp [spec_hexDigit.j1] at h⟩
  | k + 1 => by
    obtain ⟨ih0, ih1⟩ := spec_hexDigit.mono_l k
    refine ⟨?_, ?_⟩
    · intro y0 y1
      unfold spec_hexDigit.j0
      repeat' first
      | (with_reducible exact ih0 _ _)
      | (with_reducible exact ih1 _ _)
      | (with_reducible exact LeO.refl _)
      | (with_reducible exact LeO.none _)
      | (with_reducible refine LeO.ite ?_ ?_)
      | (with_reducible refine LeO.bind ?_ (fun _ => ?_))
      | exact ih0 _ _
      | exact ih1 _ _
      | exact LeO.none _
      | refine LeO.ite ?_ ?_
      | refine LeO.bind ?_ (fun _ => ?_)
    · intro y0 y1
      unfold spec_hexDigit.j1
      repeat' first
      | (with_reducible exact ih0 _ _)
      | (with_reducible exact ih1 _ _)
      | (with_reducible exact LeO.refl _)
      | (with_reducible exact LeO.none _)
      | (with_reducible refine LeO.ite ?_ ?_)
      | (with_reducible refine LeO.bind ?_ (fun _ => ?_))
      | exact ih0 _ _
      | exact ih1 _ _
      | exact LeO.none _
      | refine LeO.ite ?_ ?_
      | refine LeO.bind ?_ (fun _ => ?_)
theorem spec_hexDigit.mono : ∀ a0 k, LeO (spec_hexDigit.f k a0) (spec_hexDigit.f (k + 1) a0) := by
  intro a0 k
  obtain ⟨ih0, ih1⟩ := spec_hexDigit.mono_l k
  unfold spec_hexDigit.f
  repeat' first
      | (with_reducible exact ih0 _ _)
      | (with_reducible exact ih1 _ _)
      | (with_reducible exact LeO.refl _)
      | (with_reducible exact LeO.none _)
      | (with_reducible refine LeO.ite ?_ ?_)
      | (with_reducible refine LeO.bind ?_ (fun _ => ?_))
      | exact ih0 _ _
      | exact ih1 _ _
      | exact LeO.none _
      | refine LeO.ite ?_ ?_
      | refine LeO.bind ?_ (fun _ => ?_)
set_option maxHeartbeats 8000000 in
set_option maxRecDepth 100000 in
theorem spec_hexDigit.calls (k : Nat) (a0 : Int) (r1 : Int) (r2 : Bool) (w : World) (h : spec_hexDigit.f k a0 = some (r1, r2)) :
    Calls Try.prog 20 #[.int .u8 a0] w fun e w' => e = .returned (.tuple #[.int .i64 r1, .bool r2]) ∧ Drawn0 w w' := by
  have H : (if 48 ≤ a0 then (spec_hexDigit.j0 k a0 (decide (a0 ≤ 57))) else (spec_hexDigit.j0 k a0 false)) = some (r1, r2) := h
  clear h
  have HC2 := Aside0.mk H
  clear H
  go_enter Try.func20, Try.ntmps20
  go_upto_region 1 with (fail)
  go_cut [4] (fun v4 wc => ∃ (kq : Nat) (x4_1 : Bool), v4 = .bool x4_1 ∧ Aside0 (spec_hexDigit.j0 kq a0 x4_1 = some (r1, r2)) ∧ Aside0 (kq ≤ k) ∧ Drawn0 w wc)
  case first =>
    have H := HC2.out
    clear HC2
    by_cases c3 : 48 ≤ a0
    · rw [if_pos c3] at H
      have c3b0 : decide (48 ≤ a0) = true := decide_eq_true c3
      clear c3
      (first | rw [c3b0] | (simp only [i64_w, i32_w]; rw [c3b0]) | skip)
      have H' := Aside0.mk H
      clear H
      go_wp2
      go_meet
      case rel => exact ⟨_, (decide (a0 ≤ 57)), (by first | rfl | (simp; done) | (simp [*]; done)), H', ⟨by first | omega | exact Nat.le_refl _⟩, by repeat (first | exact Drawn0.refl _ | apply Drawn0.step)⟩
    · rw [if_neg c3] at H
      have c3b0 : decide (48 ≤ a0) = false := decide_eq_false c3
      clear c3
      (first | rw [c3b0] | (simp only [i64_w, i32_w]; rw [c3b0]) | skip)
      have H' := Aside0.mk H
      clear H
      go_wp2
      go_meet
      case rel => exact ⟨_, (false), (by first | rfl | (simp; done) | (simp [*]; done)), H', ⟨by first | omega | exact Nat.le_refl _⟩, by repeat (first | exact Drawn0.refl _ | apply Drawn0.step)⟩
  case rest =>
    clear HC2
    try clear c2
    try clear p2
    try clear c3
    try clear c3b0
    obtain ⟨kq, x4_1, rfl, HA, HJ1, ⟨mc1, rfl⟩⟩ := hcut
    cases kq with
    | zero => exact absurd HA.out (by simp [spec_hexDigit.j0])
    | succ kj1 =>
      have H := HA.out
      clear HA
      simp only [spec_hexDigit.j0] at H
      by_cases c4 : x4_1 = true
      · subst c4
        have H1 : (some ((a0 - 48) % 256, true)) = some (r1, r2) := by rw [if_pos rfl] at H; exact H
        clear H
        have H := H1
        clear H1
        simp only [Option.some.injEq, Prod.mk.injEq] at H
        obtain ⟨rfl, rfl⟩ := H
        go_wp2
        go_ret2
        exact ⟨by first | rfl | (simp; done) | (simp [*]; done), by repeat (first | exact Drawn0.refl _ | apply Drawn0.step)⟩
      · replace c4 := Bool.eq_false_iff.mpr c4
        subst c4
        have H1 : (if 97 ≤ a0 then (spec_hexDigit.j1 kj1 a0 (decide (a0 ≤ 102))) else (spec_hexDigit.j1 kj1 a0 false)) = some (r1, r2) := by rw [if_neg (show ¬ (false = true) by decide)] at H; exact H
        clear H
        have H := H1
        clear H1
        have HC5 := Aside0.mk H
        clear H
        go_upto_region 3 with (fail)
        go_cut [14] (fun v14 wc => ∃ (kq : Nat) (x14_4 : Bool), v14 = .bool x14_4 ∧ Aside0 (spec_hexDigit.j1 kq a0 x14_4 = some (r1, r2)) ∧ Aside0 (kq ≤ kj1) ∧ Drawn0 w wc)
        case first =>
          have H := HC5.out
          clear HC5
          by_cases c6 : 97 ≤ a0
          · rw [if_pos c6] at H
            have c6b0 : decide (97 ≤ a0) = true := decide_eq_true c6
            clear c6
            (first | rw [c6b0] | (simp only [i64_w, i32_w]; rw [c6b0]) | skip)
            have H' := Aside0.mk H
            clear H
            go_wp2
            go_meet
            case rel => exact ⟨_, (decide (a0 ≤ 102)), (by first | rfl | (simp; done) | (simp [*]; done)), H', ⟨by have := HJ1.out; first | omega | exact Nat.le_refl _⟩, by repeat (first | exact Drawn0.refl _ | apply Drawn0.step)⟩
          · rw [if_neg c6] at H
            have c6b0 : decide (97 ≤ a0) = false := decide_eq_false c6
            clear c6
            (first | rw [c6b0] | (simp only [i64_w, i32_w]; rw [c6b0]) | skip)
            have H' := Aside0.mk H
            clear H
            go_wp2
            go_meet
            case rel => exact ⟨_, (false), (by first | rfl | (simp; done) | (simp [*]; done)), H', ⟨by have := HJ1.out; first | omega | exact Nat.le_refl _⟩, by repeat (first | exact Drawn0.refl _ | apply Drawn0.step)⟩
        case rest =>
          clear HC5
          try clear c1
          try clear c2
          try clear p2
          try clear c3
          try clear c3b0
          try clear c4
          try clear c6
          try clear c6b0
          try clear p2
          obtain ⟨kq, x14_4, rfl, HA, HJ4, ⟨mc4, rfl⟩⟩ := hcut
          cases kq with
          | zero => exact absurd HA.out (by simp [spec_hexDigit.j1])
          | succ kj4 =>
            have H := HA.out
            clear HA
            simp only [spec_hexDigit.j1] at H
            by_cases c7 : x14_4 = true
            · subst c7
              have H1 : (some (((a0 - 97) % 256) + 10, true)) = some (r1, r2) := by rw [if_pos rfl] at H; exact H
              clear H
              have H := H1
              clear H1
              simp only [Option.some.injEq, Prod.mk.injEq] at H
              obtain ⟨rfl, rfl⟩ := H
              go_wp2
              go_ret2
              exact ⟨by first | rfl | (simp; done) | (simp [*]; done), by repeat (first | exact Drawn0.refl _ | apply Drawn0.step)⟩
            · replace c7 := Bool.eq_false_iff.mpr c7
              subst c7
              have H1 : (if 65 ≤ a0 then (if a0 ≤ 70 then (some (((a0 - 65) % 256) + 10, true)) else (some (0, false))) else (some (0, false))) = some (r1, r2) := by rw [if_neg (show ¬ (false = true) by decide)] at H; exact H
              clear H
              have H := H1
              clear H1
              by_cases c8 : 65 ≤ a0
              · rw [if_pos c8] at H
                have c8b0 : decide (65 ≤ a0) = true := decide_eq_true c8
                clear c8
                by_cases c9 : a0 ≤ 70
                · rw [if_pos c9] at H
                  have c9b0 : decide (a0 ≤ 70) = true := decide_eq_true c9
                  clear c9
                  simp only [Option.some.injEq, Prod.mk.injEq] at H
                  obtain ⟨rfl, rfl⟩ := H
                  go_wp2
                  go_ret2
                  exact ⟨by first | rfl | (simp; done) | (simp [*]; done), by repeat (first | exact Drawn0.refl _ | apply Drawn0.step)⟩
                · rw [if_neg c9] at H
                  have c9b0 : decide (a0 ≤ 70) = false := decide_eq_false c9
                  clear c9
                  simp only [Option.some.injEq, Prod.mk.injEq] at H
                  obtain ⟨rfl, rfl⟩ := H
                  go_wp2
                  go_ret2
                  exact ⟨by first | rfl | (simp; done) | (simp [*]; done), by repeat (first | exact Drawn0.refl _ | apply Drawn0.step)⟩
              · rw [if_neg c8] at H
                have c8b0 : decide (65 ≤ a0) = false := decide_eq_false c8
                clear c8
                simp only [Option.some.injEq, Prod.mk.injEq] at H
                obtain ⟨rfl, rfl⟩ := H
                go_wp2
                go_ret2
                exact ⟨by first | rfl | (simp; done) | (simp [*]; done), by repeat (first | exact Drawn0.refl _ | apply Drawn0.step)⟩
/-! ### spec_reader_escape: function 14 -/
mutual
def spec_reader_escape.j0 : Nat → Int → Bool → ByteArray → Int → Option (Bool × ByteArray × Int)
  | 0, _, _, _, _ => none
  | k + 1, x7, x8, x1000, x1001 => if x8 = true then (some (true, x1000, wrap64 (x1001 + 1))) else (if x7 = 117 then (spec_reader_escape.l0 k 0 x1000 (wrap64 (x1001 + 1))) else (some (false, x1000, x1001)))
def spec_reader_escape.l0 : Nat → Int → ByteArray → Int → Option (Bool × ByteArray × Int)
  | 0, _, _, _ => none
  | k + 1, x3, x1000, x1001 => if x3 < 4 then ((spec_reader_here.f x1000 x1001).bind fun bt104 => ((spec_hexDigit.f k bt104.1).bind fun bt107 => (if bt107.2 = true then (spec_reader_escape.l0 k (wrap64 (x3 + 1)) bt104.2.1 (wrap64 (bt104.2.2 + 1))) else (some (false, bt104.2.1, bt104.2.2))))) else (some (true, x1000, x1001))
end
def spec_reader_escape.f (k : Nat) (s0_0 : ByteArray) (s0_1 : Int) : Option (Bool × ByteArray × Int) := (spec_reader_here.f s0_0 s0_1).bind fun bt101 => (if bt101.1 = 34 then (spec_reader_escape.j0 k bt101.1 (bt101.1 == 34) bt101.2.1 bt101.2.2) else (if bt101.1 = 92 then (spec_reader_escape.j0 k bt101.1 (bt101.1 == 92) bt101.2.1 bt101.2.2) else (if bt101.1 = 47 then (spec_reader_escape.j0 k bt101.1 (bt101.1 == 47) bt101.2.1 bt101.2.2) else (if bt101.1 = 98 then (spec_reader_escape.j0 k bt101.1 (bt101.1 == 98) bt101.2.1 bt101.2.2) else (if bt101.1 = 102 then (spec_reader_escape.j0 k bt101.1 (bt101.1 == 102) bt101.2.1 bt101.2.2) else (if bt101.1 = 110 then (spec_reader_escape.j0 k bt101.1 (bt101.1 == 110) bt101.2.1 bt101.2.2) else (if bt101.1 = 114 then (spec_reader_escape.j0 k bt101.1 (bt101.1 == 114) bt101.2.1 bt101.2.2) else (spec_reader_escape.j0 k bt101.1 (bt101.1 == 116) bt101.2.1 bt101.2.2))))))))
theorem spec_reader_escape.mono_l : ∀ k, (∀ y0 y1 y2 y3, LeO (spec_reader_escape.j0 k y0 y1 y2 y3) (spec_reader_escape.j0 (k + 1) y0 y1 y2 y3)) ∧ (∀ y0 y1 y2, LeO (spec_reader_escape.l0 k y0 y1 y2) (spec_reader_escape.l0 (k + 1) y0 y1 y2))
  | 0 => ⟨fun _ _ _ _ r h => by simp [spec_reader_escape.j0] at h, fun _ _ _ r h => by simp [spec_reader_escape.l0] at h⟩
  | k + 1 => by
    obtain ⟨ih0, ih1⟩ := spec_reader_escape.mono_l k
    refine ⟨?_, ?_⟩
    · intro y0 y1 y2 y3
      unfold spec_reader_escape.j0
      repeat' first
      | (with_reducible exact ih0 _ _ _ _)
      | (with_reducible exact ih1 _ _ _)
      | (with_reducible exact spec_hexDigit.mono _ _)
      | (with_reducible exact LeO.refl _)
      | (with_reducible exact LeO.none _)
      | (with_reducible refine LeO.ite ?_ ?_)
      | (with_reducible refine LeO.bind ?_ (fun _ => ?_))
      | exact ih0 _ _ _ _
      | exact ih1 _ _ _
      | exact spec_hexDigit.mono _ _
      | exact LeO.none _
      | refine LeO.ite ?_ ?_
      | refine LeO.bind ?_ (fun _ => ?_)
    · intro y0 y1 y2
      unfold spec_reader_escape.l0
      repeat' first
      | (with_reducible exact ih0 _ _ _ _)
      | (with_reducible exact ih1 _ _ _)
      | (with_reducible exact spec_hexDigit.mono _ _)
      | (with_reducible exact LeO.refl _)
      | (with_reducible exact LeO.none _)
      | (with_reducible refine LeO.ite ?_ ?_)
      | (with_reducible refine LeO.bind ?_ (fun _ => ?_))
      | exact ih0 _ _ _ _
      | exact ih1 _ _ _
      | exact spec_hexDigit.mono _ _
      | exact LeO.none _
      | refine LeO.ite ?_ ?_
      | refine LeO.bind ?_ (fun _ => ?_)
theorem spec_reader_escape.mono : ∀ a0 a1 k, LeO (spec_reader_escape.f k a0 a1) (spec_reader_escape.f (k + 1) a0 a1) := by
  intro a0 a1 k
  obtain ⟨ih0, ih1⟩ := spec_reader_escape.mono_l k
  unfold spec_reader_escape.f
  repeat' first
      | (with_reducible exact ih0 _ _ _ _)
      | (with_reducible exact ih1 _ _ _)
      | (with_reducible exact spec_hexDigit.mono _ _)
      | (with_reducible exact LeO.refl _)
      | (with_reducible exact LeO.none _)
      | (with_reducible refine LeO.ite ?_ ?_)
      | (with_reducible refine LeO.bind ?_ (fun _ => ?_))
      | exact ih0 _ _ _ _
      | exact ih1 _ _ _
      | exact spec_hexDigit.mono _ _
      | exact LeO.none _
      | refine LeO.ite ?_ ?_
      | refine LeO.bind ?_ (fun _ => ?_)
set_option maxHeartbeats 8000000 in
set_option maxRecDepth 100000 in
theorem spec_reader_escape.calls (k : Nat) (g : Nat) (s0_0 : ByteArray) (s0_1 : Int) (r1 : Bool) (r2 : ByteArray) (r3 : Int) (w0 w : World) (hI : IsS31 w0 w g s0_0 s0_1) (hB : Below w0.heap.size w0 w) (h : spec_reader_escape.f k s0_0 s0_1 = some (r1, r2, r3)) :
    Calls Try.prog 14 #[.pointer (some ⟨g, 0, none⟩)] w fun e w' => e = .returned (.bool r1) ∧ IsS31 w0 w' g r2 r3 ∧ Below w0.heap.size w0 w' ∧ KeepBut w w' g none := by
  have HI0 := Aside0.mk hI
  have HK := Aside0.mk (KeepBut.refl w g none)
  have HL := Aside0.mk hB.size
  clear hI
  have HW0 := Aside0.mk hB.size
  have HB := Aside0.mk hB
  clear hB
  have H : ((spec_reader_here.f s0_0 s0_1).bind fun bt101 => (if bt101.1 = 34 then (spec_reader_escape.j0 k bt101.1 (bt101.1 == 34) bt101.2.1 bt101.2.2) else (if bt101.1 = 92 then (spec_reader_escape.j0 k bt101.1 (bt101.1 == 92) bt101.2.1 bt101.2.2) else (if bt101.1 = 47 then (spec_reader_escape.j0 k bt101.1 (bt101.1 == 47) bt101.2.1 bt101.2.2) else (if bt101.1 = 98 then (spec_reader_escape.j0 k bt101.1 (bt101.1 == 98) bt101.2.1 bt101.2.2) else (if bt101.1 = 102 then (spec_reader_escape.j0 k bt101.1 (bt101.1 == 102) bt101.2.1 bt101.2.2) else (if bt101.1 = 110 then (spec_reader_escape.j0 k bt101.1 (bt101.1 == 110) bt101.2.1 bt101.2.2) else (if bt101.1 = 114 then (spec_reader_escape.j0 k bt101.1 (bt101.1 == 114) bt101.2.1 bt101.2.2) else (spec_reader_escape.j0 k bt101.1 (bt101.1 == 116) bt101.2.1 bt101.2.2))))))))) = some (r1, r2, r3) := h
  clear h
  replace H := Option.bind_eq_some_iff.mp H
  obtain ⟨⟨t101, t102, t103⟩, A20, H⟩ := H
  replace H : (if t101 = 34 then (spec_reader_escape.j0 k t101 (t101 == 34) t102 t103) else (if t101 = 92 then (spec_reader_escape.j0 k t101 (t101 == 92) t102 t103) else (if t101 = 47 then (spec_reader_escape.j0 k t101 (t101 == 47) t102 t103) else (if t101 = 98 then (spec_reader_escape.j0 k t101 (t101 == 98) t102 t103) else (if t101 = 102 then (spec_reader_escape.j0 k t101 (t101 == 102) t102 t103) else (if t101 = 110 then (spec_reader_escape.j0 k t101 (t101 == 110) t102 t103) else (if t101 = 114 then (spec_reader_escape.j0 k t101 (t101 == 114) t102 t103) else (spec_reader_escape.j0 k t101 (t101 == 116) t102 t103)))))))) = some (r1, r2, r3) := H
  have A2 := Aside0.mk A20
  clear A20
  have HC3 := Aside0.mk H
  clear H
  go_enter Try.func14, Try.ntmps14
  go_upto_if 8 with (first | ((with_reducible refine gate_callee (f := 19) rfl ?_); refine goesL_ (some 7) rfl rfl Try.func19 (by kernel_rfl) rfl #[.pointer (some ⟨g, 0, none⟩)] rfl (by (try simp only [List.map_toArray, List.map_cons, List.map_nil]); first | done | rfl | (simp only [List.length_drop, List.length_take]; rfl)) ?_; (with_reducible refine (spec_reader_here.calls g s0_0 s0_1 t101 t102 t103 w0 _ ?side1 ?side2 A2.out).mono ?_); (case side1 => repeat (first | (with_reducible first | exact HI0.out | apply IsS31.alloc | apply IsS31.drewN | apply IsS31.drew | apply IsS31.set_0 | apply IsS31.set_1) | exact HI0.out)); (case side2 => repeat (first | (with_reducible first | exact HB.out | apply below_alloc | apply pw_below_drewN | apply below_drew1 | refine below_set ?_ (IsS31.ge HI0.out)) | exact HB.out)); rintro e w4 ⟨rfl, hi, hb, hk⟩; refine ⟨_, rfl, ?_⟩; have n0_ := Aside0.mk (KeepBut.trans (by repeat (first | (with_reducible first | exact HK.out | apply KeepBut.set_ | apply keep_drewN | apply keep_drew | apply keep_alloc) | exact HK.out)) hk (.inl rfl)); have n1_ := Aside0.mk (hb); have n2_ := Aside0.mk (hi); clear HK; clear HB; clear HI0; have HK := n0_; have HB := n1_; have HI0 := n2_; clear n0_ n1_ n2_; (try clear hb); (try clear hb2); (try clear hk); (try clear hi)))
  (try simp only [Act.put, List.setIfInBounds_toArray, List.set_cons_zero, List.set_cons_succ])
  go_cut [8] (fun v8 wc => ∃ (kq : Nat) (x8_2 : Bool), v8 = .bool x8_2 ∧ Aside0 (spec_reader_escape.j0 kq t101 x8_2 t102 t103 = some (r1, r2, r3)) ∧ Aside0 (kq ≤ k) ∧ Aside0 (IsS31 w0 wc g t102 t103) ∧ Aside0 (KeepBut w wc g none) ∧ Aside0 (Below w0.heap.size w0 wc))
  case first =>
    have H := HC3.out
    clear HC3
    by_cases c5 : t101 = 34
    · rw [if_pos c5] at H
      have c5b0 : (t101 == 34) = true := beq_iff_eq.mpr c5
      have c5b1 : (t101 != 34) = false := bne_eq_false_iff_eq.mpr c5
      clear c5
      (first | rw [c5b0] | (simp only [i64_w, i32_w]; rw [c5b0]) | skip)
      have H' := Aside0.mk H
      clear H
      go_wp2
      go_meet
      case rel => exact ⟨_, ((t101 == 34)), (by first | rfl | (simp; done) | (simp [*]; done)), H', ⟨by first | omega | exact Nat.le_refl _⟩, ⟨by repeat (first | (with_reducible first | exact HI0.out | apply IsS31.alloc | apply IsS31.drewN | apply IsS31.drew | apply IsS31.set_0 | apply IsS31.set_1) | exact HI0.out)⟩, ⟨by repeat (first | (with_reducible first | exact HK.out | apply KeepBut.set_ | apply keep_drewN | apply keep_drew | apply keep_alloc) | exact HK.out)⟩, ⟨by repeat (first | (with_reducible first | exact HB.out | apply below_alloc | apply pw_below_drewN | apply below_drew1 | refine below_set ?_ (IsS31.ge HI0.out)) | exact HB.out)⟩⟩
    · rw [if_neg c5] at H
      have c5b0 : (t101 == 34) = false := beq_eq_false_iff_ne.mpr c5
      have c5b1 : (t101 != 34) = true := bne_iff_ne.mpr c5
      (first | rw [c5b0] | (simp only [i64_w, i32_w]; rw [c5b0]) | skip)
      by_cases c6 : t101 = 92
      · rw [if_pos c6] at H
        have c6b0 : (t101 == 92) = true := beq_iff_eq.mpr c6
        have c6b1 : (t101 != 92) = false := bne_eq_false_iff_eq.mpr c6
        clear c6
        have H' := Aside0.mk H
        clear H
        go_wp2
        go_meet
        case rel => exact ⟨_, ((t101 == 92)), (by first | rfl | (simp; done) | (simp [*]; done)), H', ⟨by first | omega | exact Nat.le_refl _⟩, ⟨by repeat (first | (with_reducible first | exact HI0.out | apply IsS31.alloc | apply IsS31.drewN | apply IsS31.drew | apply IsS31.set_0 | apply IsS31.set_1) | exact HI0.out)⟩, ⟨by repeat (first | (with_reducible first | exact HK.out | apply KeepBut.set_ | apply keep_drewN | apply keep_drew | apply keep_alloc) | exact HK.out)⟩, ⟨by repeat (first | (with_reducible first | exact HB.out | apply below_alloc | apply pw_below_drewN | apply below_drew1 | refine below_set ?_ (IsS31.ge HI0.out)) | exact HB.out)⟩⟩
      · rw [if_neg c6] at H
        have c6b0 : (t101 == 92) = false := beq_eq_false_iff_ne.mpr c6
        have c6b1 : (t101 != 92) = true := bne_iff_ne.mpr c6
        by_cases c7 : t101 = 47
        · rw [if_pos c7] at H
          have c7b0 : (t101 == 47) = true := beq_iff_eq.mpr c7
          have c7b1 : (t101 != 47) = false := bne_eq_false_iff_eq.mpr c7
          clear c7
          have H' := Aside0.mk H
          clear H
          go_wp2
          go_meet
          case rel => exact ⟨_, ((t101 == 47)), (by first | rfl | (simp; done) | (simp [*]; done)), H', ⟨by first | omega | exact Nat.le_refl _⟩, ⟨by repeat (first | (with_reducible first | exact HI0.out | apply IsS31.alloc | apply IsS31.drewN | apply IsS31.drew | apply IsS31.set_0 | apply IsS31.set_1) | exact HI0.out)⟩, ⟨by repeat (first | (with_reducible first | exact HK.out | apply KeepBut.set_ | apply keep_drewN | apply keep_drew | apply keep_alloc) | exact HK.out)⟩, ⟨by repeat (first | (with_reducible first | exact HB.out | apply below_alloc | apply pw_below_drewN | apply below_drew1 | refine below_set ?_ (IsS31.ge HI0.out)) | exact HB.out)⟩⟩
        · rw [if_neg c7] at H
          have c7b0 : (t101 == 47) = false := beq_eq_false_iff_ne.mpr c7
          have c7b1 : (t101 != 47) = true := bne_iff_ne.mpr c7
          by_cases c8 : t101 = 98
          · rw [if_pos c8] at H
            have c8b0 : (t101 == 98) = true := beq_iff_eq.mpr c8
            have c8b1 : (t101 != 98) = false := bne_eq_false_iff_eq.mpr c8
            clear c8
            have H' := Aside0.mk H
            clear H
            go_wp2
            go_meet
            case rel => exact ⟨_, ((t101 == 98)), (by first | rfl | (simp; done) | (simp [*]; done)), H', ⟨by first | omega | exact Nat.le_refl _⟩, ⟨by repeat (first | (with_reducible first | exact HI0.out | apply IsS31.alloc | apply IsS31.drewN | apply IsS31.drew | apply IsS31.set_0 | apply IsS31.set_1) | exact HI0.out)⟩, ⟨by repeat (first | (with_reducible first | exact HK.out | apply KeepBut.set_ | apply keep_drewN | apply keep_drew | apply keep_alloc) | exact HK.out)⟩, ⟨by repeat (first | (with_reducible first | exact HB.out | apply below_alloc | apply pw_below_drewN | apply below_drew1 | refine below_set ?_ (IsS31.ge HI0.out)) | exact HB.out)⟩⟩
          · rw [if_neg c8] at H
            have c8b0 : (t101 == 98) = false := beq_eq_false_iff_ne.mpr c8
            have c8b1 : (t101 != 98) = true := bne_iff_ne.mpr c8
            by_cases c9 : t101 = 102
            · rw [if_pos c9] at H
              have c9b0 : (t101 == 102) = true := beq_iff_eq.mpr c9
              have c9b1 : (t101 != 102) = false := bne_eq_false_iff_eq.mpr c9
              clear c9
              have H' := Aside0.mk H
              clear H
              go_wp2
              go_meet
              case rel => exact ⟨_, ((t101 == 102)), (by first | rfl | (simp; done) | (simp [*]; done)), H', ⟨by first | omega | exact Nat.le_refl _⟩, ⟨by repeat (first | (with_reducible first | exact HI0.out | apply IsS31.alloc | apply IsS31.drewN | apply IsS31.drew | apply IsS31.set_0 | apply IsS31.set_1) | exact HI0.out)⟩, ⟨by repeat (first | (with_reducible first | exact HK.out | apply KeepBut.set_ | apply keep_drewN | apply keep_drew | apply keep_alloc) | exact HK.out)⟩, ⟨by repeat (first | (with_reducible first | exact HB.out | apply below_alloc | apply pw_below_drewN | apply below_drew1 | refine below_set ?_ (IsS31.ge HI0.out)) | exact HB.out)⟩⟩
            · rw [if_neg c9] at H
              have c9b0 : (t101 == 102) = false := beq_eq_false_iff_ne.mpr c9
              have c9b1 : (t101 != 102) = true := bne_iff_ne.mpr c9
              by_cases c10 : t101 = 110
              · rw [if_pos c10] at H
                have c10b0 : (t101 == 110) = true := beq_iff_eq.mpr c10
                have c10b1 : (t101 != 110) = false := bne_eq_false_iff_eq.mpr c10
                clear c10
                have H' := Aside0.mk H
                clear H
                go_wp2
                go_meet
                case rel => exact ⟨_, ((t101 == 110)), (by first | rfl | (simp; done) | (simp [*]; done)), H', ⟨by first | omega | exact Nat.le_refl _⟩, ⟨by repeat (first | (with_reducible first | exact HI0.out | apply IsS31.alloc | apply IsS31.drewN | apply IsS31.drew | apply IsS31.set_0 | apply IsS31.set_1) | exact HI0.out)⟩, ⟨by repeat (first | (with_reducible first | exact HK.out | apply KeepBut.set_ | apply keep_drewN | apply keep_drew | apply keep_alloc) | exact HK.out)⟩, ⟨by repeat (first | (with_reducible first | exact HB.out | apply below_alloc | apply pw_below_drewN | apply below_drew1 | refine below_set ?_ (IsS31.ge HI0.out)) | exact HB.out)⟩⟩
              · rw [if_neg c10] at H
                have c10b0 : (t101 == 110) = false := beq_eq_false_iff_ne.mpr c10
                have c10b1 : (t101 != 110) = true := bne_iff_ne.mpr c10
                by_cases c11 : t101 = 114
                · rw [if_pos c11] at H
                  have c11b0 : (t101 == 114) = true := beq_iff_eq.mpr c11
                  have c11b1 : (t101 != 114) = false := bne_eq_false_iff_eq.mpr c11
                  clear c11
                  have H' := Aside0.mk H
                  clear H
                  go_wp2
                  go_meet
                  case rel => exact ⟨_, ((t101 == 114)), (by first | rfl | (simp; done) | (simp [*]; done)), H', ⟨by first | omega | exact Nat.le_refl _⟩, ⟨by repeat (first | (with_reducible first | exact HI0.out | apply IsS31.alloc | apply IsS31.drewN | apply IsS31.drew | apply IsS31.set_0 | apply IsS31.set_1) | exact HI0.out)⟩, ⟨by repeat (first | (with_reducible first | exact HK.out | apply KeepBut.set_ | apply keep_drewN | apply keep_drew | apply keep_alloc) | exact HK.out)⟩, ⟨by repeat (first | (with_reducible first | exact HB.out | apply below_alloc | apply pw_below_drewN | apply below_drew1 | refine below_set ?_ (IsS31.ge HI0.out)) | exact HB.out)⟩⟩
                · rw [if_neg c11] at H
                  have c11b0 : (t101 == 114) = false := beq_eq_false_iff_ne.mpr c11
                  have c11b1 : (t101 != 114) = true := bne_iff_ne.mpr c11
                  have H' := Aside0.mk H
                  clear H
                  go_wp2
                  go_meet
                  case rel => exact ⟨_, ((t101 == 116)), (by first | rfl | (simp; done) | (simp [*]; done)), H', ⟨by first | omega | exact Nat.le_refl _⟩, ⟨by repeat (first | (with_reducible first | exact HI0.out | apply IsS31.alloc | apply IsS31.drewN | apply IsS31.drew | apply IsS31.set_0 | apply IsS31.set_1) | exact HI0.out)⟩, ⟨by repeat (first | (with_reducible first | exact HK.out | apply KeepBut.set_ | apply keep_drewN | apply keep_drew | apply keep_alloc) | exact HK.out)⟩, ⟨by repeat (first | (with_reducible first | exact HB.out | apply below_alloc | apply pw_below_drewN | apply below_drew1 | refine below_set ?_ (IsS31.ge HI0.out)) | exact HB.out)⟩⟩
  case rest =>
    clear HC3
    try clear c1
    try clear p2
    try clear c5
    try clear c5b0
    try clear c5b1
    try clear c6
    try clear c6b0
    try clear c6b1
    try clear c7
    try clear c7b0
    try clear c7b1
    try clear c8
    try clear c8b0
    try clear c8b1
    try clear c9
    try clear c9b0
    try clear c9b1
    try clear c10
    try clear c10b0
    try clear c10b1
    try clear c11
    try clear c11b0
    try clear c11b1
    obtain ⟨kq, x8_2, rfl, HA, HJ2, HI0, HK, HB⟩ := hcut
    cases kq with
    | zero => exact absurd HA.out (by simp [spec_reader_escape.j0])
    | succ kj2 =>
      have H := HA.out
      clear HA
      simp only [spec_reader_escape.j0] at H
      by_cases c12 : x8_2 = true
      · subst c12
        have H1 : (some (true, t102, wrap64 (t103 + 1))) = some (r1, r2, r3) := by rw [if_pos rfl] at H; exact H
        clear H
        have H := H1
        clear H1
        simp only [Option.some.injEq, Prod.mk.injEq] at H
        obtain ⟨rfl, rfl, rfl⟩ := H
        obtain ⟨HGz13, hgz13⟩ := HI0.out
        have hcz13_0 := cellS31_0 HGz13
        have hcz13_1 := cellS31_1 HGz13
        have hfz13_0 := blk_frozen HGz13 0
        have hfz13_1 := blk_frozen HGz13 1
        clear HGz13 hgz13
        go_wp2
        go_ret
        exact ⟨by first | rfl | (simp [errW_none, errW_some] <;> rfl) | (simp [*, errW_none, errW_some] <;> rfl), by repeat (first | (with_reducible first | exact HI0.out | apply IsS31.alloc | apply IsS31.drewN | apply IsS31.drew | apply IsS31.set_0 | apply IsS31.set_1) | exact HI0.out), by repeat (first | (with_reducible first | exact HB.out | apply below_alloc | apply pw_below_drewN | apply below_drew1 | refine below_set ?_ (IsS31.ge HI0.out)) | exact HB.out), by repeat (first | (with_reducible first | exact HK.out | apply KeepBut.set_ | apply keep_drewN | apply keep_drew | apply keep_alloc) | exact HK.out)⟩
      · replace c12 := Bool.eq_false_iff.mpr c12
        subst c12
        have H1 : (if t101 = 117 then (spec_reader_escape.l0 kj2 0 t102 (wrap64 (t103 + 1))) else (some (false, t102, t103))) = some (r1, r2, r3) := by rw [if_neg (show ¬ (false = true) by decide)] at H; exact H
        clear H
        have H := H1
        clear H1
        by_cases c14 : t101 = 117
        · rw [if_pos c14] at H
          have c14b0 : (t101 == 117) = true := beq_iff_eq.mpr c14
          have c14b1 : (t101 != 117) = false := bne_eq_false_iff_eq.mpr c14
          clear c14
          have H' := Aside0.mk H
          clear H
          obtain ⟨HGz15, hgz15⟩ := HI0.out
          have hcz15_0 := cellS31_0 HGz15
          have hcz15_1 := cellS31_1 HGz15
          have hfz15_0 := blk_frozen HGz15 0
          have hfz15_1 := blk_frozen HGz15 1
          clear HGz15 hgz15
          go_wp2
          try simp only [Act.put, List.setIfInBounds_toArray, List.set_cons_succ, List.set_cons_zero]
          go_loopg [3] kj2 (fun kq v3 w' => ∃ (x3_2 : Int) (x1000_2 : ByteArray) (x1001_2 : Int), v3 = .int .i64 x3_2 ∧ Aside0 (spec_reader_escape.l0 kq x3_2 x1000_2 x1001_2 = some (r1, r2, r3)) ∧ Aside0 (kq ≤ kj2) ∧ Aside0 (IsS31 w0 w' g x1000_2 x1001_2) ∧ Aside0 (KeepBut w w' g none) ∧ Aside0 (Below w0.heap.size w0 w'))
          case atStart => exact ⟨(0), (t102), (wrap64 (t103 + 1)), (by first | rfl | (simp; done) | (simp [*]; done)), H', ⟨Nat.le_refl _⟩, ⟨by repeat (first | (with_reducible first | exact HI0.out | apply IsS31.alloc | apply IsS31.drewN | apply IsS31.drew | apply IsS31.set_0 | apply IsS31.set_1) | exact HI0.out)⟩, ⟨by repeat (first | (with_reducible first | exact HK.out | apply KeepBut.set_ | apply keep_drewN | apply keep_drew | apply keep_alloc) | exact HK.out)⟩, ⟨by repeat (first | (with_reducible first | exact HB.out | apply below_alloc | apply pw_below_drewN | apply below_drew1 | refine below_set ?_ (IsS31.ge HI0.out)) | exact HB.out)⟩⟩
          case round =>
            clear H'
            try clear c1
            try clear p2
            try clear c5
            try clear c5b0
            try clear c5b1
            try clear c6
            try clear c6b0
            try clear c6b1
            try clear p6
            try clear c7
            try clear c7b0
            try clear c7b1
            try clear c8
            try clear c8b0
            try clear c8b1
            try clear c9
            try clear c9b0
            try clear c9b1
            try clear c10
            try clear c10b0
            try clear c10b1
            try clear c11
            try clear c11b0
            try clear c11b1
            try clear c12
            try clear c14
            try clear c14b0
            try clear c14b1
            try clear hcz13_0
            try clear hcz13_1
            try clear hcz15_0
            try clear hcz15_1
            try clear hfz13_0
            try clear hfz13_1
            try clear hfz15_0
            try clear hfz15_1
            try clear p2
            obtain ⟨x3_2, x1000_2, x1001_2, rfl, HA, HK2, HI0, HK, HB⟩ := hrel
            cases gk with
            | zero => exact absurd HA.out (by simp [spec_reader_escape.l0])
            | succ k2 =>
              have H := HA.out
              clear HA
              simp only [spec_reader_escape.l0] at H
              by_cases c16 : x3_2 < 4
              · rw [if_pos c16] at H
                have c16b0 : decide (x3_2 < 4) = true := decide_eq_true c16
                clear c16
                replace H := Option.bind_eq_some_iff.mp H
                obtain ⟨⟨t104, t105, t106⟩, A170, H⟩ := H
                replace H : ((spec_hexDigit.f k2 t104).bind fun bt107 => (if bt107.2 = true then (spec_reader_escape.l0 k2 (wrap64 (x3_2 + 1)) t105 (wrap64 (t106 + 1))) else (some (false, t105, t106)))) = some (r1, r2, r3) := H
                have A17 := Aside0.mk A170
                clear A170
                replace H := Option.bind_eq_some_iff.mp H
                obtain ⟨⟨t107, t108⟩, A180, H⟩ := H
                replace H : (if t108 = true then (spec_reader_escape.l0 k2 (wrap64 (x3_2 + 1)) t105 (wrap64 (t106 + 1))) else (some (false, t105, t106))) = some (r1, r2, r3) := H
                have A18 := Aside0.mk A180
                clear A180
                by_cases c19 : t108 = true
                · subst c19
                  have H1 : (spec_reader_escape.l0 k2 (wrap64 (x3_2 + 1)) t105 (wrap64 (t106 + 1))) = some (r1, r2, r3) := by rw [if_pos rfl] at H; exact H
                  clear H
                  have H := H1
                  clear H1
                  have H' := Aside0.mk H
                  clear H
                  go_wp2_with (first | ((with_reducible refine gate_callee (f := 19) rfl ?_); refine goesL_ (some 39) rfl rfl Try.func19 (by kernel_rfl) rfl #[.pointer (some ⟨g, 0, none⟩)] rfl (by (try simp only [List.map_toArray, List.map_cons, List.map_nil]); first | done | rfl | (simp only [List.length_drop, List.length_take]; rfl)) ?_; (with_reducible refine (spec_reader_here.calls g x1000_2 x1001_2 t104 t105 t106 w0 _ ?side1 ?side2 A17.out).mono ?_); (case side1 => repeat (first | (with_reducible first | exact HI0.out | apply IsS31.alloc | apply IsS31.drewN | apply IsS31.drew | apply IsS31.set_0 | apply IsS31.set_1) | exact HI0.out)); (case side2 => repeat (first | (with_reducible first | exact HB.out | apply below_alloc | apply pw_below_drewN | apply below_drew1 | refine below_set ?_ (IsS31.ge HI0.out)) | exact HB.out)); rintro e w20 ⟨rfl, hi, hb, hk⟩; refine ⟨_, rfl, ?_⟩; have n0_ := Aside0.mk (KeepBut.trans (by repeat (first | (with_reducible first | exact HK.out | apply KeepBut.set_ | apply keep_drewN | apply keep_drew | apply keep_alloc) | exact HK.out)) hk (.inl rfl)); have n1_ := Aside0.mk (hb); have n2_ := Aside0.mk (hi); clear HK; clear HB; clear HI0; have HK := n0_; have HB := n1_; have HI0 := n2_; clear n0_ n1_ n2_; (try clear hb); (try clear hb2); (try clear hk); (try clear hi)) | ((with_reducible refine gate_callee (f := 20) rfl ?_); refine goesL_ (some 40) rfl rfl Try.func20 (by kernel_rfl) rfl #[.int .u8 t104] rfl (by (try simp only [List.map_toArray, List.map_cons, List.map_nil]); first | done | rfl | (simp only [List.length_drop, List.length_take]; rfl)) ?_; (with_reducible refine (spec_hexDigit.calls k2 t104 t107 true _ A18.out).mono ?_); rintro e w' ⟨rfl, ⟨nd, rfl⟩⟩; refine ⟨_, rfl, ?_⟩; (try (rw [drewN_self w20]; generalize hq_ : World.drewN w20 _ = w20; have n0_ : Aside0 (IsS31 w0 w20 g t105 t106) := ⟨by rw [← hq_]; exact (by repeat (first | (with_reducible first | exact HI0.out | apply IsS31.alloc | apply IsS31.drewN | apply IsS31.drew | apply IsS31.set_0 | apply IsS31.set_1) | exact HI0.out))⟩; have n1_ : Aside0 (KeepBut w w20 g none) := ⟨by rw [← hq_]; exact (by repeat (first | (with_reducible first | exact HK.out | apply KeepBut.set_ | apply keep_drewN | apply keep_drew | apply keep_alloc) | exact HK.out))⟩; have n2_ : Aside0 (Below w0.heap.size w0 w20) := ⟨by rw [← hq_]; exact (by repeat (first | (with_reducible first | exact HB.out | apply below_alloc | apply pw_below_drewN | apply below_drew1 | refine below_set ?_ (IsS31.ge HI0.out)) | exact HB.out))⟩; clear HI0 HK HB hq_; have HI0 := n0_; have HK := n1_; have HB := n2_; clear n0_ n1_ n2_)); obtain ⟨HGz21, hgz21⟩ := HI0.out; have hcz21_0 := cellS31_0 HGz21; have hcz21_1 := cellS31_1 HGz21; have hfz21_0 := blk_frozen HGz21 0; have hfz21_1 := blk_frozen HGz21 1; clear HGz21 hgz21))
                  go_roundg k2
                  case measure => have := HJ2.out; have := HK2.out; omega
                  case rel => exact ⟨(wrap64 (x3_2 + 1)), (t105), (wrap64 (t106 + 1)), (by first | rfl | (simp; done) | (simp [*]; done)), H', ⟨by have := HJ2.out; have := HK2.out; omega⟩, ⟨by repeat (first | (with_reducible first | exact HI0.out | apply IsS31.alloc | apply IsS31.drewN | apply IsS31.drew | apply IsS31.set_0 | apply IsS31.set_1) | exact HI0.out)⟩, ⟨by repeat (first | (with_reducible first | exact HK.out | apply KeepBut.set_ | apply keep_drewN | apply keep_drew | apply keep_alloc) | exact HK.out)⟩, ⟨by repeat (first | (with_reducible first | exact HB.out | apply below_alloc | apply pw_below_drewN | apply below_drew1 | refine below_set ?_ (IsS31.ge HI0.out)) | exact HB.out)⟩⟩
                · replace c19 := Bool.eq_false_iff.mpr c19
                  subst c19
                  have H1 : (some (false, t105, t106)) = some (r1, r2, r3) := by rw [if_neg (show ¬ (false = true) by decide)] at H; exact H
                  clear H
                  have H := H1
                  clear H1
                  simp only [Option.some.injEq, Prod.mk.injEq] at H
                  obtain ⟨rfl, rfl, rfl⟩ := H
                  go_wp2_with (first | ((with_reducible refine gate_callee (f := 19) rfl ?_); refine goesL_ (some 39) rfl rfl Try.func19 (by kernel_rfl) rfl #[.pointer (some ⟨g, 0, none⟩)] rfl (by (try simp only [List.map_toArray, List.map_cons, List.map_nil]); first | done | rfl | (simp only [List.length_drop, List.length_take]; rfl)) ?_; (with_reducible refine (spec_reader_here.calls g x1000_2 x1001_2 t104 t105 t106 w0 _ ?side1 ?side2 A17.out).mono ?_); (case side1 => repeat (first | (with_reducible first | exact HI0.out | apply IsS31.alloc | apply IsS31.drewN | apply IsS31.drew | apply IsS31.set_0 | apply IsS31.set_1) | exact HI0.out)); (case side2 => repeat (first | (with_reducible first | exact HB.out | apply below_alloc | apply pw_below_drewN | apply below_drew1 | refine below_set ?_ (IsS31.ge HI0.out)) | exact HB.out)); rintro e w22 ⟨rfl, hi, hb, hk⟩; refine ⟨_, rfl, ?_⟩; have n0_ := Aside0.mk (KeepBut.trans (by repeat (first | (with_reducible first | exact HK.out | apply KeepBut.set_ | apply keep_drewN | apply keep_drew | apply keep_alloc) | exact HK.out)) hk (.inl rfl)); have n1_ := Aside0.mk (hb); have n2_ := Aside0.mk (hi); clear HK; clear HB; clear HI0; have HK := n0_; have HB := n1_; have HI0 := n2_; clear n0_ n1_ n2_; (try clear hb); (try clear hb2); (try clear hk); (try clear hi)) | ((with_reducible refine gate_callee (f := 20) rfl ?_); refine goesL_ (some 40) rfl rfl Try.func20 (by kernel_rfl) rfl #[.int .u8 t104] rfl (by (try simp only [List.map_toArray, List.map_cons, List.map_nil]); first | done | rfl | (simp only [List.length_drop, List.length_take]; rfl)) ?_; (with_reducible refine (spec_hexDigit.calls k2 t104 t107 false _ A18.out).mono ?_); rintro e w' ⟨rfl, ⟨nd, rfl⟩⟩; refine ⟨_, rfl, ?_⟩))
                  go_ret
                  exact ⟨by first | rfl | (simp [errW_none, errW_some] <;> rfl) | (simp [*, errW_none, errW_some] <;> rfl), by repeat (first | (with_reducible first | exact HI0.out | apply IsS31.alloc | apply IsS31.drewN | apply IsS31.drew | apply IsS31.set_0 | apply IsS31.set_1) | exact HI0.out), by repeat (first | (with_reducible first | exact HB.out | apply below_alloc | apply pw_below_drewN | apply below_drew1 | refine below_set ?_ (IsS31.ge HI0.out)) | exact HB.out), by repeat (first | (with_reducible first | exact HK.out | apply KeepBut.set_ | apply keep_drewN | apply keep_drew | apply keep_alloc) | exact HK.out)⟩
              · rw [if_neg c16] at H
                have c16b0 : decide (x3_2 < 4) = false := decide_eq_false c16
                clear c16
                simp only [Option.some.injEq, Prod.mk.injEq] at H
                obtain ⟨rfl, rfl, rfl⟩ := H
                go_wp2
                go_ret
                exact ⟨by first | rfl | (simp [errW_none, errW_some] <;> rfl) | (simp [*, errW_none, errW_some] <;> rfl), by repeat (first | (with_reducible first | exact HI0.out | apply IsS31.alloc | apply IsS31.drewN | apply IsS31.drew | apply IsS31.set_0 | apply IsS31.set_1) | exact HI0.out), by repeat (first | (with_reducible first | exact HB.out | apply below_alloc | apply pw_below_drewN | apply below_drew1 | refine below_set ?_ (IsS31.ge HI0.out)) | exact HB.out), by repeat (first | (with_reducible first | exact HK.out | apply KeepBut.set_ | apply keep_drewN | apply keep_drew | apply keep_alloc) | exact HK.out)⟩
        · rw [if_neg c14] at H
          have c14b0 : (t101 == 117) = false := beq_eq_false_iff_ne.mpr c14
          have c14b1 : (t101 != 117) = true := bne_iff_ne.mpr c14
          simp only [Option.some.injEq, Prod.mk.injEq] at H
          obtain ⟨rfl, rfl, rfl⟩ := H
          go_wp2
          go_ret
          exact ⟨by first | rfl | (simp [errW_none, errW_some] <;> rfl) | (simp [*, errW_none, errW_some] <;> rfl), by repeat (first | (with_reducible first | exact HI0.out | apply IsS31.alloc | apply IsS31.drewN | apply IsS31.drew | apply IsS31.set_0 | apply IsS31.set_1) | exact HI0.out), by repeat (first | (with_reducible first | exact HB.out | apply below_alloc | apply pw_below_drewN | apply below_drew1 | refine below_set ?_ (IsS31.ge HI0.out)) | exact HB.out), by repeat (first | (with_reducible first | exact HK.out | apply KeepBut.set_ | apply keep_drewN | apply keep_drew | apply keep_alloc) | exact HK.out)⟩
/-! ### spec_reader_quoted: function 8 -/
def spec_reader_quoted.l0 : Nat → ByteArray → Int → Option (Bool × ByteArray × Int)
  | 0, _, _ => none
  | k + 1, x1000, x1001 => if x1001 < (x1000.size : Int) then (if 0 ≤ x1001 then (if (bt x1000 x1001) = 34 then (some (true, x1000, wrap64 (x1001 + 1))) else (if (bt x1000 x1001) < 32 then (some (false, x1000, wrap64 (x1001 + 1))) else (if (bt x1000 x1001) = 92 then ((spec_reader_escape.f k x1000 (wrap64 (x1001 + 1))).bind fun bt109 => (if bt109.1 = true then (spec_reader_quoted.l0 k bt109.2.1 bt109.2.2) else (some (false, bt109.2.1, bt109.2.2)))) else (spec_reader_quoted.l0 k x1000 (wrap64 (x1001 + 1)))))) else (none)) else (some (false, x1000, x1001))
def spec_reader_quoted.f (k : Nat) (s0_0 : ByteArray) (s0_1 : Int) : Option (Bool × ByteArray × Int) := spec_reader_quoted.l0 k s0_0 (wrap64 (s0_1 + 1))
set_option maxHeartbeats 8000000 in
set_option maxRecDepth 100000 in
theorem spec_reader_quoted.calls (k : Nat) (g : Nat) (s0_0 : ByteArray) (s0_1 : Int) (r1 : Bool) (r2 : ByteArray) (r3 : Int) (w0 w : World) (hI : IsS31 w0 w g s0_0 s0_1) (hB : Below w0.heap.size w0 w) (h : spec_reader_quoted.f k s0_0 s0_1 = some (r1, r2, r3)) :
    Calls Try.prog 8 #[.pointer (some ⟨g, 0, none⟩)] w fun e w' => e = .returned (.bool r1) ∧ IsS31 w0 w' g r2 r3 ∧ Below w0.heap.size w0 w' ∧ KeepBut w w' g none := by
  have HI0 := Aside0.mk hI
  have HK := Aside0.mk (KeepBut.refl w g none)
  have HL := Aside0.mk hB.size
  clear hI
  have HW0 := Aside0.mk hB.size
  have HB := Aside0.mk hB
  clear hB
  have H : (spec_reader_quoted.l0 k s0_0 (wrap64 (s0_1 + 1))) = some (r1, r2, r3) := h
  clear h
  have H' := Aside0.mk H
  clear H
  obtain ⟨HGz2, hgz2⟩ := HI0.out
  have hcz2_0 := cellS31_0 HGz2
  have hcz2_1 := cellS31_1 HGz2
  have hfz2_0 := blk_frozen HGz2 0
  have hfz2_1 := blk_frozen HGz2 1
  clear HGz2 hgz2
  go_enter Try.func8, Try.ntmps8
  go_wp2
  repeat (go_quiet (fail); try go_wp2)
  try simp only [Act.put, List.setIfInBounds_toArray, List.set_cons_succ, List.set_cons_zero]
  go_loopg [] k (fun kq w' => ∃ (x1000_1 : ByteArray) (x1001_1 : Int), Aside0 (spec_reader_quoted.l0 kq x1000_1 x1001_1 = some (r1, r2, r3)) ∧ Aside0 (kq ≤ k) ∧ Aside0 (IsS31 w0 w' g x1000_1 x1001_1) ∧ Aside0 (KeepBut w w' g none) ∧ Aside0 (Below w0.heap.size w0 w'))
  case atStart => exact ⟨(s0_0), (wrap64 (s0_1 + 1)), H', ⟨Nat.le_refl _⟩, ⟨by repeat (first | (with_reducible first | exact HI0.out | apply IsS31.alloc | apply IsS31.drewN | apply IsS31.drew | apply IsS31.set_0 | apply IsS31.set_1) | exact HI0.out)⟩, ⟨by repeat (first | (with_reducible first | exact HK.out | apply KeepBut.set_ | apply keep_drewN | apply keep_drew | apply keep_alloc) | exact HK.out)⟩, ⟨by repeat (first | (with_reducible first | exact HB.out | apply below_alloc | apply pw_below_drewN | apply below_drew1 | refine below_set ?_ (IsS31.ge HI0.out)) | exact HB.out)⟩⟩
  case round =>
    clear H'
    try clear p2
    try clear hcz2_0
    try clear hcz2_1
    try clear hfz2_0
    try clear hfz2_1
    obtain ⟨x1000_1, x1001_1, HA, HK1, HI0, HK, HB⟩ := hrel
    cases gk with
    | zero => exact absurd HA.out (by simp [spec_reader_quoted.l0])
    | succ k1 =>
      have H := HA.out
      clear HA
      simp only [spec_reader_quoted.l0] at H
      by_cases c3 : x1001_1 < (x1000_1.size : Int)
      · rw [if_pos c3] at H
        have c3b0 : decide (x1001_1 < (x1000_1.size : Int)) = true := decide_eq_true c3
        clear c3
        by_cases c4 : 0 ≤ x1001_1
        · rw [if_pos c4] at H
          have c4b0 : decide (0 ≤ x1001_1) = true := decide_eq_true c4
          clear c4
          by_cases c6 : (bt x1000_1 x1001_1) = 34
          · rw [if_pos c6] at H
            have c6b0 : ((bt x1000_1 x1001_1) == 34) = true := beq_iff_eq.mpr c6
            have c6b1 : ((bt x1000_1 x1001_1) != 34) = false := bne_eq_false_iff_eq.mpr c6
            clear c6
            simp only [Option.some.injEq, Prod.mk.injEq] at H
            obtain ⟨rfl, rfl, rfl⟩ := H
            obtain ⟨HGz7, hgz7⟩ := HI0.out
            have hcz7_0 := cellS31_0 HGz7
            have hcz7_1 := cellS31_1 HGz7
            have hfz7_0 := blk_frozen HGz7 0
            have hfz7_1 := blk_frozen HGz7 1
            clear HGz7 hgz7
            have p5 : 0 ≤ (x1001_1 : Int) := of_decide_eq_true (by first | (with_reducible assumption) | assumption)
            have q5 : x1001_1 < (x1000_1.size : Int) := of_decide_eq_true (by first | (with_reducible assumption) | assumption)
            have hx5 := bt_at x1000_1 x1001_1
            replace p5 := eq_true p5
            replace q5 := eq_true q5
            go_wp2
            repeat (go_quiet (fail); try go_wp2)
            go_ret
            exact ⟨by first | rfl | (simp [errW_none, errW_some] <;> rfl) | (simp [*, errW_none, errW_some] <;> rfl), by repeat (first | (with_reducible first | exact HI0.out | apply IsS31.alloc | apply IsS31.drewN | apply IsS31.drew | apply IsS31.set_0 | apply IsS31.set_1) | exact HI0.out), by repeat (first | (with_reducible first | exact HB.out | apply below_alloc | apply pw_below_drewN | apply below_drew1 | refine below_set ?_ (IsS31.ge HI0.out)) | exact HB.out), by repeat (first | (with_reducible first | exact HK.out | apply KeepBut.set_ | apply keep_drewN | apply keep_drew | apply keep_alloc) | exact HK.out)⟩
          · rw [if_neg c6] at H
            have c6b0 : ((bt x1000_1 x1001_1) == 34) = false := beq_eq_false_iff_ne.mpr c6
            have c6b1 : ((bt x1000_1 x1001_1) != 34) = true := bne_iff_ne.mpr c6
            by_cases c8 : (bt x1000_1 x1001_1) < 32
            · rw [if_pos c8] at H
              have c8b0 : decide ((bt x1000_1 x1001_1) < 32) = true := decide_eq_true c8
              clear c8
              simp only [Option.some.injEq, Prod.mk.injEq] at H
              obtain ⟨rfl, rfl, rfl⟩ := H
              obtain ⟨HGz9, hgz9⟩ := HI0.out
              have hcz9_0 := cellS31_0 HGz9
              have hcz9_1 := cellS31_1 HGz9
              have hfz9_0 := blk_frozen HGz9 0
              have hfz9_1 := blk_frozen HGz9 1
              clear HGz9 hgz9
              have p5 : 0 ≤ (x1001_1 : Int) := of_decide_eq_true (by first | (with_reducible assumption) | assumption)
              have q5 : x1001_1 < (x1000_1.size : Int) := of_decide_eq_true (by first | (with_reducible assumption) | assumption)
              have hx5 := bt_at x1000_1 x1001_1
              replace p5 := eq_true p5
              replace q5 := eq_true q5
              go_wp2
              repeat (go_quiet (fail); try go_wp2)
              go_ret
              exact ⟨by first | rfl | (simp [errW_none, errW_some] <;> rfl) | (simp [*, errW_none, errW_some] <;> rfl), by repeat (first | (with_reducible first | exact HI0.out | apply IsS31.alloc | apply IsS31.drewN | apply IsS31.drew | apply IsS31.set_0 | apply IsS31.set_1) | exact HI0.out), by repeat (first | (with_reducible first | exact HB.out | apply below_alloc | apply pw_below_drewN | apply below_drew1 | refine below_set ?_ (IsS31.ge HI0.out)) | exact HB.out), by repeat (first | (with_reducible first | exact HK.out | apply KeepBut.set_ | apply keep_drewN | apply keep_drew | apply keep_alloc) | exact HK.out)⟩
            · rw [if_neg c8] at H
              have c8b0 : decide ((bt x1000_1 x1001_1) < 32) = false := decide_eq_false c8
              clear c8
              by_cases c10 : (bt x1000_1 x1001_1) = 92
              · rw [if_pos c10] at H
                have c10b0 : ((bt x1000_1 x1001_1) == 92) = true := beq_iff_eq.mpr c10
                have c10b1 : ((bt x1000_1 x1001_1) != 92) = false := bne_eq_false_iff_eq.mpr c10
                clear c10
                replace H := Option.bind_eq_some_iff.mp H
                obtain ⟨⟨t109, t110, t111⟩, A110, H⟩ := H
                replace H : (if t109 = true then (spec_reader_quoted.l0 k1 t110 t111) else (some (false, t110, t111))) = some (r1, r2, r3) := H
                have A11 := Aside0.mk A110
                clear A110
                by_cases c12 : t109 = true
                · subst c12
                  have H1 : (spec_reader_quoted.l0 k1 t110 t111) = some (r1, r2, r3) := by rw [if_pos rfl] at H; exact H
                  clear H
                  have H := H1
                  clear H1
                  have H' := Aside0.mk H
                  clear H
                  obtain ⟨HGz13, hgz13⟩ := HI0.out
                  have hcz13_0 := cellS31_0 HGz13
                  have hcz13_1 := cellS31_1 HGz13
                  have hfz13_0 := blk_frozen HGz13 0
                  have hfz13_1 := blk_frozen HGz13 1
                  clear HGz13 hgz13
                  have p5 : 0 ≤ (x1001_1 : Int) := of_decide_eq_true (by first | (with_reducible assumption) | assumption)
                  have q5 : x1001_1 < (x1000_1.size : Int) := of_decide_eq_true (by first | (with_reducible assumption) | assumption)
                  have hx5 := bt_at x1000_1 x1001_1
                  replace p5 := eq_true p5
                  replace q5 := eq_true q5
                  go_wp2_with (first | (go_at_call 14; (with_reducible refine (spec_reader_escape.calls k1 g x1000_1 (wrap64 (x1001_1 + 1)) true t110 t111 w0 _ ?side1 ?side2 A11.out).mono ?_); (case side1 => repeat (first | (with_reducible first | exact HI0.out | apply IsS31.alloc | apply IsS31.drewN | apply IsS31.drew | apply IsS31.set_0 | apply IsS31.set_1) | exact HI0.out)); (case side2 => repeat (first | (with_reducible first | exact HB.out | apply below_alloc | apply pw_below_drewN | apply below_drew1 | refine below_set ?_ (IsS31.ge HI0.out)) | exact HB.out)); rintro e w14 ⟨rfl, hi, hb, hk⟩; have n0_ := Aside0.mk (KeepBut.trans (by repeat (first | (with_reducible first | exact HK.out | apply KeepBut.set_ | apply keep_drewN | apply keep_drew | apply keep_alloc) | exact HK.out)) hk (.inl rfl)); have n1_ := Aside0.mk (hb); have n2_ := Aside0.mk (hi); clear HK; clear HB; clear HI0; have HK := n0_; have HB := n1_; have HI0 := n2_; clear n0_ n1_ n2_; (try clear hb); (try clear hb2); (try clear hk); (try clear hi)))
                  repeat (go_quiet (first | (go_at_call 14; (with_reducible refine (spec_reader_escape.calls k1 g x1000_1 (wrap64 (x1001_1 + 1)) true t110 t111 w0 _ ?side1 ?side2 A11.out).mono ?_); (case side1 => repeat (first | (with_reducible first | exact HI0.out | apply IsS31.alloc | apply IsS31.drewN | apply IsS31.drew | apply IsS31.set_0 | apply IsS31.set_1) | exact HI0.out)); (case side2 => repeat (first | (with_reducible first | exact HB.out | apply below_alloc | apply pw_below_drewN | apply below_drew1 | refine below_set ?_ (IsS31.ge HI0.out)) | exact HB.out)); rintro e w14 ⟨rfl, hi, hb, hk⟩; have n0_ := Aside0.mk (KeepBut.trans (by repeat (first | (with_reducible first | exact HK.out | apply KeepBut.set_ | apply keep_drewN | apply keep_drew | apply keep_alloc) | exact HK.out)) hk (.inl rfl)); have n1_ := Aside0.mk (hb); have n2_ := Aside0.mk (hi); clear HK; clear HB; clear HI0; have HK := n0_; have HB := n1_; have HI0 := n2_; clear n0_ n1_ n2_; (try clear hb); (try clear hb2); (try clear hk); (try clear hi))); try go_wp2_with (first | (go_at_call 14; (with_reducible refine (spec_reader_escape.calls k1 g x1000_1 (wrap64 (x1001_1 + 1)) true t110 t111 w0 _ ?side1 ?side2 A11.out).mono ?_); (case side1 => repeat (first | (with_reducible first | exact HI0.out | apply IsS31.alloc | apply IsS31.drewN | apply IsS31.drew | apply IsS31.set_0 | apply IsS31.set_1) | exact HI0.out)); (case side2 => repeat (first | (with_reducible first | exact HB.out | apply below_alloc | apply pw_below_drewN | apply below_drew1 | refine below_set ?_ (IsS31.ge HI0.out)) | exact HB.out)); rintro e w14 ⟨rfl, hi, hb, hk⟩; have n0_ := Aside0.mk (KeepBut.trans (by repeat (first | (with_reducible first | exact HK.out | apply KeepBut.set_ | apply keep_drewN | apply keep_drew | apply keep_alloc) | exact HK.out)) hk (.inl rfl)); have n1_ := Aside0.mk (hb); have n2_ := Aside0.mk (hi); clear HK; clear HB; clear HI0; have HK := n0_; have HB := n1_; have HI0 := n2_; clear n0_ n1_ n2_; (try clear hb); (try clear hb2); (try clear hk); (try clear hi))))
                  go_roundg k1
                  case measure => have := HK1.out; omega
                  case rel => exact ⟨(t110), (t111), H', ⟨by have := HK1.out; omega⟩, ⟨by repeat (first | (with_reducible first | exact HI0.out | apply IsS31.alloc | apply IsS31.drewN | apply IsS31.drew | apply IsS31.set_0 | apply IsS31.set_1) | exact HI0.out)⟩, ⟨by repeat (first | (with_reducible first | exact HK.out | apply KeepBut.set_ | apply keep_drewN | apply keep_drew | apply keep_alloc) | exact HK.out)⟩, ⟨by repeat (first | (with_reducible first | exact HB.out | apply below_alloc | apply pw_below_drewN | apply below_drew1 | refine below_set ?_ (IsS31.ge HI0.out)) | exact HB.out)⟩⟩
                · replace c12 := Bool.eq_false_iff.mpr c12
                  subst c12
                  have H1 : (some (false, t110, t111)) = some (r1, r2, r3) := by rw [if_neg (show ¬ (false = true) by decide)] at H; exact H
                  clear H
                  have H := H1
                  clear H1
                  simp only [Option.some.injEq, Prod.mk.injEq] at H
                  obtain ⟨rfl, rfl, rfl⟩ := H
                  obtain ⟨HGz15, hgz15⟩ := HI0.out
                  have hcz15_0 := cellS31_0 HGz15
                  have hcz15_1 := cellS31_1 HGz15
                  have hfz15_0 := blk_frozen HGz15 0
                  have hfz15_1 := blk_frozen HGz15 1
                  clear HGz15 hgz15
                  have p5 : 0 ≤ (x1001_1 : Int) := of_decide_eq_true (by first | (with_reducible assumption) | assumption)
                  have q5 : x1001_1 < (x1000_1.size : Int) := of_decide_eq_true (by first | (with_reducible assumption) | assumption)
                  have hx5 := bt_at x1000_1 x1001_1
                  replace p5 := eq_true p5
                  replace q5 := eq_true q5
                  go_wp2_with (first | (go_at_call 14; (with_reducible refine (spec_reader_escape.calls k1 g x1000_1 (wrap64 (x1001_1 + 1)) false t110 t111 w0 _ ?side1 ?side2 A11.out).mono ?_); (case side1 => repeat (first | (with_reducible first | exact HI0.out | apply IsS31.alloc | apply IsS31.drewN | apply IsS31.drew | apply IsS31.set_0 | apply IsS31.set_1) | exact HI0.out)); (case side2 => repeat (first | (with_reducible first | exact HB.out | apply below_alloc | apply pw_below_drewN | apply below_drew1 | refine below_set ?_ (IsS31.ge HI0.out)) | exact HB.out)); rintro e w16 ⟨rfl, hi, hb, hk⟩; have n0_ := Aside0.mk (KeepBut.trans (by repeat (first | (with_reducible first | exact HK.out | apply KeepBut.set_ | apply keep_drewN | apply keep_drew | apply keep_alloc) | exact HK.out)) hk (.inl rfl)); have n1_ := Aside0.mk (hb); have n2_ := Aside0.mk (hi); clear HK; clear HB; clear HI0; have HK := n0_; have HB := n1_; have HI0 := n2_; clear n0_ n1_ n2_; (try clear hb); (try clear hb2); (try clear hk); (try clear hi)))
                  repeat (go_quiet (first | (go_at_call 14; (with_reducible refine (spec_reader_escape.calls k1 g x1000_1 (wrap64 (x1001_1 + 1)) false t110 t111 w0 _ ?side1 ?side2 A11.out).mono ?_); (case side1 => repeat (first | (with_reducible first | exact HI0.out | apply IsS31.alloc | apply IsS31.drewN | apply IsS31.drew | apply IsS31.set_0 | apply IsS31.set_1) | exact HI0.out)); (case side2 => repeat (first | (with_reducible first | exact HB.out | apply below_alloc | apply pw_below_drewN | apply below_drew1 | refine below_set ?_ (IsS31.ge HI0.out)) | exact HB.out)); rintro e w16 ⟨rfl, hi, hb, hk⟩; have n0_ := Aside0.mk (KeepBut.trans (by repeat (first | (with_reducible first | exact HK.out | apply KeepBut.set_ | apply keep_drewN | apply keep_drew | apply keep_alloc) | exact HK.out)) hk (.inl rfl)); have n1_ := Aside0.mk (hb); have n2_ := Aside0.mk (hi); clear HK; clear HB; clear HI0; have HK := n0_; have HB := n1_; have HI0 := n2_; clear n0_ n1_ n2_; (try clear hb); (try clear hb2); (try clear hk); (try clear hi))); try go_wp2_with (first | (go_at_call 14; (with_reducible refine (spec_reader_escape.calls k1 g x1000_1 (wrap64 (x1001_1 + 1)) false t110 t111 w0 _ ?side1 ?side2 A11.out).mono ?_); (case side1 => repeat (first | (with_reducible first | exact HI0.out | apply IsS31.alloc | apply IsS31.drewN | apply IsS31.drew | apply IsS31.set_0 | apply IsS31.set_1) | exact HI0.out)); (case side2 => repeat (first | (with_reducible first | exact HB.out | apply below_alloc | apply pw_below_drewN | apply below_drew1 | refine below_set ?_ (IsS31.ge HI0.out)) | exact HB.out)); rintro e w16 ⟨rfl, hi, hb, hk⟩; have n0_ := Aside0.mk (KeepBut.trans (by repeat (first | (with_reducible first | exact HK.out | apply KeepBut.set_ | apply keep_drewN | apply keep_drew | apply keep_alloc) | exact HK.out)) hk (.inl rfl)); have n1_ := Aside0.mk (hb); have n2_ := Aside0.mk (hi); clear HK; clear HB; clear HI0; have HK := n0_; have HB := n1_; have HI0 := n2_; clear n0_ n1_ n2_; (try clear hb); (try clear hb2); (try clear hk); (try clear hi))))
                  go_ret
                  exact ⟨by first | rfl | (simp [errW_none, errW_some] <;> rfl) | (simp [*, errW_none, errW_some] <;> rfl), by repeat (first | (with_reducible first | exact HI0.out | apply IsS31.alloc | apply IsS31.drewN | apply IsS31.drew | apply IsS31.set_0 | apply IsS31.set_1) | exact HI0.out), by repeat (first | (with_reducible first | exact HB.out | apply below_alloc | apply pw_below_drewN | apply below_drew1 | refine below_set ?_ (IsS31.ge HI0.out)) | exact HB.out), by repeat (first | (with_reducible first | exact HK.out | apply KeepBut.set_ | apply keep_drewN | apply keep_drew | apply keep_alloc) | exact HK.out)⟩
              · rw [if_neg c10] at H
                have c10b0 : ((bt x1000_1 x1001_1) == 92) = false := beq_eq_false_iff_ne.mpr c10
                have c10b1 : ((bt x1000_1 x1001_1) != 92) = true := bne_iff_ne.mpr c10
                have H' := Aside0.mk H
                clear H
                obtain ⟨HGz17, hgz17⟩ := HI0.out
                have hcz17_0 := cellS31_0 HGz17
                have hcz17_1 := cellS31_1 HGz17
                have hfz17_0 := blk_frozen HGz17 0
                have hfz17_1 := blk_frozen HGz17 1
                clear HGz17 hgz17
                have p5 : 0 ≤ (x1001_1 : Int) := of_decide_eq_true (by first | (with_reducible assumption) | assumption)
                have q5 : x1001_1 < (x1000_1.size : Int) := of_decide_eq_true (by first | (with_reducible assumption) | assumption)
                have hx5 := bt_at x1000_1 x1001_1
                replace p5 := eq_true p5
                replace q5 := eq_true q5
                go_wp2
                repeat (go_quiet (fail); try go_wp2)
                go_roundg k1
                case measure => have := HK1.out; omega
                case rel => exact ⟨(x1000_1), (wrap64 (x1001_1 + 1)), H', ⟨by have := HK1.out; omega⟩, ⟨by repeat (first | (with_reducible first | exact HI0.out | apply IsS31.alloc | apply IsS31.drewN | apply IsS31.drew | apply IsS31.set_0 | apply IsS31.set_1) | exact HI0.out)⟩, ⟨by repeat (first | (with_reducible first | exact HK.out | apply KeepBut.set_ | apply keep_drewN | apply keep_drew | apply keep_alloc) | exact HK.out)⟩, ⟨by repeat (first | (with_reducible first | exact HB.out | apply below_alloc | apply pw_below_drewN | apply below_drew1 | refine below_set ?_ (IsS31.ge HI0.out)) | exact HB.out)⟩⟩
        · rw [if_neg c4] at H
          exact absurd H (by simp)
      · rw [if_neg c3] at H
        have c3b0 : decide (x1001_1 < (x1000_1.size : Int)) = false := decide_eq_false c3
        clear c3
        simp only [Option.some.injEq, Prod.mk.injEq] at H
        obtain ⟨rfl, rfl, rfl⟩ := H
        obtain ⟨HGz18, hgz18⟩ := HI0.out
        have hcz18_0 := cellS31_0 HGz18
        have hcz18_1 := cellS31_1 HGz18
        have hfz18_0 := blk_frozen HGz18 0
        have hfz18_1 := blk_frozen HGz18 1
        clear HGz18 hgz18
        go_wp2
        repeat (go_quiet (fail); try go_wp2)
        go_ret
        exact ⟨by first | rfl | (simp [errW_none, errW_some] <;> rfl) | (simp [*, errW_none, errW_some] <;> rfl), by repeat (first | (with_reducible first | exact HI0.out | apply IsS31.alloc | apply IsS31.drewN | apply IsS31.drew | apply IsS31.set_0 | apply IsS31.set_1) | exact HI0.out), by repeat (first | (with_reducible first | exact HB.out | apply below_alloc | apply pw_below_drewN | apply below_drew1 | refine below_set ?_ (IsS31.ge HI0.out)) | exact HB.out), by repeat (first | (with_reducible first | exact HK.out | apply KeepBut.set_ | apply keep_drewN | apply keep_drew | apply keep_alloc) | exact HK.out)⟩
/-! ### spec_Blank: function 9 -/
def spec_Blank.f (a0 : Int) : Option (Bool) := if a0 = 32 then (some true) else (if a0 = 9 then (some true) else (if a0 = 10 then (some true) else (some (a0 == 13))))
set_option maxHeartbeats 8000000 in
set_option maxRecDepth 100000 in
theorem spec_Blank.calls (a0 : Int) (r : Bool) (w : World) (h : spec_Blank.f a0 = some r) :
    Calls Try.prog 9 #[.int .u8 a0] w fun e w' => e = .returned (.bool r) ∧ Drawn0 w w' := by
  have H : (if a0 = 32 then (some true) else (if a0 = 9 then (some true) else (if a0 = 10 then (some true) else (some (a0 == 13))))) = some r := h
  clear h
  by_cases c2 : a0 = 32
  · rw [if_pos c2] at H
    have c2b0 : (a0 == 32) = true := beq_iff_eq.mpr c2
    have c2b1 : (a0 != 32) = false := bne_eq_false_iff_eq.mpr c2
    clear c2
    obtain rfl := Option.some.inj H
    go_enter Try.func9, Try.ntmps9
    go_wp2
    go_ret
    exact ⟨by first | rfl | (simp; done) | (simp [*]; done), by repeat (first | exact Drawn0.refl _ | apply Drawn0.step)⟩
  · rw [if_neg c2] at H
    have c2b0 : (a0 == 32) = false := beq_eq_false_iff_ne.mpr c2
    have c2b1 : (a0 != 32) = true := bne_iff_ne.mpr c2
    by_cases c3 : a0 = 9
    · rw [if_pos c3] at H
      have c3b0 : (a0 == 9) = true := beq_iff_eq.mpr c3
      have c3b1 : (a0 != 9) = false := bne_eq_false_iff_eq.mpr c3
      clear c3
      obtain rfl := Option.some.inj H
      go_enter Try.func9, Try.ntmps9
      go_wp2
      go_ret
      exact ⟨by first | rfl | (simp; done) | (simp [*]; done), by repeat (first | exact Drawn0.refl _ | apply Drawn0.step)⟩
    · rw [if_neg c3] at H
      have c3b0 : (a0 == 9) = false := beq_eq_false_iff_ne.mpr c3
      have c3b1 : (a0 != 9) = true := bne_iff_ne.mpr c3
      by_cases c4 : a0 = 10
      · rw [if_pos c4] at H
        have c4b0 : (a0 == 10) = true := beq_iff_eq.mpr c4
        have c4b1 : (a0 != 10) = false := bne_eq_false_iff_eq.mpr c4
        clear c4
        obtain rfl := Option.some.inj H
        go_enter Try.func9, Try.ntmps9
        go_wp2
        go_ret
        exact ⟨by first | rfl | (simp; done) | (simp [*]; done), by repeat (first | exact Drawn0.refl _ | apply Drawn0.step)⟩
      · rw [if_neg c4] at H
        have c4b0 : (a0 == 10) = false := beq_eq_false_iff_ne.mpr c4
        have c4b1 : (a0 != 10) = true := bne_iff_ne.mpr c4
        obtain rfl := Option.some.inj H
        go_enter Try.func9, Try.ntmps9
        go_wp2
        go_ret
        exact ⟨by first | rfl | (simp; done) | (simp [*]; done), by repeat (first | exact Drawn0.refl _ | apply Drawn0.step)⟩
end Go.Proofs.Ytlllokmipeoelaa.XFnPrSpec
end
