/- Proved here: parts of the law FnAlValid (the texts Base ReadBaseFnAlValid ReadTotFnAlValid FjPlain FjStr FjA FjRefFnAlValid FjRef2FnAlValid FjRef3FnAlValid FjRef4FnAlValid TreeRefFnAlValid FpPlain FpHeap XWords OwnRow FpGet FjW0), no conditions of their own beyond what each theorem says. -/
import Derived.Test.YtlhaefblchpjhaaGreatDoorPa0
import Derived.Test.YtlhaefblchpjhaaGreatDoorPa3
import Derived.Test.YtlhaefblchpjhaaGreatDoorProg
import Derived.Laws.CopyRow
import Derived.Laws.CopyOwn
import Derived.Deep.WholeRow
import Derived.Laws.IdiomCopy
import Derived.Laws.MakeOwn
import Derived.Lib.AppendZeros
import Derived.Deep.QuietTactic
import Derived.BigQuiet
import Derived.WideLaws
import Derived.Deep.LoopGhost
import Derived.Deep.DeepCutAuto
import Derived.Deep.CutBlock
import Derived.Deep.RegionHeld3
import Derived.Deep.RegionWith
import Derived.OrdersHeld
import Derived.Outline
import Derived.Below
import Derived.Deep.Draws
import Derived.Laws.Rows
section
namespace Go.Proofs.YtlhaefblchpjhaaGreatDoor.Base
open Go.RowKit Go.Proofs.YtlhaefblchpjhaaGreatDoorW.PrintWords Go.Proofs.YtlhaefblchpjhaaGreatDoorW.PrintLast
theorem w64 {i : Int} (h0 : 0 ≤ i) (h : i ≤ 9223372036854775807) : wrap64 i = i := by unfold wrap64; omega
theorem rd_out (A : List Int) (i : Int) (h : A.length ≤ i.toNat) : rd A i = 0 := by
  unfold rd; rw [List.getD_eq_getElem?_getD, List.getElem?_eq_none h]; rfl
theorem toList_bytes (s : ByteArray) (l : List UInt8) : s.toList = l ↔ bytesOf s = l.map (fun b => (b.toNat : Int)) := by
  rw [ByteArray.toList_eq]
  unfold bytesOf
  constructor
  · intro h; rw [h]
  · intro h
    refine (List.map_inj_right ?_).mp h
    intro a b hab
    exact UInt8.toNat_inj.mp (by omega)
theorem bytes_inj {a b : ByteArray} (h : bytesOf a = bytesOf b) : a = b := by
  have h1 : a.data.toList = b.data.toList := by
    rw [← ByteArray.toList_eq, ← ByteArray.toList_eq]
    exact (toList_bytes a _).mpr (by rw [ByteArray.toList_eq]; exact h)
  cases a; cases b; simp_all
theorem toList_inj {a b : ByteArray} (h : a.toList = b.toList) : a = b := by
  rw [ByteArray.toList_eq, ByteArray.toList_eq] at h
  exact bytes_inj (by unfold bytesOf; rw [h])
end Go.Proofs.YtlhaefblchpjhaaGreatDoor.Base
end
section
namespace Go.Proofs.YtlhaefblchpjhaaGreatDoor.ReadXFnAlValid
open Go.RowKit Go.Proofs.YtlhaefblchpjhaaGreatDoor.Base Go.Proofs.YtlhaefblchpjhaaGreatDoor.XFnAlValid Go.Proofs.YtlhaefblchpjhaaGreatDoorW.PrintWords Go.Proofs.YtlhaefblchpjhaaGreatDoorW.PrintLast
set_option linter.unusedVariables false
set_option linter.unusedSimpArgs false
/-- For all k from some number on. -/
def Ev (P : Nat → Prop) : Prop := ∃ K, ∀ k, K ≤ k → P k
theorem Ev.and {P Q : Nat → Prop} (h : Ev P) (g : Ev Q) : Ev fun k => P k ∧ Q k := by
  obtain ⟨a, h⟩ := h; obtain ⟨b, g⟩ := g
  exact ⟨max a b, fun k hk => ⟨h k (by omega), g k (by omega)⟩⟩
theorem Ev.mp {P Q : Nat → Prop} (h : Ev P) (g : ∀ k, P k → Q k) : Ev Q := by
  obtain ⟨a, h⟩ := h; exact ⟨a, fun k hk => g k (h k hk)⟩
theorem Ev.all {P : Nat → Prop} (h : ∀ k, P k) : Ev P := ⟨0, fun k _ => h k⟩
theorem Ev.succ {P Q : Nat → Prop} (h : Ev P) (g : ∀ k, P k → Q (k + 1)) : Ev Q := by
  obtain ⟨a, h⟩ := h
  refine ⟨a + 1, fun k hk => ?_⟩
  obtain ⟨j, rfl⟩ : ∃ j, k = j + 1 := ⟨k - 1, by omega⟩
  exact g j (h j (by omega))
theorem Ev.ge (K : Nat) : Ev fun k => K ≤ k := ⟨K, fun k hk => hk⟩
def hv (c : Int) : Option Int := if 48 ≤ c ∧ c ≤ 57 then some (c - 48) else if 97 ≤ c ∧ c ≤ 102 then some (c - 87) else if 65 ≤ c ∧ c ≤ 70 then some (c - 55) else none
theorem hexDigit_eq (k : Nat) (hk : 2 ≤ k) (c : Int) : spec_hexDigit.f k c = some (match hv c with | some v => (v, true) | none => (0, false)) := by
  obtain ⟨j, rfl⟩ : ∃ j, k = j + 2 := ⟨k - 2, by omega⟩
  by_cases a1 : 48 ≤ c <;> by_cases a2 : c ≤ 57 <;> by_cases a3 : 97 ≤ c <;> by_cases a4 : c ≤ 102 <;> by_cases a5 : 65 ≤ c <;> by_cases a6 : c ≤ 70 <;>
    first
      | omega
      | (simp [spec_hexDigit.f, spec_hexDigit.j0, spec_hexDigit.j1, hv, a1, a2, a3, a4, a5, a6]; done)
      | (simp [spec_hexDigit.f, spec_hexDigit.j0, spec_hexDigit.j1, hv, a1, a2, a3, a4, a5, a6]; omega)
def h4 (a b c d : Option Int) : Option Int := a.bind fun a => b.bind fun b => c.bind fun c => d.bind fun d => some (a * 4096 + b * 256 + c * 16 + d)
def Simple (c : Int) : Prop := c = 34 ∨ c = 92 ∨ c = 47 ∨ c = 98 ∨ c = 102 ∨ c = 110 ∨ c = 114 ∨ c = 116
theorem bt_out (s : ByteArray) (i : Int) (h : s.size ≤ i) : bt s i = 0 := by
  rw [← rd_bytesOf]
  exact rd_out _ _ (by rw [bytesOf_length]; omega)
theorem here_eq (s : ByteArray) (p : Int) (h : 0 ≤ p) : spec_reader_here.f s p = some (bt s p, s, p) := by
  unfold spec_reader_here.f
  by_cases c : p < s.size
  · rw [if_pos c, if_pos h]
  · rw [if_neg c, bt_out s p (by omega)]
theorem escape_simple (k : Nat) (hk : 1 ≤ k) (s : ByteArray) (p : Int) (h0 : 0 ≤ p) (h1 : p ≤ 140737488355328) (h : Simple (bt s p)) : spec_reader_escape.f k s p = some (true, s, p + 1) := by
  obtain ⟨j, rfl⟩ : ∃ j, k = j + 1 := ⟨k - 1, by omega⟩
  unfold spec_reader_escape.f
  rw [here_eq s p h0]
  simp only [Option.bind_some, spec_reader_escape.j0]
  rw [w64 (by omega) (by omega)]
  unfold Simple at h
  rcases h with h | h | h | h | h | h | h | h <;> simp [h]
theorem loop_step (k : Nat) (hk : 2 ≤ k) (s : ByteArray) (n p : Int) (h0 : 0 ≤ p) (h1 : p ≤ 140737488400000) (hn0 : 0 ≤ n) (hn : n < 4) :
    spec_reader_escape.l0 (k + 1) n s p = if (hv (bt s p)).isSome then spec_reader_escape.l0 k (n + 1) s (p + 1) else some (false, s, p) := by
  rw [spec_reader_escape.l0, if_pos hn, here_eq s p h0]
  simp only [Option.bind_some]
  rw [hexDigit_eq k hk]
  cases hv (bt s p) with
  | none => simp
  | some v =>
    simp only [Option.bind_some, if_true, Option.isSome_some]
    rw [w64 (i := n + 1) (by omega) (by omega), w64 (i := p + 1) (by omega) (by omega)]
theorem escape_u (k : Nat) (hk : 12 ≤ k) (s : ByteArray) (p : Int) (h0 : 0 ≤ p) (h1 : p ≤ 140737488355328) (h : bt s p = 117) :
    ∃ q, spec_reader_escape.f k s p = some (if (h4 (hv (bt s (p + 1))) (hv (bt s (p + 2))) (hv (bt s (p + 3))) (hv (bt s (p + 4)))).isSome then (true, s, p + 5) else (false, s, q)) := by
  obtain ⟨j, rfl⟩ : ∃ j, k = j + 12 := ⟨k - 12, by omega⟩
  have hf : spec_reader_escape.f (j + 12) s p = spec_reader_escape.l0 (j + 11) 0 s (p + 1) := by
    unfold spec_reader_escape.f
    rw [here_eq s p h0]
    simp only [Option.bind_some, spec_reader_escape.j0]
    rw [w64 (i := p + 1) (by omega) (by omega)]
    simp [h]
  rw [hf, loop_step (j + 10) (by omega) s 0 (p + 1) (by omega) (by omega) (by omega) (by omega)]
  unfold h4
  cases e1 : hv (bt s (p + 1)) with
  | none => exact ⟨_, rfl⟩
  | some a =>
    simp only [Option.isSome_some, if_true, Option.bind_some]
    rw [loop_step (j + 9) (by omega) s _ _ (by omega) (by omega) (by omega) (by omega), show p + 1 + 1 = p + 2 by omega]
    cases e2 : hv (bt s (p + 2)) with
    | none => exact ⟨_, rfl⟩
    | some a =>
      simp only [Option.isSome_some, if_true, Option.bind_some]
      rw [loop_step (j + 8) (by omega) s _ _ (by omega) (by omega) (by omega) (by omega), show p + 2 + 1 = p + 3 by omega]
      cases e3 : hv (bt s (p + 3)) with
      | none => exact ⟨_, rfl⟩
      | some a =>
        simp only [Option.isSome_some, if_true, Option.bind_some]
        rw [loop_step (j + 7) (by omega) s _ _ (by omega) (by omega) (by omega) (by omega), show p + 3 + 1 = p + 4 by omega]
        cases e4 : hv (bt s (p + 4)) with
        | none => exact ⟨_, rfl⟩
        | some a =>
          refine ⟨0, ?_⟩
          simp only [Option.isSome_some, if_true, Option.bind_some]
          rw [spec_reader_escape.l0, if_neg (by omega), show p + 4 + 1 = p + 5 by omega]
theorem escape_else (k : Nat) (hk : 1 ≤ k) (s : ByteArray) (p : Int) (h0 : 0 ≤ p) (h1 : p ≤ 140737488355328) (h : ¬ Simple (bt s p)) (hu : bt s p ≠ 117) : spec_reader_escape.f k s p = some (false, s, p) := by
  obtain ⟨j, rfl⟩ : ∃ j, k = j + 1 := ⟨k - 1, by omega⟩
  unfold spec_reader_escape.f
  rw [here_eq s p h0]
  simp only [Option.bind_some, spec_reader_escape.j0]
  unfold Simple at h
  simp only [not_or] at h
  obtain ⟨n1, n2, n3, n4, n5, n6, n7, n8⟩ := h
  simp [n1, n2, n3, n4, n5, n6, n7, n8, hu]
end Go.Proofs.YtlhaefblchpjhaaGreatDoor.ReadXFnAlValid
end
section
namespace Go.Proofs.YtlhaefblchpjhaaGreatDoor.ReadXFnAlValid
open Go.RowKit Go.Proofs.YtlhaefblchpjhaaGreatDoor.Base Go.Proofs.YtlhaefblchpjhaaGreatDoor.XFnAlValid Go.Proofs.YtlhaefblchpjhaaGreatDoorW.PrintWords Go.Proofs.YtlhaefblchpjhaaGreatDoorW.PrintLast
set_option linter.unusedVariables false
set_option linter.unusedSimpArgs false
/-- It answers, from some number of steps on always the same, and of the answer Q. -/
def Tot {α : Type} (f : Nat → Option α) (Q : α → Prop) : Prop := ∃ r, (Ev fun k => f k = some r) ∧ Q r
theorem Tot.bind {α β : Type} {f : Nat → Option α} {g : Nat → α → Option β} {Q : α → Prop} {R : β → Prop} (h : Tot f Q) (hg : ∀ r, Q r → Tot (fun k => g k r) R) : Tot (fun k => (f k).bind (g k)) R := by
  obtain ⟨r, hr, hq⟩ := h
  obtain ⟨t, ht, hR⟩ := hg r hq
  exact ⟨t, (hr.and ht).mp fun k hk => by show (f k).bind (g k) = some t; rw [hk.1]; exact hk.2, hR⟩
theorem Tot.succ {α : Type} {f g : Nat → Option α} {Q : α → Prop} (h : ∀ k, f (k + 1) = g k) (hg : Tot g Q) : Tot f Q := by
  obtain ⟨r, hr, hq⟩ := hg
  exact ⟨r, hr.succ fun k hk => (h k).trans hk, hq⟩
theorem Tot.ret {α : Type} {Q : α → Prop} {r : α} (h : Q r) : Tot (fun _ => some r) Q := ⟨r, Ev.all fun _ => rfl, h⟩
theorem Tot.eq {α : Type} {f : Nat → Option α} {Q : α → Prop} {r : α} (hf : ∀ k, f k = some r) (h : Q r) : Tot f Q := ⟨r, Ev.all hf, h⟩
theorem Tot.ite {α : Type} {c : Prop} [Decidable c] {f g : Nat → Option α} {Q : α → Prop} (h : c → Tot f Q) (g' : ¬ c → Tot g Q) : Tot (fun k => if c then f k else g k) Q := by
  by_cases hc : c
  · obtain ⟨r, hr, hq⟩ := h hc
    exact ⟨r, hr.mp fun k hk => by show (if c then f k else g k) = some r; rw [if_pos hc]; exact hk, hq⟩
  · obtain ⟨r, hr, hq⟩ := g' hc
    exact ⟨r, hr.mp fun k hk => by show (if c then f k else g k) = some r; rw [if_neg hc]; exact hk, hq⟩
theorem Tot.mono {α : Type} {f : Nat → Option α} {Q R : α → Prop} (h : Tot f Q) (g : ∀ r, Q r → R r) : Tot f R := by
  obtain ⟨r, hr, hq⟩ := h
  exact ⟨r, hr, g r hq⟩
theorem tot_lift {α : Type} {f : Nat → Option α} (hm : ∀ k, LeO (f k) (f (k + 1))) {k : Nat} {r : α} (h : f k = some r) : ∀ j, f (k + j) = some r
  | 0 => h
  | j + 1 => hm (k + j) r (tot_lift hm h j)
variable {s : ByteArray}
theorem here_tot (hs : s.size ≤ 1000000) (p : Int) (h0 : 0 ≤ p) : Tot (fun _ => spec_reader_here.f s p) (fun r => r = (bt s p, s, p)) := Tot.eq (fun _ => here_eq s p h0) rfl
theorem bt_digit {p : Int} (h : 48 ≤ bt s p) : p < s.size := by
  refine Int.not_le.mp fun hc => ?_
  rw [bt_out s p hc] at h
  omega
end Go.Proofs.YtlhaefblchpjhaaGreatDoor.ReadXFnAlValid
end
section
namespace Go.Proofs.YtlhaefblchpjhaaGreatDoor.Fj
open Go.RowKit Go.Proofs.YtlhaefblchpjhaaGreatDoorW.PrintWords Go.Proofs.YtlhaefblchpjhaaGreatDoorW.PrintLast
set_option linter.unusedVariables false
set_option linter.unusedSimpArgs false
def blank (c : Int) : Bool := c == 32 || (c == 10 || (c == 9 || c == 13))
/-- How many blanks lead. -/
def ws : List Int → Nat
  | [] => 0
  | c :: r => if blank c = true then ws r + 1 else 0
def digs : List Int → Nat
  | [] => 0
  | c :: r => if 48 ≤ c ∧ c ≤ 57 then digs r + 1 else 0
def expo (l : List Int) (m : Nat) : Option Nat :=
  if rd l (m : Int) = 101 ∨ rd l (m : Int) = 69 then
    if rd l ((m + 1 : Nat) : Int) = 45 ∨ rd l ((m + 1 : Nat) : Int) = 43 then (if digs (l.drop (m + 2)) = 0 then none else some (m + 2 + digs (l.drop (m + 2))))
    else (if digs (l.drop (m + 1)) = 0 then none else some (m + 1 + digs (l.drop (m + 1))))
  else some m
def frac (l : List Int) (m : Nat) : Option Nat :=
  if rd l (m : Int) = 46 then (if digs (l.drop (m + 1)) = 0 then none else expo l (m + 1 + digs (l.drop (m + 1)))) else expo l m
def whole (l : List Int) (s : Nat) : Option Nat :=
  if digs (l.drop s) = 0 then none else if rd l (s : Int) = 48 ∧ digs (l.drop s) ≠ 1 then none else frac l (s + digs (l.drop s))
def num (l : List Int) : Option Nat := if rd l 0 = 45 then whole l 1 else whole l 0
def simple8 (c : Int) : Bool := c == 34 || (c == 92 || (c == 47 || (c == 98 || (c == 102 || (c == 110 || (c == 114 || c == 116))))))
def hexd (c : Int) : Bool := decide (48 ≤ c ∧ c ≤ 57) || (decide (97 ≤ c ∧ c ≤ 102) || decide (65 ≤ c ∧ c ≤ 70))
/-- The closing quote of the inside of a string: where it stands, by backslashes alone. -/
def qend : List Int → Option Nat
  | [] => none
  | [c] => if c = 34 then some 0 else none
  | c :: d :: r => if c = 34 then some 0 else if c = 92 then (qend r).map (· + 2) else (qend (d :: r)).map (· + 1)
/-- The inside of a string and its closing quote: how many bytes (RFC 8259, section 7). -/
def quo : List Int → Option Nat
  | [] => none
  | c :: r => if c = 34 then some 1 else if c < 32 then none else if c = 92 then (match r with
      | [] => none
      | d :: r2 => if simple8 d = true then (quo r2).map (· + 2) else if d = 117 then (match r2 with
          | a :: b :: e :: f :: r3 => if (hexd a && (hexd b && (hexd e && hexd f))) = true then (quo r3).map (· + 6) else none
          | _ => none) else none)
    else (quo r).map (· + 1)
def begins (w l : List Int) : Bool := l.take w.length == w
mutual
/-- A value. -/
def val : Nat → List Int → Option Nat
  | 0, _ => none
  | k + 1, l =>
    if l = [] then none else if rd l 0 = 123 then (if rd (l.drop 1) (ws (l.drop 1) : Int) = 125 then some (ws (l.drop 1) + 2) else (mems k (l.drop 1)).map (· + 1))
    else if rd l 0 = 91 then (if rd (l.drop 1) (ws (l.drop 1) : Int) = 93 then some (ws (l.drop 1) + 2) else (elems k (l.drop 1)).map (· + 1))
    else if rd l 0 = 34 then (quo (l.drop 1)).map (· + 1)
    else if rd l 0 = 116 then (if begins [116, 114, 117, 101] l = true then some 4 else none)
    else if rd l 0 = 102 then (if begins [102, 97, 108, 115, 101] l = true then some 5 else none)
    else if rd l 0 = 110 then (if begins [110, 117, 108, 108] l = true then some 4 else none)
    else num l
/-- The elements of an array, with the bracket that closes it. -/
def elems : Nat → List Int → Option Nat
  | 0, _ => none
  | k + 1, l => match val k (l.drop (ws l)) with
    | none => none
    | some v =>
      let m := ws l + v
      let n := m + ws (l.drop m)
      if rd l (n : Int) = 44 then (elems k (l.drop (n + 1))).map (· + (n + 1)) else if rd l (n : Int) = 93 then some (n + 1) else none
/-- The members of an object, with the brace that closes it. -/
def mems : Nat → List Int → Option Nat
  | 0, _ => none
  | k + 1, l =>
    let a := ws l
    if rd l (a : Int) = 34 then match quo (l.drop (a + 1)) with
      | none => none
      | some q =>
        let b := a + 1 + q
        let c := b + ws (l.drop b)
        if rd l (c : Int) = 58 then match val k ((l.drop (c + 1)).drop (ws (l.drop (c + 1)))) with
          | none => none
          | some v =>
            let m := c + 1 + ws (l.drop (c + 1)) + v
            let n := m + ws (l.drop m)
            if rd l (n : Int) = 44 then (mems k (l.drop (n + 1))).map (· + (n + 1)) else if rd l (n : Int) = 125 then some (n + 1) else none
        else none
    else none
end
theorem ws_le : ∀ l, ws l ≤ l.length
  | [] => Nat.le_refl _
  | c :: r => by
    have := ws_le r
    rw [ws]; split <;> simp only [List.length_cons] <;> omega
theorem digs_le : ∀ l, digs l ≤ l.length
  | [] => Nat.le_refl _
  | c :: r => by
    have := digs_le r
    rw [digs]; split <;> simp only [List.length_cons] <;> omega
end Go.Proofs.YtlhaefblchpjhaaGreatDoor.Fj
end
section
namespace Go.Proofs.YtlhaefblchpjhaaGreatDoor.Fj
open Go.RowKit Go.Proofs.YtlhaefblchpjhaaGreatDoorW.PrintWords Go.Proofs.YtlhaefblchpjhaaGreatDoorW.PrintLast
set_option linter.unusedVariables false
set_option linter.unusedSimpArgs false
/-- Of the inside of a string: where the part behind its last escape begins (0: it has none); none if a backslash begins no escape. -/
def escs : List Int → Option Nat
  | [] => some 0
  | c :: r => if c = 92 then (match r with
      | [] => none
      | d :: r2 => if simple8 d = true then (escs r2).map (· + 2) else if d = 117 then (match r2 with
          | a :: b :: e :: f :: r3 => if (hexd a && (hexd b && (hexd e && hexd f))) = true then (escs r3).map (· + 6) else none
          | _ => none) else none)
    else (escs r).map (fun m => if m = 0 then 0 else m + 1)
/-- A string's inside and end: where its last part begins, where its closing quote stands. -/
def vs (l : List Int) : Option (Nat × Nat) := match qend l with | none => none | some q => (escs (l.take q)).map (·, q)
/-- No byte below 32 is followed by a backslash without a quotation mark between the two. -/
def Steady : List Int → Prop
  | [] => True
  | c :: r => (c < 32 → ∀ x y : List Int, r = x ++ 92 :: y → (34 : Int) ∈ x) ∧ Steady r
def ctl (l : List Int) : Bool := l.any fun c => decide (c < 32)
theorem Steady.drop : ∀ (n : Nat) (l : List Int), Steady l → Steady (l.drop n)
  | 0, l, h => h
  | n + 1, [], h => h
  | n + 1, c :: r, h => Steady.drop n r h.2
theorem qend_nil : qend [] = none := by rw [qend]
theorem qend_34 (r : List Int) : qend (34 :: r) = some 0 := by
  cases r <;> simp [qend]
theorem qend_92 (d : Int) (r : List Int) : qend (92 :: d :: r) = (qend r).map (· + 2) := by
  rw [qend]; simp
theorem qend_921 : qend [92] = none := by simp [qend]
theorem qend_other {c : Int} (h1 : c ≠ 34) (h2 : c ≠ 92) (r : List Int) : qend (c :: r) = (qend r).map (· + 1) := by
  cases r with
  | nil => simp [qend, h1]
  | cons d r => rw [qend, if_neg h1, if_neg h2]
theorem escs_nil : escs [] = some 0 := by rw [escs]
theorem escs_other {c : Int} (h : c ≠ 92) (r : List Int) : escs (c :: r) = (escs r).map (fun m => if m = 0 then 0 else m + 1) := by
  rw [escs.eq_def]; simp only [if_neg h]
theorem escs_simple {d : Int} (h : simple8 d = true) (r : List Int) : escs (92 :: d :: r) = (escs r).map (· + 2) := by
  rw [escs.eq_def]; simp only [h, if_true]
theorem simple8_117 : simple8 117 = false := by decide
theorem escs_u {a b e f : Int} (h : (hexd a && (hexd b && (hexd e && hexd f))) = true) (r : List Int) : escs (92 :: 117 :: a :: b :: e :: f :: r) = (escs r).map (· + 6) := by
  rw [escs.eq_def]; simp only [simple8_117, if_true, Bool.false_eq_true, if_false, h]
theorem hexd_not {c : Int} (h : hexd c = true) : c ≠ 34 ∧ c ≠ 92 := by
  unfold hexd at h
  simp only [Bool.or_eq_true, decide_eq_true_eq] at h
  omega
/-- A bad escape: none. -/
theorem escs_bad {d : Int} (hs : simple8 d = false) (r : List Int) (hu : d = 117 → ∀ a b e f r3, r = a :: b :: e :: f :: r3 → (hexd a && (hexd b && (hexd e && hexd f))) = false) : escs (92 :: d :: r) = none := by
  rw [escs.eq_def]
  simp only [if_true, hs, Bool.false_eq_true, if_false]
  by_cases h : d = 117
  · rw [if_pos h]
    match r with
    | a :: b :: e :: f :: r3 => simp only [hu h a b e f r3 rfl, Bool.false_eq_true, if_false]
    | [] => rfl
    | [_] => rfl
    | [_, _] => rfl
    | [_, _, _] => rfl
  · rw [if_neg h]
theorem escs_short : escs [92] = none := by simp [escs]
/-- Ahead of the first backslash nothing happens. -/
theorem escs_ahead (y : List Int) : ∀ x : List Int, (92 : Int) ∉ x → escs (x ++ y) = (escs y).map (fun m => if m = 0 then 0 else x.length + m)
  | [], _ => by
    simp only [List.nil_append, List.length_nil, Nat.zero_add]
    cases escs y with
    | none => rfl
    | some m => simp only [Option.map_some]; congr 1; split <;> omega
  | c :: x, h => by
    have h1 : c ≠ 92 := fun e => h (by rw [e]; exact List.mem_cons_self ..)
    have h2 : (92 : Int) ∉ x := fun e => h (List.mem_cons_of_mem _ e)
    rw [List.cons_append, escs_other h1, escs_ahead y x h2]
    cases escs y with
    | none => rfl
    | some m =>
      simp only [Option.map_some, List.length_cons]
      congr 1
      repeat' split
      all_goals omega
theorem escs_clean (x : List Int) (h : (92 : Int) ∉ x) : escs x = some 0 := by
  have := escs_ahead [] x h
  rw [List.append_nil] at this
  rw [this, escs_nil]; rfl
theorem qend_lt : ∀ (n : Nat) (l : List Int) (q : Nat), l.length ≤ n → qend l = some q → q < l.length
  | 0, [], q, _, h => by rw [qend_nil] at h; cases h
  | 0, _ :: _, q, hn, h => by simp at hn
  | n + 1, [], q, _, h => by rw [qend_nil] at h; cases h
  | n + 1, c :: r, q, hn, h => by
    simp only [List.length_cons] at hn ⊢
    by_cases h1 : c = 34
    · subst h1; rw [qend_34] at h; cases h; omega
    · by_cases h2 : c = 92
      · subst h2
        match r with
        | [] => rw [qend_921] at h; cases h
        | d :: r =>
          rw [qend_92] at h
          simp only [List.length_cons] at hn ⊢
          cases hq : qend r with
          | none => rw [hq] at h; cases h
          | some p =>
            rw [hq] at h
            have := qend_lt n r p (by omega) hq
            simp only [Option.map_some, Option.some.injEq] at h
            omega
      · rw [qend_other h1 h2] at h
        cases hq : qend r with
        | none => rw [hq] at h; cases h
        | some p =>
          rw [hq] at h
          have := qend_lt n r p (by omega) hq
          simp only [Option.map_some, Option.some.injEq] at h
          omega
/-- What the quoted part is, told by its parts. -/
def quoB (l : List Int) : Option Nat := match vs l with | none => none | some (m, q) => if ctl ((l.take q).drop m) = true then none else some (q + 1)
theorem quoB_shift (l r : List Int) (n : Nat) (hq : qend l = (qend r).map (· + n)) (he : ∀ q, escs (l.take (q + n)) = (escs (r.take q)).map (· + n)) (hr : l.drop n = r) : quoB l = (quoB r).map (· + n) := by
  unfold quoB vs
  rw [hq]
  cases hz : qend r with
  | none => rfl
  | some q =>
    simp only [Option.map_some, he q]
    cases hm : escs (r.take q) with
    | none => rfl
    | some m =>
      simp only [Option.map_some]
      have e : (l.take (q + n)).drop (m + n) = (r.take q).drop m := by
        rw [List.drop_take, List.drop_take, ← hr, List.drop_drop, Nat.add_comm m n, show q + n - (n + m) = q - m from by omega]
      rw [e]
      by_cases hc : ctl ((r.take q).drop m) = true
      · rw [if_pos hc, if_pos hc]; rfl
      · rw [if_neg hc, if_neg hc]
        simp only [Option.map_some]
        congr 1; omega
theorem quoB_one {c : Int} (r : List Int) (h1 : c ≠ 34) (h2 : c ≠ 92) (h3 : ¬ c < 32) : quoB (c :: r) = (quoB r).map (· + 1) := by
  unfold quoB vs
  rw [qend_other h1 h2]
  cases hz : qend r with
  | none => rfl
  | some q =>
    simp only [Option.map_some]
    rw [List.take_succ_cons, escs_other h2]
    cases hm : escs (r.take q) with
    | none => rfl
    | some m =>
      simp only [Option.map_some]
      have e : ctl ((c :: r.take q).drop (if m = 0 then 0 else m + 1)) = ctl ((r.take q).drop m) := by
        by_cases h0 : m = 0
        · rw [if_pos h0, h0, List.drop_zero, List.drop_zero]
          unfold ctl
          rw [List.any_cons, decide_eq_false h3, Bool.false_or]
        · rw [if_neg h0, List.drop_succ_cons]
      rw [List.take_succ_cons, e]
      by_cases hc : ctl ((r.take q).drop m) = true
      · rw [if_pos hc, if_pos hc]; rfl
      · rw [if_neg hc, if_neg hc]; rfl
theorem qend_ahead (z : List Int) : ∀ x : List Int, (92 : Int) ∉ x → (34 : Int) ∈ x → ∃ p, qend (x ++ z) = some p ∧ p < x.length
  | [], _, h => by cases h
  | c :: x, h, h' => by
    by_cases h1 : c = 34
    · subst h1; exact ⟨0, qend_34 _, by simp⟩
    · have h2 : c ≠ 92 := fun e => h (by rw [e]; exact List.mem_cons_self ..)
      obtain ⟨p, e, hp⟩ := qend_ahead z x (fun e => h (List.mem_cons_of_mem _ e)) (by
        rcases List.mem_cons.mp h' with e | e
        · exact absurd e.symm h1
        · exact e)
      exact ⟨p + 1, by rw [List.cons_append, qend_other h1 h2, e]; rfl, by simpa using hp⟩
/-- The first backslash of a list. -/
theorem split92 : ∀ l : List Int, (92 : Int) ∈ l → ∃ x y, l = x ++ 92 :: y ∧ (92 : Int) ∉ x
  | [], h => by cases h
  | c :: l, h => by
    by_cases h1 : c = 92
    · subst h1; exact ⟨[], l, rfl, by simp⟩
    · obtain ⟨x, y, e, hx⟩ := split92 l (by
        rcases List.mem_cons.mp h with e | e
        · exact absurd e.symm h1
        · exact e)
      exact ⟨c :: x, y, by rw [e]; rfl, fun hc => by
        rcases List.mem_cons.mp hc with e | e
        · exact h1 e.symm
        · exact hx e⟩
theorem quoB_ctl {c : Int} (r : List Int) (h3 : c < 32) (hs : Steady (c :: r)) : quoB (c :: r) = none := by
  unfold quoB vs
  rw [qend_other (by omega) (by omega)]
  cases hz : qend r with
  | none => rfl
  | some q =>
    simp only [Option.map_some]
    rw [List.take_succ_cons, escs_other (show c ≠ 92 by omega)]
    by_cases hb : (92 : Int) ∈ r.take q
    · obtain ⟨x, y, e, hx⟩ := split92 _ hb
      have er : r = x ++ 92 :: (y ++ r.drop q) := by
        have := List.take_append_drop q r
        rw [e] at this
        exact this.symm.trans (by simp)
      have hm := hs.1 h3 x _ er
      obtain ⟨p, hp, hlt⟩ := qend_ahead (92 :: (y ++ r.drop q)) x hx hm
      rw [← er, hz] at hp
      obtain rfl := Option.some.inj hp
      have hl : (r.take q).length = x.length + (y.length + 1) := by rw [e]; simp
      have := List.length_take_le q r
      omega
    · rw [escs_clean _ hb]
      simp only [Option.map_some, if_true, List.drop_zero]
      rw [if_pos]
      unfold ctl
      rw [List.take_succ_cons, List.any_cons, decide_eq_true h3, Bool.true_or]
theorem take_hex {a b e f : Int} (r : List Int) (q : Nat) : List.take (q + 6) (92 :: 117 :: a :: b :: e :: f :: r) = 92 :: 117 :: a :: b :: e :: f :: r.take q := by
  simp [List.take_succ_cons]
theorem quoB_bad {d : Int} (hs : simple8 d = false) (r : List Int) (hu : d = 117 → ∀ a b e f r3, r = a :: b :: e :: f :: r3 → (hexd a && (hexd b && (hexd e && hexd f))) = false) : quoB (92 :: d :: r) = none := by
  unfold quoB vs
  rw [qend_92]
  cases hz : qend r with
  | none => rfl
  | some q =>
    simp only [Option.map_some, List.take_succ_cons]
    rw [escs_bad hs (r.take q) (fun h a b e f r3 hr => ?_)]
    · rfl
    · refine hu h a b e f (r3 ++ r.drop q) ?_
      have := List.take_append_drop q r
      rw [hr] at this
      exact this.symm.trans (by simp)
theorem quo_eq : ∀ (n : Nat) (l : List Int), l.length ≤ n → Steady l → quo l = quoB l
  | _, [], _, _ => by rw [quo]; unfold quoB vs; rw [qend_nil]
  | 0, _ :: _, h, _ => by simp at h
  | n + 1, c :: r, hn, hs => by
    have ih := fun l h => quo_eq n l h
    simp only [List.length_cons] at hn
    rw [quo.eq_def]
    simp only []
    by_cases h1 : c = 34
    · subst h1
      rw [if_pos rfl]
      unfold quoB vs
      rw [qend_34]
      simp only [List.take_zero, escs_nil, Option.map_some]
      rfl
    · rw [if_neg h1]
      by_cases h3 : c < 32
      · rw [if_pos h3, quoB_ctl r h3 hs]
      · rw [if_neg h3]
        by_cases h2 : c = 92
        · subst h2
          rw [if_pos rfl]
          match r, hs, hn with
          | [], _, _ => unfold quoB vs; rw [qend_921]
          | d :: r2, hs, hn =>
            simp only [List.length_cons] at hn
            simp only []
            by_cases h4 : simple8 d = true
            · rw [if_pos h4, ih r2 (by omega) hs.2.2]
              refine (quoB_shift _ r2 2 (qend_92 d r2) (fun q => ?_) rfl).symm
              rw [List.take_succ_cons, List.take_succ_cons, escs_simple h4]
            · rw [if_neg h4]
              have h4' : simple8 d = false := by simpa using h4
              by_cases h5 : d = 117
              · rw [if_pos h5]
                match r2, hs, hn with
                | a :: b :: e :: f :: r3, hs, hn =>
                  simp only []
                  simp only [List.length_cons] at hn
                  by_cases h6 : (hexd a && (hexd b && (hexd e && hexd f))) = true
                  · rw [if_pos h6, ih r3 (by omega) hs.2.2.2.2.2.2]
                    have g := h6
                    simp only [Bool.and_eq_true] at g
                    obtain ⟨ga, gb, ge, gf⟩ := g
                    refine (quoB_shift _ r3 6 ?_ (fun q => ?_) rfl).symm
                    · rw [qend_92, qend_other (hexd_not ga).1 (hexd_not ga).2, qend_other (hexd_not gb).1 (hexd_not gb).2, qend_other (hexd_not ge).1 (hexd_not ge).2, qend_other (hexd_not gf).1 (hexd_not gf).2]
                      cases qend r3 <;> rfl
                    · rw [h5, take_hex, escs_u h6]
                  · rw [if_neg h6, quoB_bad h4']
                    intro _ a' b' e' f' r3' hr
                    simp only [List.cons.injEq] at hr
                    obtain ⟨rfl, rfl, rfl, rfl, _⟩ := hr
                    simpa using h6
                | [], _, _ => rw [quoB_bad h4']; intro _ a' b' e' f' r3' hr; cases hr
                | [_], _, _ => rw [quoB_bad h4']; intro _ a' b' e' f' r3' hr; cases hr
                | [_, _], _, _ => rw [quoB_bad h4']; intro _ a' b' e' f' r3' hr; cases hr
                | [_, _, _], _, _ => rw [quoB_bad h4']; intro _ a' b' e' f' r3' hr; cases hr
              · rw [if_neg h5, quoB_bad h4' r2 (fun h => absurd h h5)]
        · rw [if_neg h2, quoB_one r h1 h2 h3, ih r (by omega) hs.2]
/-- The state behind some bytes none of which closes: does a backslash stand open? -/
def opn (e : Bool) (x : List Int) : Bool := x.foldl (fun e c => if e then false else c == 92) e
def qe (e : Bool) (l : List Int) : Option Nat := if e then (match l with | [] => none | _ :: r => (qend r).map (· + 1)) else qend l
theorem qe_cons (e : Bool) (c : Int) (l : List Int) (h : c ≠ 34 ∨ e = true) : qe e (c :: l) = (qe (if e then false else c == 92) l).map (· + 1) := by
  cases e with
  | true => rfl
  | false =>
    have h1 : c ≠ 34 := by rcases h with h | h; exact h; cases h
    show qend (c :: l) = _
    by_cases h2 : c = 92
    · subst h2
      cases l with
      | nil => rw [qend_921]; rfl
      | cons d r =>
        rw [qend_92]
        show _ = Option.map (· + 1) ((qend r).map (· + 1))
        cases qend r <;> rfl
    · rw [qend_other h1 h2]
      have : (c == 92) = false := beq_eq_false_iff_ne.mpr h2
      simp only [this, Bool.false_eq_true, if_false]
      rfl
theorem qe_ahead (z : List Int) : ∀ (x : List Int) (e : Bool), (34 : Int) ∉ x → qe e (x ++ z) = (qe (opn e x) z).map (x.length + ·)
  | [], e, _ => by
    show qe e z = Option.map (fun a => 0 + a) (qe e z)
    cases qe e z with
    | none => rfl
    | some a => simp only [Option.map_some, Nat.zero_add]
  | c :: x, e, h => by
    rw [List.cons_append, qe_cons e c _ (.inl fun q => h (by rw [q]; exact List.mem_cons_self ..)), qe_ahead z x _ (fun q => h (List.mem_cons_of_mem _ q))]
    show _ = Option.map _ (qe (opn (if e then false else c == 92) x) z)
    cases qe (opn (if e then false else c == 92) x) z with
    | none => rfl
    | some a => simp only [Option.map_some, List.length_cons]; congr 1; omega
theorem opn_append (e : Bool) (x y : List Int) : opn e (x ++ y) = opn (opn e x) y := List.foldl_append ..
theorem opn_rep : ∀ (r : Nat) (e : Bool), opn e (List.replicate r 92) = (e != (r % 2 == 1))
  | 0, e => by cases e <;> rfl
  | r + 1, e => by
    rw [List.replicate_succ]
    show opn (if e then false else (92 : Int) == 92) (List.replicate r 92) = _
    rw [opn_rep r]
    have : ((r + 1) % 2 == 1) = !(r % 2 == 1) := by
      by_cases h : r % 2 = 1
      · rw [beq_iff_eq.mpr h, beq_eq_false_iff_ne.mpr (by omega)]; rfl
      · rw [beq_eq_false_iff_ne.mpr h, beq_iff_eq.mpr (by omega)]; rfl
    rw [this]
    cases e <;> cases (r % 2 == 1) <;> rfl
/-- Behind a byte that is no backslash, or at the beginning, nothing stands open. -/
def Shut (x : List Int) : Prop := x = [] ∨ ∃ y c, x = y ++ [c] ∧ c ≠ 92
theorem opn_shut {x : List Int} (h : Shut x) : opn false x = false := by
  rcases h with rfl | ⟨y, c, rfl, hc⟩
  · rfl
  · rw [opn_append]
    show (if opn false y then false else c == 92) = false
    rw [beq_eq_false_iff_ne.mpr hc]
    simp
/-- The first quotation mark of a text: the backslashes right ahead of it decide. -/
theorem qend_first (x z : List Int) (r : Nat) (hx : Shut x) (h34 : (34 : Int) ∉ x) : qend (x ++ (List.replicate r 92 ++ 34 :: z)) = if r % 2 = 0 then some (x.length + r) else (qend z).map (x.length + r + 1 + ·) := by
  have h := qe_ahead (34 :: z) (x ++ List.replicate r 92) false (by
    rw [List.mem_append]
    rintro (q | q)
    · exact h34 q
    · have := List.eq_of_mem_replicate q
      omega)
  rw [List.append_assoc] at h
  show qe false _ = _
  rw [h, opn_append, opn_shut hx, opn_rep]
  by_cases c : r % 2 = 0
  · rw [if_pos c, beq_eq_false_iff_ne.mpr (by omega)]
    show Option.map _ (qend (34 :: z)) = _
    rw [qend_34, List.length_append, List.length_replicate]
    rfl
  · rw [if_neg c, beq_iff_eq.mpr (by omega : r % 2 = 1)]
    show Option.map _ ((qend z).map (· + 1)) = _
    rw [List.length_append, List.length_replicate]
    cases qend z with
    | none => rfl
    | some a => simp only [Option.map_some]; congr 1; omega
theorem qend_without : ∀ (n : Nat) (l : List Int), l.length ≤ n → (34 : Int) ∉ l → qend l = none := fun n l _ h => by
  have := qe_ahead [] l false h
  rw [List.append_nil] at this
  show qe false l = none
  rw [this]
  cases opn false l with
  | true => rfl
  | false => show Option.map _ (qend []) = none; rw [qend_nil]; rfl
end Go.Proofs.YtlhaefblchpjhaaGreatDoor.Fj
end
section

end
section
namespace Go.Proofs.YtlhaefblchpjhaaGreatDoor.ReadXFnAlValid
open Go.RowKit Go.Proofs.YtlhaefblchpjhaaGreatDoor.Base Go.Proofs.YtlhaefblchpjhaaGreatDoor.XFnAlValid Go.Proofs.YtlhaefblchpjhaaGreatDoorW.PrintWords Go.Proofs.YtlhaefblchpjhaaGreatDoorW.PrintLast
set_option linter.unusedVariables false
set_option linter.unusedSimpArgs false
variable {s : ByteArray}
/-- The bytes of s from p on. -/
abbrev D (s : ByteArray) (p : Nat) : List Int := (bytesOf s).drop p
theorem rd_D (p j : Nat) : rd (D s p) (j : Int) = bt s ((p + j : Nat) : Int) := by
  rw [← rd_bytesOf]
  unfold rd
  simp only [Int.toNat_natCast, List.getD_eq_getElem?_getD, List.getElem?_drop]
theorem rd_D0 (p : Nat) : rd (D s p) 0 = bt s (p : Int) := rd_D p 0
theorem D_cons (p : Nat) (h : p < s.size) : D s p = bt s (p : Int) :: D s (p + 1) := by
  have hl : p < (bytesOf s).length := by rw [bytesOf_length]; exact h
  have e : (bytesOf s)[p]'hl = bt s (p : Int) := by
    rw [← rd_bytesOf]
    unfold rd
    simp only [Int.toNat_natCast, List.getD_eq_getElem?_getD]
    rw [List.getElem?_eq_getElem hl]
    rfl
  rw [← e]
  exact List.drop_eq_getElem_cons hl
theorem D_nil (p : Nat) (h : s.size ≤ p) : D s p = [] := List.drop_of_length_le (by rw [bytesOf_length]; exact h)
theorem D_drop (p m : Nat) : (D s p).drop m = D s (p + m) := by rw [List.drop_drop]
theorem D_len (p : Nat) : (D s p).length = s.size - p := by rw [List.length_drop, bytesOf_length]
theorem blank_eq (c : Int) : spec_Blank.f c = some (Fj.blank c) := by
  unfold spec_Blank.f Fj.blank
  by_cases a : c = 32
  · subst a; rfl
  · by_cases b : c = 9
    · subst b; rfl
    · by_cases d : c = 10
      · subst d; rfl
      · by_cases e : c = 13
        · subst e; rfl
        · have a' := beq_eq_false_iff_ne.mpr a
          have b' := beq_eq_false_iff_ne.mpr b
          have d' := beq_eq_false_iff_ne.mpr d
          have e' := beq_eq_false_iff_ne.mpr e
          simp [a, b, d, e, a', b', d', e']
theorem ws_at (p : Nat) : Fj.ws (D s p) = if p < s.size ∧ Fj.blank (bt s (p : Int)) = true then Fj.ws (D s (p + 1)) + 1 else 0 := by
  by_cases h : p < s.size
  · rw [D_cons p h, Fj.ws]
    by_cases b : Fj.blank (bt s (p : Int)) = true
    · rw [if_pos b, if_pos ⟨h, b⟩]
    · rw [if_neg b, if_neg (fun x => b x.2)]
  · rw [D_nil p (by omega), if_neg (fun x => h x.1)]; rfl
theorem blanks_ex (hs : s.size ≤ 1000000) : ∀ (m p : Nat), p ≤ s.size → s.size - p ≤ m → Tot (fun k => spec_reader_blanks.l0 k s (p : Int)) (fun r => r = (s, ((p + Fj.ws (D s p) : Nat) : Int)))
  | m, p, h1, hm => by
    by_cases c : p < s.size
    · cases m with
      | zero => omega
      | succ m =>
        refine Tot.succ (fun k => by rw [spec_reader_blanks.l0, if_pos (by omega), if_pos (by omega)]) ?_
        refine Tot.bind (f := fun _ => spec_Blank.f (bt s (p : Int))) (Q := fun b => b = Fj.blank (bt s (p : Int))) (Tot.eq (fun _ => blank_eq _) rfl) fun b hb => ?_
        subst hb
        refine Tot.ite (fun hb => ?_) (fun hb => Tot.ret ?_)
        · rw [w64 (by omega) (by omega)]
          refine (blanks_ex hs m (p + 1) (by omega) (by omega)).mono fun r h => ?_
          rw [h, ws_at p, if_pos ⟨c, hb⟩]
          congr 2
          omega
        · rw [ws_at p, if_neg (fun x => hb x.2)]; rfl
    · exact Tot.succ (fun k => by rw [spec_reader_blanks.l0, if_neg (by omega)]) (Tot.ret (by rw [ws_at p, if_neg (fun x => c x.1)]; rfl))
theorem blanks_is (hs : s.size ≤ 1000000) (p : Nat) (h1 : p ≤ s.size) : Tot (fun k => spec_reader_blanks.f k s (p : Int)) (fun r => r = (s, ((p + Fj.ws (D s p) : Nat) : Int))) := by
  unfold spec_reader_blanks.f
  exact blanks_ex hs s.size p h1 (by omega)
theorem digs_at (p : Nat) : Fj.digs (D s p) = if 48 ≤ bt s (p : Int) ∧ bt s (p : Int) ≤ 57 then Fj.digs (D s (p + 1)) + 1 else 0 := by
  by_cases h : p < s.size
  · rw [D_cons p h, Fj.digs]
  · rw [D_nil p (by omega), bt_out s p (by omega), if_neg (by omega)]; rfl
theorem digits_ex (hs : s.size ≤ 1000000) : ∀ (m p : Nat) (q : Int), p ≤ s.size → s.size - p ≤ m → Tot (fun k => spec_reader_digits.l0 k q (bt s (p : Int)) s (p : Int)) (fun r => r = (decide (((p + Fj.digs (D s p) : Nat) : Int) > q), s, ((p + Fj.digs (D s p) : Nat) : Int)))
  | m, p, q, h1, hm => by
    by_cases c : 48 ≤ bt s (p : Int) ∧ bt s (p : Int) ≤ 57
    · have hp := bt_digit c.1
      cases m with
      | zero => omega
      | succ m =>
        refine Tot.succ (fun k => by rw [spec_reader_digits.l0, if_pos c.1, if_pos c.2, w64 (i := (p : Int) + 1) (by omega) (by omega)]) ?_
        refine Tot.bind (here_tot hs ((p : Int) + 1) (by omega)) fun r hr => ?_
        subst hr
        refine (digits_ex hs m (p + 1) q (by omega) (by omega)).mono fun r h => ?_
        rw [h, digs_at p, if_pos c]
        have e : p + 1 + Fj.digs (D s (p + 1)) = p + (Fj.digs (D s (p + 1)) + 1) := by omega
        rw [e]
    · have e : p + Fj.digs (D s p) = p := by rw [digs_at p, if_neg c]; rfl
      have fin : Tot (fun _ => some (decide ((p : Int) > q), s, (p : Int))) (fun r => r = (decide (((p + Fj.digs (D s p) : Nat) : Int) > q), s, ((p + Fj.digs (D s p) : Nat) : Int))) := Tot.ret (by rw [e])
      by_cases c1 : 48 ≤ bt s (p : Int)
      · exact Tot.succ (fun k => by rw [spec_reader_digits.l0, if_pos c1, if_neg (fun x => c ⟨c1, x⟩)]) fin
      · exact Tot.succ (fun k => by rw [spec_reader_digits.l0, if_neg c1]) fin
theorem digits_is (hs : s.size ≤ 1000000) (p : Nat) (h1 : p ≤ s.size) : Tot (fun k => spec_reader_digits.f k s (p : Int)) (fun r => r = (decide (Fj.digs (D s p) ≠ 0), s, ((p + Fj.digs (D s p) : Nat) : Int))) := by
  unfold spec_reader_digits.f
  refine Tot.bind (here_tot hs (p : Int) (by omega)) fun r hr => ?_
  subst hr
  refine (digits_ex hs s.size p (p : Int) h1 (by omega)).mono fun r h => ?_
  rw [h]
  congr 1
  exact decide_eq_decide.mpr (by omega)
/-- What a reader answers, exactly. -/
def Ans (s : ByteArray) (o : Option Nat) (r : Bool × ByteArray × Int) : Prop := r.2.1 = s ∧ match o with
  | some e => r.1 = true ∧ r.2.2 = (e : Int) ∧ e ≤ s.size
  | none => r.1 = false
/-- One byte. -/
theorem take_is (hs : s.size ≤ 1000000) (p : Nat) (c : Int) (h1 : p ≤ s.size) (hc : c ≠ 0) : Tot (fun _ => spec_reader_take.f s (p : Int) c) (fun r => r = if bt s (p : Int) = c then (true, s, ((p + 1 : Nat) : Int)) else (false, s, (p : Int))) := by
  unfold spec_reader_take.f
  by_cases c1 : (p : Int) < s.size
  · by_cases c2 : bt s (p : Int) = c
    · exact Tot.eq (fun _ => by rw [if_pos c1, if_pos (by omega), if_pos c2, w64 (by omega) (by omega)]) (by rw [if_pos c2]; rfl)
    · exact Tot.eq (fun _ => by rw [if_pos c1, if_pos (by omega), if_neg c2]) (by rw [if_neg c2])
  · have hz := bt_out s (p : Int) (by omega)
    exact Tot.eq (fun _ => by rw [if_neg c1]) (by rw [hz, if_neg (Ne.symm hc)])
theorem in_text {p : Nat} {c : Int} (h : bt s (p : Int) = c) (hc : c ≠ 0) : p < s.size := by
  refine Nat.lt_of_not_le fun hle => ?_
  rw [bt_out s (p : Int) (by omega)] at h
  exact hc h.symm
theorem digs_size (p : Nat) : p ≤ s.size → p + Fj.digs (D s p) ≤ s.size := fun h => by
  have := Fj.digs_le (D s p)
  rw [D_len] at this
  omega
/-- The reference's numbers: behind the letter, behind the fraction, behind the whole part; all at places of the text. -/
def nE (s : ByteArray) (p : Nat) : Option Nat :=
  if bt s (p : Int) = 43 ∨ bt s (p : Int) = 45 then (if Fj.digs (D s (p + 1)) = 0 then none else some (p + 1 + Fj.digs (D s (p + 1)))) else (if Fj.digs (D s p) = 0 then none else some (p + Fj.digs (D s p)))
def nX (s : ByteArray) (p : Nat) : Option Nat := if bt s (p : Int) = 101 ∨ bt s (p : Int) = 69 then nE s (p + 1) else some p
def nF (s : ByteArray) (p : Nat) : Option Nat := if bt s (p : Int) = 46 then (if Fj.digs (D s (p + 1)) = 0 then none else nX s (p + 1 + Fj.digs (D s (p + 1)))) else nX s p
def nW (s : ByteArray) (p : Nat) : Option Nat := if bt s (p : Int) = 48 then nF s (p + 1) else (if Fj.digs (D s p) = 0 then none else nF s (p + Fj.digs (D s p)))
def nN (s : ByteArray) (p : Nat) : Option Nat := if bt s (p : Int) = 45 then nW s (p + 1) else nW s p
theorem digits_ans (hs : s.size ≤ 1000000) (p : Nat) (h1 : p ≤ s.size) : Tot (fun k => spec_reader_digits.f k s (p : Int)) (Ans s (if Fj.digs (D s p) = 0 then none else some (p + Fj.digs (D s p)))) := by
  refine (digits_is hs p h1).mono fun r h => ?_
  subst h
  by_cases c : Fj.digs (D s p) = 0
  · rw [if_pos c]; exact ⟨rfl, by simp [c]⟩
  · rw [if_neg c]; exact ⟨rfl, by simp [c], rfl, digs_size p h1⟩
theorem j2_is (hs : s.size ≤ 1000000) (p : Nat) (h1 : p ≤ s.size) : Tot (fun k => spec_reader_number.j2 k true s (p : Int)) (Ans s (nE s p)) := by
  refine Tot.succ (fun k => by rw [spec_reader_number.j2, if_pos rfl]) ?_
  refine Tot.bind (take_is hs p 43 h1 (by decide)) fun r hr => ?_
  subst hr
  unfold nE
  by_cases c1 : bt s (p : Int) = 43
  · have := in_text c1 (by decide)
    simp only [c1, if_true, true_or]
    refine Tot.bind (digits_ans hs (p + 1) (by omega)) fun r hr => Tot.ret ?_
    exact hr
  · simp only [c1, if_false, Bool.false_eq_true, false_or]
    refine Tot.bind (take_is hs p 45 h1 (by decide)) fun r hr => ?_
    subst hr
    by_cases c2 : bt s (p : Int) = 45
    · have := in_text c2 (by decide)
      simp only [c2, if_true]
      refine Tot.bind (digits_ans hs (p + 1) (by omega)) fun r hr => Tot.ret ?_
      exact hr
    · simp only [c2, if_false]
      refine Tot.bind (digits_ans hs p (by omega)) fun r hr => Tot.ret ?_
      exact hr
theorem j1_is (hs : s.size ≤ 1000000) (p : Nat) (h1 : p ≤ s.size) : Tot (fun k => spec_reader_number.j1 k false s (p : Int)) (Ans s (nX s p)) := by
  refine Tot.succ (fun k => by rw [spec_reader_number.j1, if_neg (by decide)]) ?_
  refine Tot.bind (take_is hs p 101 h1 (by decide)) fun r hr => ?_
  subst hr
  unfold nX
  by_cases c1 : bt s (p : Int) = 101
  · have := in_text c1 (by decide)
    simp only [c1, if_true, true_or]
    exact j2_is hs (p + 1) (by omega)
  · simp only [c1, if_false, Bool.false_eq_true, false_or]
    refine Tot.bind (take_is hs p 69 h1 (by decide)) fun r hr => ?_
    subst hr
    by_cases c2 : bt s (p : Int) = 69
    · have := in_text c2 (by decide)
      simp only [c2, if_true]
      exact j2_is hs (p + 1) (by omega)
    · simp only [c2, if_false]
      exact Tot.succ (fun k => by rw [spec_reader_number.j2, if_neg (by decide)]) (Tot.ret ⟨rfl, rfl, rfl, h1⟩)
theorem j0_is (hs : s.size ≤ 1000000) (p : Nat) (h1 : p ≤ s.size) : Tot (fun k => spec_reader_number.j0 k false s (p : Int)) (Ans s (nF s p)) := by
  refine Tot.succ (fun k => by rw [spec_reader_number.j0, if_neg (by decide)]) ?_
  refine Tot.bind (take_is hs p 46 h1 (by decide)) fun r hr => ?_
  subst hr
  unfold nF
  by_cases c1 : bt s (p : Int) = 46
  · have hp := in_text c1 (by decide)
    simp only [c1, if_true]
    refine Tot.bind (digits_is hs (p + 1) (by omega)) fun r hr => ?_
    subst hr
    by_cases c2 : Fj.digs (D s (p + 1)) = 0
    · simp only [c2, ne_eq, not_true_eq_false, decide_false, Bool.not_false, if_true]
      exact Tot.succ (fun k => by rw [spec_reader_number.j1, if_pos rfl]) (Tot.ret ⟨rfl, rfl⟩)
    · simp only [c2, ne_eq, not_false_eq_true, decide_true, Bool.not_true, if_false]
      exact j1_is hs (p + 1 + Fj.digs (D s (p + 1))) (digs_size (p + 1) (by omega))
  · simp only [c1, if_false, Bool.false_eq_true]
    exact j1_is hs p h1
theorem number_is (hs : s.size ≤ 1000000) (p : Nat) (h1 : p ≤ s.size) : Tot (fun k => spec_reader_number.f k s (p : Int)) (Ans s (nN s p)) := by
  unfold spec_reader_number.f nN
  have rest : ∀ q : Nat, q ≤ s.size → Tot (fun k => (spec_reader_take.f s (q : Int) 48).bind fun bt127 => (if bt127.1 = true then (spec_reader_number.j0 k false bt127.2.1 bt127.2.2) else ((spec_reader_digits.f k bt127.2.1 bt127.2.2).bind fun bt130 => (spec_reader_number.j0 k (!bt130.1) bt130.2.1 bt130.2.2)))) (Ans s (nW s q)) := by
    intro q hq
    refine Tot.bind (take_is hs q 48 hq (by decide)) fun r hr => ?_
    subst hr
    unfold nW
    by_cases c1 : bt s (q : Int) = 48
    · have := in_text c1 (by decide)
      simp only [c1, if_true]
      exact j0_is hs (q + 1) (by omega)
    · simp only [c1, if_false, Bool.false_eq_true]
      refine Tot.bind (digits_is hs q hq) fun r hr => ?_
      subst hr
      by_cases c2 : Fj.digs (D s q) = 0
      · simp only [c2, ne_eq, not_true_eq_false, decide_false, Bool.not_false, if_true]
        exact Tot.succ (fun k => by rw [spec_reader_number.j0, if_pos rfl]) (Tot.ret ⟨rfl, rfl⟩)
      · simp only [c2, ne_eq, not_false_eq_true, decide_true, Bool.not_true, if_false]
        exact j0_is hs (q + Fj.digs (D s q)) (digs_size q hq)
  refine Tot.bind (take_is hs p 45 h1 (by decide)) fun r hr => ?_
  subst hr
  by_cases c1 : bt s (p : Int) = 45
  · have := in_text c1 (by decide)
    simp only [c1, if_true]
    exact rest (p + 1) (by omega)
  · simp only [c1, if_false]
    exact rest p h1
/-- The numbers of fastjson's Validate are the reference's, but that a first zero has no digit behind it. -/
theorem expo_eq (a m : Nat) : (Fj.expo (D s a) m).map (a + ·) = nX s (a + m) := by
  unfold Fj.expo nX nE
  simp only [rd_D, D_drop]
  have e1 : a + (m + 1) = a + m + 1 := by omega
  have e2 : a + (m + 2) = a + m + 1 + 1 := by omega
  rw [e1, e2]
  by_cases c : bt s ((a + m : Nat) : Int) = 101 ∨ bt s ((a + m : Nat) : Int) = 69
  · rw [if_pos c, if_pos c]
    by_cases d : bt s ((a + m + 1 : Nat) : Int) = 45 ∨ bt s ((a + m + 1 : Nat) : Int) = 43
    · rw [if_pos d, if_pos d.symm]
      by_cases z : Fj.digs (D s (a + m + 1 + 1)) = 0
      · rw [if_pos z, if_pos z]; rfl
      · rw [if_neg z, if_neg z]
        simp only [Option.map_some]
        congr 1; omega
    · have d' : ¬ (bt s ((a + m + 1 : Nat) : Int) = 43 ∨ bt s ((a + m + 1 : Nat) : Int) = 45) := fun x => d x.symm
      rw [if_neg d, if_neg d']
      by_cases z : Fj.digs (D s (a + m + 1)) = 0
      · rw [if_pos z, if_pos z]; rfl
      · rw [if_neg z, if_neg z]
        simp only [Option.map_some]
        congr 1; omega
  · rw [if_neg c, if_neg c]; rfl
theorem frac_eq (a m : Nat) : (Fj.frac (D s a) m).map (a + ·) = nF s (a + m) := by
  unfold Fj.frac nF
  simp only [rd_D, D_drop]
  have e1 : a + (m + 1) = a + m + 1 := by omega
  rw [e1]
  by_cases c : bt s ((a + m : Nat) : Int) = 46
  · rw [if_pos c, if_pos c]
    by_cases z : Fj.digs (D s (a + m + 1)) = 0
    · rw [if_pos z, if_pos z]; rfl
    · rw [if_neg z, if_neg z, expo_eq]
      congr 1; omega
  · rw [if_neg c, if_neg c]; exact expo_eq a m
/-- A whole part that is a zero, and a digit behind it. -/
def Zero2 (s : ByteArray) (p : Nat) : Prop := bt s (p : Int) = 48 ∧ 48 ≤ bt s ((p + 1 : Nat) : Int) ∧ bt s ((p + 1 : Nat) : Int) ≤ 57
theorem zero2_nW {p : Nat} (h : Zero2 s p) : nW s p = some (p + 1) := by
  obtain ⟨h1, h2, h3⟩ := h
  unfold nW nF nX
  rw [if_pos h1, if_neg (by omega), if_neg (by omega)]
theorem whole_eq (a m : Nat) : (Zero2 s (a + m) ∧ Fj.whole (D s a) m = none) ∨ (¬ Zero2 s (a + m) ∧ (Fj.whole (D s a) m).map (a + ·) = nW s (a + m)) := by
  unfold Fj.whole nW
  simp only [rd_D, D_drop]
  by_cases c : bt s ((a + m : Nat) : Int) = 48
  · have hd := digs_at (s := s) (a + m)
    rw [if_pos (by omega)] at hd
    by_cases z : Fj.digs (D s (a + m + 1)) = 0
    · right
      have hz : ¬ Zero2 s (a + m) := fun h => by
        rw [digs_at, if_pos h.2] at z
        omega
      refine ⟨hz, ?_⟩
      rw [if_neg (by omega), if_neg (by omega), if_pos c, hd, z, frac_eq]
      rfl
    · left
      refine ⟨⟨c, ?_⟩, ?_⟩
      · by_cases y : 48 ≤ bt s ((a + m + 1 : Nat) : Int) ∧ bt s ((a + m + 1 : Nat) : Int) ≤ 57
        · exact y
        · rw [digs_at, if_neg y] at z; exact absurd rfl z
      · rw [if_neg (by omega), if_pos ⟨c, by omega⟩]
  · right
    refine ⟨fun h => c h.1, ?_⟩
    rw [if_neg c]
    by_cases z : Fj.digs (D s (a + m)) = 0
    · rw [if_pos z, if_pos z]; rfl
    · rw [if_neg z, if_neg z, if_neg (fun h => c h.1), frac_eq]
      congr 1; omega
theorem num_eq (a : Nat) : ((Zero2 s a ∨ bt s (a : Int) = 45 ∧ Zero2 s (a + 1)) ∧ Fj.num (D s a) = none) ∨ (¬ (Zero2 s a ∨ bt s (a : Int) = 45 ∧ Zero2 s (a + 1)) ∧ (Fj.num (D s a)).map (a + ·) = nN s a) := by
  unfold Fj.num nN
  rw [rd_D0]
  by_cases c : bt s (a : Int) = 45
  · rw [if_pos c, if_pos c]
    have hz : ¬ Zero2 s a := fun h => by have := h.1; omega
    rcases whole_eq (s := s) a 1 with ⟨h1, h2⟩ | ⟨h1, h2⟩
    · exact .inl ⟨.inr ⟨c, h1⟩, h2⟩
    · exact .inr ⟨fun h => h.elim hz fun x => h1 x.2, h2⟩
  · rw [if_neg c, if_neg c]
    rcases whole_eq (s := s) a 0 with ⟨h1, h2⟩ | ⟨h1, h2⟩
    · exact .inl ⟨.inl h1, h2⟩
    · exact .inr ⟨fun h => h.elim h1 fun x => c x.1, h2⟩
/-! Strings. -/
theorem hexd_eq (c : Int) : Fj.hexd c = (hv c).isSome := by
  unfold Fj.hexd hv
  by_cases a : 48 ≤ c ∧ c ≤ 57
  · rw [if_pos a]; simp [a]
  · rw [if_neg a]
    by_cases b : 97 ≤ c ∧ c ≤ 102
    · rw [if_pos b]; simp [a, b]
    · rw [if_neg b]
      by_cases d : 65 ≤ c ∧ c ≤ 70
      · rw [if_pos d]; simp [a, b, d]
      · rw [if_neg d]; simp [a, b, d]
theorem simple8_eq (c : Int) : Fj.simple8 c = true ↔ Simple c := by
  unfold Fj.simple8 Simple
  simp only [Bool.or_eq_true, beq_iff_eq]
def hex4 (s : ByteArray) (p : Nat) : Bool := Fj.hexd (bt s (p : Int)) && (Fj.hexd (bt s ((p + 1 : Nat) : Int)) && (Fj.hexd (bt s ((p + 2 : Nat) : Int)) && Fj.hexd (bt s ((p + 3 : Nat) : Int))))
theorem hexd_in {p : Nat} (h : Fj.hexd (bt s (p : Int)) = true) : p < s.size := by
  refine Nat.lt_of_not_le fun hle => ?_
  rw [bt_out s (p : Int) (by omega)] at h
  exact absurd h (by decide)
theorem quo_at (p : Nat) (h : p < s.size) : Fj.quo (D s p) = if bt s (p : Int) = 34 then some 1 else if bt s (p : Int) < 32 then none else if bt s (p : Int) = 92 then
      (if Fj.simple8 (bt s ((p + 1 : Nat) : Int)) = true then (Fj.quo (D s (p + 2))).map (· + 2) else if bt s ((p + 1 : Nat) : Int) = 117 then (if hex4 s (p + 2) = true then (Fj.quo (D s (p + 6))).map (· + 6) else none) else none)
    else (Fj.quo (D s (p + 1))).map (· + 1) := by
  rw [D_cons p h, Fj.quo.eq_def]
  simp only []
  by_cases c34 : bt s (p : Int) = 34
  · rw [if_pos c34, if_pos c34]
  · rw [if_neg c34, if_neg c34]
    by_cases c32 : bt s (p : Int) < 32
    · rw [if_pos c32, if_pos c32]
    · rw [if_neg c32, if_neg c32]
      by_cases c92 : bt s (p : Int) = 92
      · rw [if_pos c92, if_pos c92]
        by_cases h1 : p + 1 < s.size
        · rw [D_cons (p + 1) h1]
          simp only []
          by_cases k : Fj.simple8 (bt s ((p + 1 : Nat) : Int)) = true
          · rw [if_pos k, if_pos k]
          · rw [if_neg k, if_neg k]
            by_cases u : bt s ((p + 1 : Nat) : Int) = 117
            · rw [if_pos u, if_pos u]
              by_cases h5 : p + 5 < s.size
              · rw [D_cons (p + 1 + 1) (by omega), D_cons (p + 1 + 1 + 1) (by omega), D_cons (p + 1 + 1 + 1 + 1) (by omega), D_cons (p + 1 + 1 + 1 + 1 + 1) (by omega)]
                rfl
              · have hx : hex4 s (p + 2) = false := by
                  cases hh : hex4 s (p + 2) with
                  | false => rfl
                  | true =>
                    unfold hex4 at hh
                    simp only [Bool.and_eq_true] at hh
                    have := hexd_in hh.2.2.2
                    omega
                rw [hx, if_neg (by decide)]
                have hl : (D s (p + 1 + 1)).length < 4 := by rw [D_len]; omega
                match hD : D s (p + 1 + 1), hl with
                | [], _ => rfl
                | [_], _ => rfl
                | [_, _], _ => rfl
                | [_, _, _], _ => rfl
            · rw [if_neg u, if_neg u]
        · have hz : bt s ((p + 1 : Nat) : Int) = 0 := bt_out s _ (by omega)
          rw [D_nil (p + 1) (by omega), hz]
          rfl
      · rw [if_neg c92, if_neg c92]
theorem Ans.shift {o : Option Nat} {p n : Nat} {r : Bool × ByteArray × Int} (h : Ans s (o.map (p + n + ·)) r) : Ans s ((o.map (· + n)).map (p + ·)) r := by
  cases o with
  | none => exact h
  | some e =>
    have e1 : p + (e + n) = p + n + e := by omega
    simp only [Option.map_some] at h ⊢
    rw [e1]
    exact h
theorem quoted_is (hs : s.size ≤ 1000000) : ∀ (m p : Nat), s.size - p ≤ m → Tot (fun k => spec_reader_quoted.l0 k s (p : Int)) (Ans s ((Fj.quo (D s p)).map (p + ·)))
  | m, p, hm => by
    by_cases c : p < s.size
    · cases m with
      | zero => omega
      | succ m =>
        refine Tot.succ (fun k => by rw [spec_reader_quoted.l0, if_pos (by omega), if_pos (by omega), w64 (i := (p : Int) + 1) (by omega) (by omega)]) ?_
        rw [quo_at p c]
        refine Tot.ite (fun c34 => Tot.ret ?_) fun c34 => Tot.ite (fun c32 => Tot.ret ?_) fun c32 => Tot.ite (fun c92 => ?_) (fun c92 => ?_)
        · rw [if_pos c34]; exact ⟨rfl, rfl, rfl, show p + 1 ≤ s.size by omega⟩
        · rw [if_neg c34, if_pos c32]; exact ⟨rfl, rfl⟩
        · rw [if_neg c34, if_neg c32, if_pos c92]
          by_cases c4 : Simple (bt s ((p + 1 : Nat) : Int))
          · rw [if_pos ((simple8_eq _).mpr c4)]
            refine Tot.bind (f := fun k => spec_reader_escape.f k s ((p : Int) + 1)) (Q := fun r => r = (true, s, (p : Int) + 1 + 1)) ⟨_, (Ev.ge 1).mp fun k hk => escape_simple k hk s ((p : Int) + 1) (by omega) (by omega) c4, rfl⟩ fun r hr => ?_
            subst hr
            simp only [if_true]
            exact (quoted_is hs m (p + 2) (by omega)).mono fun r h => h.shift
          · rw [if_neg (fun x => c4 ((simple8_eq _).mp x))]
            by_cases c5 : bt s ((p + 1 : Nat) : Int) = 117
            · rw [if_pos c5]
              have e4 : hex4 s (p + 2) = (h4 (hv (bt s ((p : Int) + 1 + 1))) (hv (bt s ((p : Int) + 1 + 2))) (hv (bt s ((p : Int) + 1 + 3))) (hv (bt s ((p : Int) + 1 + 4)))).isSome := by
                unfold hex4 h4
                rw [hexd_eq, hexd_eq, hexd_eq, hexd_eq]
                have x1 : ((p + 2 : Nat) : Int) = (p : Int) + 1 + 1 := by omega
                have x2 : ((p + 2 + 1 : Nat) : Int) = (p : Int) + 1 + 2 := by omega
                have x3 : ((p + 2 + 2 : Nat) : Int) = (p : Int) + 1 + 3 := by omega
                have x4 : ((p + 2 + 3 : Nat) : Int) = (p : Int) + 1 + 4 := by omega
                rw [x1, x2, x3, x4]
                cases hv (bt s ((p : Int) + 1 + 1)) <;> cases hv (bt s ((p : Int) + 1 + 2)) <;> cases hv (bt s ((p : Int) + 1 + 3)) <;> cases hv (bt s ((p : Int) + 1 + 4)) <;> rfl
              rw [e4]
              by_cases c6 : (h4 (hv (bt s ((p : Int) + 1 + 1))) (hv (bt s ((p : Int) + 1 + 2))) (hv (bt s ((p : Int) + 1 + 3))) (hv (bt s ((p : Int) + 1 + 4)))).isSome = true
              · rw [if_pos c6]
                refine Tot.bind (f := fun k => spec_reader_escape.f k s ((p : Int) + 1)) (Q := fun r => r = (true, s, (p : Int) + 1 + 5)) ⟨_, (Ev.ge 12).mp fun k hk => by
                  obtain ⟨q, hq⟩ := escape_u k hk s ((p : Int) + 1) (by omega) (by omega) (show bt s ((p : Int) + 1) = 117 from c5)
                  rw [if_pos c6] at hq
                  exact hq, rfl⟩ fun r hr => ?_
                subst hr
                simp only [if_true]
                have e6 : (p : Int) + 1 + 5 = ((p + 6 : Nat) : Int) := by omega
                rw [e6]
                exact (quoted_is hs m (p + 6) (by omega)).mono fun r h => h.shift
              · rw [if_neg c6]
                obtain ⟨q, hq⟩ := escape_u 12 (by omega) s ((p : Int) + 1) (by omega) (by omega) (show bt s ((p : Int) + 1) = 117 from c5)
                rw [if_neg c6] at hq
                refine Tot.bind (f := fun k => spec_reader_escape.f k s ((p : Int) + 1)) (Q := fun r => r = (false, s, q)) ⟨_, (Ev.ge 12).mp fun k hk => by
                  obtain ⟨j, rfl⟩ : ∃ j, k = 12 + j := ⟨k - 12, by omega⟩
                  exact tot_lift (f := fun k => spec_reader_escape.f k s ((p : Int) + 1)) (fun k => spec_reader_escape.mono s ((p : Int) + 1) k) hq j, rfl⟩ fun r hr => ?_
                subst hr
                exact Tot.ret ⟨rfl, rfl⟩
            · rw [if_neg c5]
              refine Tot.bind (f := fun k => spec_reader_escape.f k s ((p : Int) + 1)) (Q := fun r => r = (false, s, (p : Int) + 1)) ⟨_, (Ev.ge 1).mp fun k hk => escape_else k hk s ((p : Int) + 1) (by omega) (by omega) c4 c5, rfl⟩ fun r hr => ?_
              subst hr
              exact Tot.ret ⟨rfl, rfl⟩
        · rw [if_neg c34, if_neg c32, if_neg c92]
          exact (quoted_is hs m (p + 1) (by omega)).mono fun r h => h.shift
    · rw [D_nil p (by omega), show Fj.quo [] = none by rw [Fj.quo.eq_def]]
      exact Tot.succ (fun k => by rw [spec_reader_quoted.l0, if_neg (by omega)]) (Tot.ret (r := (false, s, (p : Int))) ⟨rfl, rfl⟩)
end Go.Proofs.YtlhaefblchpjhaaGreatDoor.ReadXFnAlValid
end
section
namespace Go.Proofs.YtlhaefblchpjhaaGreatDoor.ReadXFnAlValid
open Go.RowKit Go.Proofs.YtlhaefblchpjhaaGreatDoor.Base Go.Proofs.YtlhaefblchpjhaaGreatDoor.XFnAlValid Go.Proofs.YtlhaefblchpjhaaGreatDoorW.PrintWords Go.Proofs.YtlhaefblchpjhaaGreatDoorW.PrintLast
set_option linter.unusedVariables false
set_option linter.unusedSimpArgs false
variable {s : ByteArray}
theorem begins_head {x : Int} {w l : List Int} (h : Fj.begins (x :: w) l = true) : rd l 0 = x := by
  unfold Fj.begins at h
  rw [beq_iff_eq] at h
  cases l with
  | nil => simp at h
  | cons c r =>
    simp only [List.length_cons, List.take_succ_cons, List.cons.injEq] at h
    exact h.1
theorem begins_len {w l : List Int} (h : Fj.begins w l = true) : w.length ≤ l.length := by
  unfold Fj.begins at h
  rw [beq_iff_eq] at h
  have := congrArg List.length h
  rw [List.length_take] at this
  omega
theorem word_is (hs : s.size ≤ 1000000) (p : Nat) (x : ByteArray) (h1 : p ≤ s.size) (hx0 : 1 ≤ x.size) (hx1 : x.size ≤ 100) :
    Tot (fun _ => spec_reader_word.f s (p : Int) x) (fun r => r = if Fj.begins (bytesOf x) (D s p) = true then (true, s, ((p + x.size : Nat) : Int)) else (false, s, (p : Int))) := by
  unfold spec_reader_word.f
  rw [w64 (i := (s.size : Int) - (p : Int)) (by omega) (by omega), w64 (i := (p : Int) + (x.size : Int)) (by omega) (by omega)]
  have hb : Fj.begins (bytesOf x) (D s p) = true ↔ (D s p).take x.size = bytesOf x := by
    unfold Fj.begins
    rw [beq_iff_eq, bytesOf_length]
  by_cases c1 : (s.size : Int) - (p : Int) < x.size
  · have hn : ¬ Fj.begins (bytesOf x) (D s p) = true := fun h => by
      have := begins_len h
      rw [bytesOf_length, D_len] at this
      omega
    exact Tot.eq (fun _ => by rw [if_pos c1]) (by rw [if_neg hn])
  · have he : (s.extract ((p : Nat) : Int).toNat ((p : Int) + (x.size : Int)).toNat).toList = x.toList ↔ (D s p).take x.size = bytesOf x := by
      rw [show ((p : Int) + (x.size : Int)).toNat = p + x.size by omega, Int.toNat_natCast]
      have e2 : bytesOf (s.extract p (p + x.size)) = (D s p).take x.size := by
        unfold D bytesOf
        rw [ByteArray.data_extract, Array.toList_extract]
        simp [List.map_drop, List.map_take, List.extract_eq_take_drop]
      constructor
      · intro h
        rw [← e2, toList_inj h]
      · intro h
        rw [← e2] at h
        rw [bytes_inj h]
    by_cases c2 : (s.extract ((p : Nat) : Int).toNat ((p : Int) + (x.size : Int)).toNat).toList = x.toList
    · exact Tot.eq (fun _ => by rw [if_neg c1, if_pos (by omega), if_pos (by omega), if_pos (by omega), if_pos c2]) (by rw [if_pos (hb.mpr (he.mp c2))]; rfl)
    · exact Tot.eq (fun _ => by rw [if_neg c1, if_pos (by omega), if_pos (by omega), if_pos (by omega), if_neg c2]) (by rw [if_neg (fun h => c2 (he.mpr (hb.mp h)))])
/-- The words. -/
def wordv (s : ByteArray) (p : Nat) : Option Nat :=
  if Fj.begins [110, 117, 108, 108] (D s p) = true then some (p + 4) else if Fj.begins [102, 97, 108, 115, 101] (D s p) = true then some (p + 5) else if Fj.begins [116, 114, 117, 101] (D s p) = true then some (p + 4) else none
theorem vnum_is (hs : s.size ≤ 1000000) (p : Nat) (a b c : Int) (h1 : p ≤ s.size) : Tot (fun k => spec_reader_value.j0 k true true s (p : Int) a b c) (fun r => r.1 = 3 ∧ r.2.2.1 = r.2.2.2.2.2.2.2 ∧ Ans s (nN s p) (r.2.2.2.2.2.1, r.2.2.2.2.2.2.1, r.2.2.2.2.2.2.2)) := by
  refine Tot.succ (fun k => by rw [spec_reader_value.j0, if_pos rfl]) ?_
  exact Tot.bind (number_is hs p h1) fun r hr => Tot.ret ⟨rfl, rfl, hr⟩
theorem begins_in {w : List Int} {p : Nat} (h1 : p ≤ s.size) (h : Fj.begins w (D s p) = true) : p + w.length ≤ s.size := by
  have := begins_len h
  rw [D_len] at this
  omega
theorem vword_is (hs : s.size ≤ 1000000) (p : Nat) (b c : Int) (h1 : p ≤ s.size) : Tot (fun k => spec_reader_value.j0 k true false s (p : Int) 0 b c) (fun r => r.1 ≠ 3 ∧ r.2.2.1 = r.2.2.2.2.2.2.2 ∧ Ans s (wordv s p) (r.2.2.2.2.2.1, r.2.2.2.2.2.2.1, r.2.2.2.2.2.2.2)) := by
  refine Tot.succ (fun k => by rw [spec_reader_value.j0, if_neg (by decide)]) ?_
  unfold wordv
  refine Tot.bind (word_is hs p ⟨#[110, 117, 108, 108]⟩ h1 (by decide) (by decide)) fun r hr => ?_
  subst hr
  rw [show bytesOf ⟨#[110, 117, 108, 108]⟩ = [110, 117, 108, 108] from rfl]
  by_cases k1 : Fj.begins [110, 117, 108, 108] (D s p) = true
  · simp only [k1, if_true]
    exact Tot.ret ⟨by show (0 : Int) ≠ 3; decide, rfl, rfl, rfl, rfl, begins_in h1 k1⟩
  · simp only [k1, if_false, Bool.false_eq_true]
    refine Tot.bind (word_is hs p ⟨#[102, 97, 108, 115, 101]⟩ h1 (by decide) (by decide)) fun r hr => ?_
    subst hr
    rw [show bytesOf ⟨#[102, 97, 108, 115, 101]⟩ = [102, 97, 108, 115, 101] from rfl]
    by_cases k2 : Fj.begins [102, 97, 108, 115, 101] (D s p) = true
    · simp only [k2, if_true]
      exact Tot.ret ⟨by show (1 : Int) ≠ 3; decide, rfl, rfl, rfl, rfl, begins_in h1 k2⟩
    · simp only [k2, if_false, Bool.false_eq_true]
      refine Tot.bind (word_is hs p ⟨#[116, 114, 117, 101]⟩ h1 (by decide) (by decide)) fun r hr => ?_
      subst hr
      rw [show bytesOf ⟨#[116, 114, 117, 101]⟩ = [116, 114, 117, 101] from rfl]
      by_cases k3 : Fj.begins [116, 114, 117, 101] (D s p) = true
      · simp only [k3, if_true]
        exact Tot.ret ⟨by show (2 : Int) ≠ 3; decide, rfl, rfl, rfl, rfl, begins_in h1 k3⟩
      · simp only [k3, if_false, Bool.false_eq_true]
        exact Tot.ret ⟨by show (0 : Int) ≠ 3; decide, rfl, rfl, rfl⟩
/-- What the reader of a value answers, against the strict one's answer. -/
def AnsV (s : ByteArray) (p : Nat) (o : Option Nat) (r : Int × Int × Int × (List S156) × (List S46) × Bool × ByteArray × Int) : Prop :=
  r.2.2.2.2.2.2.1 = s ∧ r.2.2.1 = r.2.2.2.2.2.2.2 ∧ match o with
  | some e => r.2.2.2.2.2.1 = true ∧ r.2.2.2.2.2.2.2 = (e : Int) ∧ p < e ∧ e ≤ s.size ∧ (r.1 = 3 → ¬ (Zero2 s p ∨ bt s (p : Int) = 45 ∧ Zero2 s (p + 1)))
  | none => r.2.2.2.2.2.1 = false ∨ (r.2.2.2.2.2.1 = true ∧ r.1 = 3 ∧ (Zero2 s p ∧ r.2.2.2.2.2.2.2 = ((p + 1 : Nat) : Int) ∨ bt s (p : Int) = 45 ∧ Zero2 s (p + 1) ∧ r.2.2.2.2.2.2.2 = ((p + 2 : Nat) : Int)))
theorem val_word (k p : Nat) (h1 : p ≤ s.size) (c1 : bt s (p : Int) ≠ 123) (c2 : bt s (p : Int) ≠ 91) (c3 : bt s (p : Int) ≠ 34) (c4 : bt s (p : Int) ≠ 45) (c5 : ¬ (48 ≤ bt s (p : Int) ∧ bt s (p : Int) ≤ 57)) :
    (Fj.val (k + 1) (D s p)).map (p + ·) = wordv s p := by
  have hw : ∀ x w, bt s (p : Int) ≠ x → ¬ Fj.begins (x :: w) (D s p) = true := fun x w h hb => h (by rw [← rd_D0]; exact begins_head hb)
  unfold wordv
  rw [Fj.val, rd_D0]
  by_cases h0 : D s p = []
  · rw [if_pos h0]
    have hp : s.size ≤ p := by
      have := congrArg List.length h0
      rw [D_len] at this
      simp at this
      omega
    have hz : bt s (p : Int) = 0 := bt_out s _ (by omega)
    rw [if_neg (hw 110 _ (by omega)), if_neg (hw 102 _ (by omega)), if_neg (hw 116 _ (by omega))]
    rfl
  · rw [if_neg h0, if_neg c1, if_neg c2, if_neg c3]
    by_cases k1 : bt s (p : Int) = 116
    · rw [if_pos k1, if_neg (hw 110 _ (by omega)), if_neg (hw 102 _ (by omega))]
      split <;> rfl
    · rw [if_neg k1]
      by_cases k2 : bt s (p : Int) = 102
      · rw [if_pos k2, if_neg (hw 110 _ (by omega)), if_neg (hw 116 _ (by omega))]
        split <;> rfl
      · rw [if_neg k2]
        by_cases k3 : bt s (p : Int) = 110
        · rw [if_pos k3, if_neg (hw 102 _ (by omega)), if_neg (hw 116 _ (by omega))]
          split <;> rfl
        · rw [if_neg k3, if_neg (hw 110 _ k3), if_neg (hw 102 _ k2), if_neg (hw 116 _ k1)]
          have hd : Fj.digs (D s p) = 0 := by rw [digs_at, if_neg c5]
          unfold Fj.num Fj.whole
          rw [rd_D0, if_neg c4, List.drop_zero, if_pos hd]
          rfl
theorem nN_gt {p e : Nat} (h : nN s p = some e) : p < e := by
  have hX : ∀ q e, nX s q = some e → q ≤ e := fun q e h => by
    unfold nX nE at h
    repeat' split at h
    all_goals first
      | (cases h; done)
      | (obtain rfl := Option.some.inj h; omega)
  have hF : ∀ q e, nF s q = some e → q ≤ e := fun q e h => by
    unfold nF at h
    split at h
    · split at h
      · cases h
      · have := hX _ _ h; omega
    · exact hX _ _ h
  have hW : ∀ q e, nW s q = some e → q < e := fun q e h => by
    unfold nW at h
    split at h
    · have := hF _ _ h; omega
    · split at h
      · cases h
      · rename_i z; have := hF _ _ h; omega
  unfold nN at h
  split at h
  · have := hW _ _ h; omega
  · exact hW _ _ h
/-- Numbers. -/
theorem val_num (hs : s.size ≤ 1000000) (k p : Nat) (b c : Int) (h1 : p ≤ s.size) (hc : bt s (p : Int) = 45 ∨ (48 ≤ bt s (p : Int) ∧ bt s (p : Int) ≤ 57)) :
    Tot (fun k => spec_reader_value.j0 k true true s (p : Int) 0 b c) (AnsV s p ((Fj.val (k + 1) (D s p)).map (p + ·))) := by
  refine (vnum_is hs p 0 b c h1).mono fun r h => ?_
  obtain ⟨e1, e2, e3, e4⟩ := h
  have hv : Fj.val (k + 1) (D s p) = Fj.num (D s p) := by
    have hp : p < s.size := by
      refine Nat.lt_of_not_le fun hle => ?_
      rw [bt_out s (p : Int) (by omega)] at hc
      omega
    rw [Fj.val, rd_D0, if_neg (by rw [D_cons p hp]; simp), if_neg (by omega), if_neg (by omega), if_neg (by omega), if_neg (by omega), if_neg (by omega), if_neg (by omega)]
  rw [hv]
  refine ⟨e3, e2, ?_⟩
  rcases num_eq (s := s) p with ⟨z, hn⟩ | ⟨z, hn⟩
  · rw [hn]
    have hz : nN s p = some (if bt s (p : Int) = 45 then p + 2 else p + 1) := by
      unfold nN
      rcases z with z | ⟨z1, z2⟩
      · have := z.1
        rw [if_neg (by omega), if_neg (by omega)]
        exact zero2_nW z
      · rw [if_pos z1, if_pos z1]
        exact zero2_nW z2
    rw [hz] at e4
    obtain ⟨f1, f2, f3⟩ := e4
    refine .inr ⟨f1, e1, ?_⟩
    rcases z with z | ⟨z1, z2⟩
    · have := z.1
      rw [if_neg (by omega)] at f2
      exact .inl ⟨z, f2⟩
    · rw [if_pos z1] at f2
      exact .inr ⟨z1, z2, f2⟩
  · rw [hn]
    cases hN : nN s p with
    | none => rw [hN] at e4; exact .inl e4
    | some e =>
      rw [hN] at e4
      obtain ⟨f1, f2, f3⟩ := e4
      exact ⟨f1, f2, nN_gt hN, f3, fun _ => z⟩
end Go.Proofs.YtlhaefblchpjhaaGreatDoor.ReadXFnAlValid
end
section
namespace Go.Proofs.YtlhaefblchpjhaaGreatDoor.ReadXFnAlValid
open Go.RowKit Go.Proofs.YtlhaefblchpjhaaGreatDoor.Base Go.Proofs.YtlhaefblchpjhaaGreatDoor.XFnAlValid Go.Proofs.YtlhaefblchpjhaaGreatDoorW.PrintWords Go.Proofs.YtlhaefblchpjhaaGreatDoorW.PrintLast
set_option linter.unusedVariables false
set_option linter.unusedSimpArgs false
variable {s : ByteArray}
/-- The next byte that is no blank. -/
def nx (s : ByteArray) (p : Nat) : Nat := p + Fj.ws (D s p)
theorem nx_ge (p : Nat) : p ≤ nx s p := by unfold nx; omega
theorem nx_le (p : Nat) (h : p ≤ s.size) : nx s p ≤ s.size := by
  unfold nx
  have := Fj.ws_le (D s p)
  rw [D_len] at this
  omega
def cont (s : ByteArray) (next : Nat → Option Nat) (close : Int) (u : Nat) : Option Nat :=
  if bt s (u : Int) = 44 then next (u + 1) else if bt s (u : Int) = close then some (u + 1) else none
theorem elems_at (f p : Nat) : (Fj.elems (f + 1) (D s p)).map (p + ·) = match Fj.val f (D s (nx s p)) with
    | none => none
    | some v => cont s (fun o => (Fj.elems f (D s o)).map (o + ·)) 93 (nx s (nx s p + v)) := by
  rw [Fj.elems, D_drop]
  show Option.map _ (match Fj.val f (D s (nx s p)) with | none => none | some v => _) = _
  cases Fj.val f (D s (nx s p)) with
  | none => rfl
  | some v =>
    simp only [rd_D, D_drop]
    have e1 : p + (Fj.ws (D s p) + v) = nx s p + v := by unfold nx; omega
    have e2 : p + (Fj.ws (D s p) + v + Fj.ws (D s (p + (Fj.ws (D s p) + v)))) = nx s (nx s p + v) := by
      rw [e1]
      show _ = (nx s p + v) + Fj.ws (D s (nx s p + v))
      unfold nx; omega
    have e3 : p + (Fj.ws (D s p) + v + Fj.ws (D s (p + (Fj.ws (D s p) + v))) + 1) = nx s (nx s p + v) + 1 := by omega
    rw [e2, e3]
    unfold cont
    by_cases c1 : bt s ((nx s (nx s p + v) : Nat) : Int) = 44
    · rw [if_pos c1, if_pos c1]
      show _ = (Fj.elems f (D s (nx s (nx s p + v) + 1))).map (nx s (nx s p + v) + 1 + ·)
      cases Fj.elems f (D s (nx s (nx s p + v) + 1)) with
      | none => rfl
      | some e =>
        simp only [Option.map_some]
        congr 1; omega
    · rw [if_neg c1, if_neg c1]
      by_cases c2 : bt s ((nx s (nx s p + v) : Nat) : Int) = 93
      · rw [if_pos c2, if_pos c2]
        simp only [Option.map_some]
        congr 1
      · rw [if_neg c2, if_neg c2]; rfl
theorem mems_at (f p : Nat) : (Fj.mems (f + 1) (D s p)).map (p + ·) = if bt s (nx s p : Int) = 34 then (match Fj.quo (D s (nx s p + 1)) with
    | none => none
    | some q => if bt s (nx s (nx s p + 1 + q) : Int) = 58 then (match Fj.val f (D s (nx s (nx s (nx s p + 1 + q) + 1))) with
      | none => none
      | some v => cont s (fun o => (Fj.mems f (D s o)).map (o + ·)) 125 (nx s (nx s (nx s (nx s p + 1 + q) + 1) + v))) else none) else none := by
  rw [Fj.mems]
  simp only [rd_D, D_drop]
  show Option.map _ (if bt s (nx s p : Int) = 34 then _ else none) = _
  by_cases c0 : bt s (nx s p : Int) = 34
  · rw [if_pos c0, if_pos c0]
    have e0 : p + (Fj.ws (D s p) + 1) = nx s p + 1 := by unfold nx; omega
    rw [e0]
    cases Fj.quo (D s (nx s p + 1)) with
    | none => rfl
    | some q =>
      simp only []
      have e1 : p + (Fj.ws (D s p) + 1 + q) = nx s p + 1 + q := by unfold nx; omega
      have e2 : p + (Fj.ws (D s p) + 1 + q + Fj.ws (D s (p + (Fj.ws (D s p) + 1 + q)))) = nx s (nx s p + 1 + q) := by
        rw [e1]
        show _ = (nx s p + 1 + q) + Fj.ws (D s (nx s p + 1 + q))
        unfold nx; omega
      rw [e2]
      by_cases c1 : bt s ((nx s (nx s p + 1 + q) : Nat) : Int) = 58
      · rw [if_pos c1, if_pos c1]
        have e3 : p + (Fj.ws (D s p) + 1 + q + Fj.ws (D s (p + (Fj.ws (D s p) + 1 + q))) + 1) = nx s (nx s p + 1 + q) + 1 := by omega
        rw [e3]
        show Option.map _ (match Fj.val f (D s (nx s (nx s (nx s p + 1 + q) + 1))) with | none => none | some v => _) = _
        cases Fj.val f (D s (nx s (nx s (nx s p + 1 + q) + 1))) with
        | none => rfl
        | some v =>
          simp only []
          have e4 : p + (Fj.ws (D s p) + 1 + q + Fj.ws (D s (p + (Fj.ws (D s p) + 1 + q))) + 1 + Fj.ws (D s (nx s (nx s p + 1 + q) + 1)) + v) = nx s (nx s (nx s p + 1 + q) + 1) + v := by
            show _ = (nx s (nx s p + 1 + q) + 1) + Fj.ws (D s (nx s (nx s p + 1 + q) + 1)) + v
            omega
          rw [e4]
          have e5 : p + (Fj.ws (D s p) + 1 + q + Fj.ws (D s (p + (Fj.ws (D s p) + 1 + q))) + 1 + Fj.ws (D s (nx s (nx s p + 1 + q) + 1)) + v + Fj.ws (D s (nx s (nx s (nx s p + 1 + q) + 1) + v))) = nx s (nx s (nx s (nx s p + 1 + q) + 1) + v) := by
            show _ = (nx s (nx s (nx s p + 1 + q) + 1) + v) + Fj.ws (D s (nx s (nx s (nx s p + 1 + q) + 1) + v))
            omega
          have e6 : p + (Fj.ws (D s p) + 1 + q + Fj.ws (D s (p + (Fj.ws (D s p) + 1 + q))) + 1 + Fj.ws (D s (nx s (nx s p + 1 + q) + 1)) + v + Fj.ws (D s (nx s (nx s (nx s p + 1 + q) + 1) + v)) + 1) = nx s (nx s (nx s (nx s p + 1 + q) + 1) + v) + 1 := by omega
          rw [e5, e6]
          unfold cont
          by_cases c2 : bt s ((nx s (nx s (nx s (nx s p + 1 + q) + 1) + v) : Nat) : Int) = 44
          · rw [if_pos c2, if_pos c2]
            show _ = (Fj.mems f (D s (nx s (nx s (nx s (nx s p + 1 + q) + 1) + v) + 1))).map (nx s (nx s (nx s (nx s p + 1 + q) + 1) + v) + 1 + ·)
            cases Fj.mems f (D s (nx s (nx s (nx s (nx s p + 1 + q) + 1) + v) + 1)) with
            | none => rfl
            | some e =>
              simp only [Option.map_some]
              congr 1; omega
          · rw [if_neg c2, if_neg c2]
            by_cases c3 : bt s ((nx s (nx s (nx s (nx s p + 1 + q) + 1) + v) : Nat) : Int) = 125
            · rw [if_pos c3, if_pos c3]
              simp only [Option.map_some]
              congr 1
            · rw [if_neg c3, if_neg c3]; rfl
      · rw [if_neg c1, if_neg c1]; rfl
  · rw [if_neg c0, if_neg c0]; rfl
def VX (s : ByteArray) (n : Nat) : Prop := ∀ p : Nat, p ≤ s.size → s.size - p < n → ∀ f, 2 * n + 1 ≤ f → Tot (fun k => spec_reader_value.f k s (p : Int)) (AnsV s p ((Fj.val f (D s p)).map (p + ·)))
def AnsE (s : ByteArray) (p : Nat) (o : Option Nat) (r : (List S46) × Bool × ByteArray × Int) : Prop := r.2.2.1 = s ∧ match o with
  | some e => r.2.1 = true ∧ r.2.2.2 = (e : Int) ∧ p < e ∧ e ≤ s.size
  | none => r.2.1 = false
def EX (s : ByteArray) (n : Nat) : Prop := ∀ (p : Nat) ys, p ≤ s.size → s.size - p < n → ∀ f, 2 * n + 2 ≤ f → ys.length ≤ nx s p → Tot (fun k => spec_reader_elements.l0 k ys s (nx s p : Int)) (AnsE s p ((Fj.elems f (D s p)).map (p + ·)))
def AnsM (s : ByteArray) (p : Nat) (o : Option Nat) (r : (List S156) × (List S46) × Bool × ByteArray × Int) : Prop := r.2.2.2.1 = s ∧ match o with
  | some e => r.2.2.1 = true ∧ r.2.2.2.2 = (e : Int) ∧ p < e ∧ e ≤ s.size
  | none => r.2.2.1 = false
def MX (s : ByteArray) (n : Nat) : Prop := ∀ (p : Nat) xs ys, p ≤ s.size → s.size - p < n → ∀ f, 2 * n + 2 ≤ f → xs.length ≤ nx s p → ys.length ≤ nx s p → Tot (fun k => spec_reader_members.l0 k xs ys s (nx s p : Int)) (AnsM s p ((Fj.mems f (D s p)).map (p + ·)))
theorem blanks_nx (hs : s.size ≤ 1000000) (p : Nat) (h1 : p ≤ s.size) : Tot (fun k => spec_reader_blanks.f k s (p : Int)) (fun r => r = (s, (nx s p : Int))) := blanks_is hs p h1
theorem AnsE.from {p q : Nat} {o : Option Nat} {r : (List S46) × Bool × ByteArray × Int} (h : AnsE s q o r) (hpq : p ≤ q) : AnsE s p o r := by
  refine ⟨h.1, ?_⟩
  cases o with
  | none => exact h.2
  | some e => exact ⟨h.2.1, h.2.2.1, Nat.lt_of_le_of_lt hpq h.2.2.2.1, h.2.2.2.2⟩
/-- A digit is no blank: the reader stays. -/
theorem nx_digit {p : Nat} (h : 48 ≤ bt s (p : Int) ∧ bt s (p : Int) ≤ 57) : nx s p = p := by
  unfold nx
  rw [ws_at, if_neg]
  · rfl
  · intro x
    have := x.2
    unfold Fj.blank at this
    simp only [Bool.or_eq_true, beq_iff_eq] at this
    omega
theorem etail (hs : s.size ≤ 1000000) {n : Nat} (hE : EX s n) (p y f : Nat) (x : List S46) (hyl : y ≤ s.size) (hpy : p < y) (hn : s.size - p < n + 1) (hf : 2 * n + 2 ≤ f) (hx : x.length ≤ y) :
    Tot (fun k => (spec_reader_blanks.f k s (y : Int)).bind fun bt220 => ((spec_reader_take.f bt220.1 bt220.2 93).bind fun bt222 => (if bt222.1 = true then (some (x, true, bt222.2.1, bt222.2.2)) else ((spec_reader_take.f bt222.2.1 bt222.2.2 44).bind fun bt225 => (if bt225.1 = true then ((spec_reader_blanks.f k bt225.2.1 bt225.2.2).bind fun bt228 => (spec_reader_elements.l0 k x bt228.1 bt228.2)) else (some (([] : List (S46)), false, bt225.2.1, bt225.2.2)))))))
      (AnsE s p (cont s (fun o => (Fj.elems f (D s o)).map (o + ·)) 93 (nx s y))) := by
  have hu := nx_le y hyl
  have huy := nx_ge (s := s) y
  refine Tot.bind (blanks_nx hs y hyl) fun r hr => ?_
  subst hr
  refine Tot.bind (take_is hs (nx s y) 93 hu (by decide)) fun r hr => ?_
  subst hr
  unfold cont
  by_cases c1 : bt s (nx s y : Int) = 93
  · have hin := in_text c1 (by decide)
    have c1' : ¬ bt s (nx s y : Int) = 44 := by omega
    rw [if_neg c1', if_pos c1]
    simp only [c1, if_true]
    exact Tot.ret (r := (x, true, s, ((nx s y + 1 : Nat) : Int))) ⟨rfl, rfl, rfl, by omega, by omega⟩
  · simp only [c1, if_false, Bool.false_eq_true]
    refine Tot.bind (take_is hs (nx s y) 44 hu (by decide)) fun r hr => ?_
    subst hr
    by_cases c2 : bt s (nx s y : Int) = 44
    · have hin := in_text c2 (by decide)
      simp only [c2, if_true]
      refine Tot.bind (blanks_nx hs (nx s y + 1) (by omega)) fun r hr => ?_
      subst hr
      have h3 := nx_ge (s := s) (nx s y + 1)
      exact (hE (nx s y + 1) x (by omega) (by omega) f hf (by omega)).mono fun r h => h.from (by omega)
    · simp only [c2, if_false, Bool.false_eq_true]
      exact Tot.ret ⟨rfl, rfl⟩
theorem cont_digit {next : Nat → Option Nat} {c : Int} {y : Nat} (h : 48 ≤ bt s (y : Int) ∧ bt s (y : Int) ≤ 57) (hc : ¬ (48 ≤ c ∧ c ≤ 57)) : cont s next c (nx s y) = none := by
  rw [nx_digit h]
  unfold cont
  rw [if_neg (by omega), if_neg (by omega)]
theorem ele_exact (hs : s.size ≤ 1000000) {n : Nat} (hV : VX s (n + 1)) (hE : EX s n) : EX s (n + 1) := by
  intro p ys h1 hn f hf hy
  obtain ⟨f, rfl⟩ : ∃ g, f = g + 1 := ⟨f - 1, by omega⟩
  have hq := nx_le p h1
  have hpq := nx_ge (s := s) p
  refine Tot.succ (fun k => by rw [spec_reader_elements.l0]) ?_
  refine Tot.bind (hV (nx s p) hq (by omega) f (by omega)) fun r hr => ?_
  obtain ⟨v1, v2, v3, v4, v5, ok, t, e⟩ := r
  obtain ⟨ht, h3, hm⟩ := hr
  simp only [] at ht h3 hm ⊢
  subst ht
  rw [elems_at]
  have step : ∀ (y : Nat), y ≤ t.size → nx t p < y → e = (y : Int) → Tot (fun k => (if ys.length < 1954687338268 then ((some (ys ++ [(⟨v1, v2, v3, v4, v5⟩ : S46)] : List (S46))).bind fun y217 => ((spec_reader_blanks.f k t e).bind fun bt220 => ((spec_reader_take.f bt220.1 bt220.2 93).bind fun bt222 => (if bt222.1 = true then (some (y217, true, bt222.2.1, bt222.2.2)) else ((spec_reader_take.f bt222.2.1 bt222.2.2 44).bind fun bt225 => (if bt225.1 = true then ((spec_reader_blanks.f k bt225.2.1 bt225.2.2).bind fun bt228 => (spec_reader_elements.l0 k y217 bt228.1 bt228.2)) else (some (([] : List (S46)), false, bt225.2.1, bt225.2.2)))))))) else (none)))
      (AnsE t p (cont t (fun o => (Fj.elems f (D t o)).map (o + ·)) 93 (nx t y))) := by
    intro y hy1 hy2 he
    subst he
    refine Tot.ite (fun _ => ?_) fun c => absurd (show ys.length < 1954687338268 by omega) c
    simp only [Option.bind_some]
    exact etail hs hE p y f _ hy1 (by omega) hn (by omega) (by rw [List.length_append]; simp; omega)
  cases hv : Fj.val f (D t (nx t p)) with
  | some v =>
    rw [hv] at hm
    obtain ⟨m1, m2, m3, m4, m5⟩ := hm
    refine Tot.ite (fun _ => step (nx t p + v) m4 m3 m2) fun c => absurd m1 c
  | none =>
    rw [hv] at hm
    refine Tot.ite (fun c => ?_) fun c => Tot.ret ⟨rfl, rfl⟩
    rcases hm with m | ⟨m1, m2, m3⟩
    · rw [m] at c; cases c
    · rcases m3 with ⟨z, m4⟩ | ⟨z0, z, m4⟩
      · have hin := bt_digit z.2.1
        have h := step (nx t p + 1) (by omega) (by omega) m4
        rw [cont_digit z.2 (by decide)] at h
        exact h
      · have hin := bt_digit z.2.1
        have h := step (nx t p + 2) (by omega) (by omega) m4
        rw [cont_digit (y := nx t p + 2) z.2 (by decide)] at h
        exact h
theorem AnsM.from {p q : Nat} {o : Option Nat} {r : (List S156) × (List S46) × Bool × ByteArray × Int} (h : AnsM s q o r) (hpq : p ≤ q) : AnsM s p o r := by
  refine ⟨h.1, ?_⟩
  cases o with
  | none => exact h.2
  | some e => exact ⟨h.2.1, h.2.2.1, Nat.lt_of_le_of_lt hpq h.2.2.2.1, h.2.2.2.2⟩
theorem mtail (hs : s.size ≤ 1000000) {n : Nat} (hM : MX s n) (p y f : Nat) (w : List S156) (x : List S46) (hyl : y ≤ s.size) (hpy : p < y) (hn : s.size - p < n + 1) (hf : 2 * n + 2 ≤ f) (hw : w.length ≤ y) (hx : x.length ≤ y) :
    Tot (fun k => (spec_reader_blanks.f k s (y : Int)).bind fun bt189 => ((spec_reader_take.f bt189.1 bt189.2 125).bind fun bt191 => (if bt191.1 = true then (some (w, x, true, bt191.2.1, bt191.2.2)) else ((spec_reader_take.f bt191.2.1 bt191.2.2 44).bind fun bt194 => (if bt194.1 = true then ((spec_reader_blanks.f k bt194.2.1 bt194.2.2).bind fun bt197 => (spec_reader_members.l0 k w x bt197.1 bt197.2)) else (some (([] : List (S156)), ([] : List (S46)), false, bt194.2.1, bt194.2.2)))))))
      (AnsM s p (cont s (fun o => (Fj.mems f (D s o)).map (o + ·)) 125 (nx s y))) := by
  have hu := nx_le y hyl
  have huy := nx_ge (s := s) y
  refine Tot.bind (blanks_nx hs y hyl) fun r hr => ?_
  subst hr
  refine Tot.bind (take_is hs (nx s y) 125 hu (by decide)) fun r hr => ?_
  subst hr
  unfold cont
  by_cases c1 : bt s (nx s y : Int) = 125
  · have hin := in_text c1 (by decide)
    have c1' : ¬ bt s (nx s y : Int) = 44 := by omega
    rw [if_neg c1', if_pos c1]
    simp only [c1, if_true]
    exact Tot.ret (r := (w, x, true, s, ((nx s y + 1 : Nat) : Int))) ⟨rfl, rfl, rfl, by omega, by omega⟩
  · simp only [c1, if_false, Bool.false_eq_true]
    refine Tot.bind (take_is hs (nx s y) 44 hu (by decide)) fun r hr => ?_
    subst hr
    by_cases c2 : bt s (nx s y : Int) = 44
    · have hin := in_text c2 (by decide)
      simp only [c2, if_true]
      refine Tot.bind (blanks_nx hs (nx s y + 1) (by omega)) fun r hr => ?_
      subst hr
      have h3 := nx_ge (s := s) (nx s y + 1)
      exact (hM (nx s y + 1) w x (by omega) (by omega) f hf (by omega) (by omega)).mono fun r h => h.from (by omega)
    · simp only [c2, if_false, Bool.false_eq_true]
      exact Tot.ret ⟨rfl, rfl⟩
theorem mem_exact (hs : s.size ≤ 1000000) {n : Nat} (hV : VX s (n + 1)) (hM : MX s n) : MX s (n + 1) := by
  intro p xs ys h1 hn f hf hx hy
  obtain ⟨f, rfl⟩ : ∃ g, f = g + 1 := ⟨f - 1, by omega⟩
  have hq := nx_le p h1
  have hpq := nx_ge (s := s) p
  have bad : ∀ e : Int, Tot (fun k => spec_reader_members.j1 k xs ys (nx s p : Int) true s e) (AnsM s p none) := fun e =>
    Tot.succ (fun k => by rw [spec_reader_members.j1, if_pos rfl]) (Tot.ret ⟨rfl, rfl⟩)
  rw [mems_at]
  refine Tot.succ (fun k => by rw [spec_reader_members.l0]) ?_
  refine Tot.bind (here_tot hs (nx s p : Int) (by omega)) fun r hr => ?_
  subst hr
  refine Tot.ite (fun c => ?_) fun c => ?_
  rotate_left
  · rw [if_neg c]; exact bad _
  rw [if_pos c]
  have hin := in_text (s := s) (p := nx s p) c (by decide)
  refine Tot.bind (f := fun k => spec_reader_quoted.f k s (nx s p : Int)) (Q := Ans s ((Fj.quo (D s (nx s p + 1))).map (nx s p + 1 + ·))) ?_ fun r hr => ?_
  · unfold spec_reader_quoted.f
    rw [w64 (by omega) (by omega)]
    exact quoted_is hs s.size (nx s p + 1) (by omega)
  obtain ⟨b, t, e⟩ := r
  obtain ⟨ht, hm⟩ := hr
  simp only [] at ht hm ⊢
  subst ht
  cases hqu : Fj.quo (D t (nx t p + 1)) with
  | none =>
    rw [hqu] at hm
    simp only [Option.map_none] at hm
    subst hm
    exact bad _
  | some q =>
    rw [hqu] at hm
    obtain ⟨m1, m2, m3⟩ := hm
    simp only [] at m1 m2 m3 ⊢
    subst m1 m2
    have hzl := nx_le (nx t p + 1 + q) m3
    have hzg := nx_ge (s := t) (nx t p + 1 + q)
    refine Tot.succ (fun k => by rw [Bool.not_true, spec_reader_members.j1, if_neg (by decide), if_pos (show xs.length < 8796093022208 by omega), Option.bind_some]) ?_
    refine Tot.bind (blanks_nx hs (nx t p + 1 + q) m3) fun r hr => ?_
    subst hr
    refine Tot.bind (take_is hs (nx t (nx t p + 1 + q)) 58 hzl (by decide)) fun r hr => ?_
    subst hr
    by_cases c1 : bt t (nx t (nx t p + 1 + q) : Int) = 58
    · have hin1 := in_text c1 (by decide)
      rw [if_pos c1]
      simp only [c1, if_true]
      refine Tot.bind (blanks_nx hs (nx t (nx t p + 1 + q) + 1) (by omega)) fun r hr => ?_
      subst hr
      have hal := nx_le (s := t) (nx t (nx t p + 1 + q) + 1) (by omega)
      have hag := nx_ge (s := t) (nx t (nx t p + 1 + q) + 1)
      generalize hA : nx t (nx t (nx t p + 1 + q) + 1) = A at *
      refine Tot.bind (hV A hal (by omega) f (by omega)) fun r hr => ?_
      obtain ⟨v1, v2, v3, v4, v5, ok, t2, e⟩ := r
      obtain ⟨ht, h3, hm⟩ := hr
      simp only [] at ht h3 hm ⊢
      subst ht
      have step : ∀ (y : Nat), y ≤ t2.size → A < y → e = (y : Int) → Tot (fun k => (if ys.length < 1954687338268 then ((some (ys ++ [(⟨v1, v2, v3, v4, v5⟩ : S46)] : List (S46))).bind fun y186 => ((spec_reader_blanks.f k t2 e).bind fun bt189 => ((spec_reader_take.f bt189.1 bt189.2 125).bind fun bt191 => (if bt191.1 = true then (some (xs ++ [(⟨(nx t2 p : Int), ((nx t2 p + 1 + q : Nat) : Int)⟩ : S156)], y186, true, bt191.2.1, bt191.2.2)) else ((spec_reader_take.f bt191.2.1 bt191.2.2 44).bind fun bt194 => (if bt194.1 = true then ((spec_reader_blanks.f k bt194.2.1 bt194.2.2).bind fun bt197 => (spec_reader_members.l0 k (xs ++ [(⟨(nx t2 p : Int), ((nx t2 p + 1 + q : Nat) : Int)⟩ : S156)]) y186 bt197.1 bt197.2)) else (some (([] : List (S156)), ([] : List (S46)), false, bt194.2.1, bt194.2.2)))))))) else (none)))
          (AnsM t2 p (cont t2 (fun o => (Fj.mems f (D t2 o)).map (o + ·)) 125 (nx t2 y))) := by
        intro y hy1 hy2 he
        subst he
        refine Tot.ite (fun _ => ?_) fun c => absurd (show ys.length < 1954687338268 by omega) c
        simp only [Option.bind_some]
        exact mtail hs hM p y f _ _ hy1 (by omega) hn (by omega) (by rw [List.length_append]; simp; omega) (by rw [List.length_append]; simp; omega)
      cases hv : Fj.val f (D t2 A) with
      | some v =>
        rw [hv] at hm
        obtain ⟨m1, m2, m3, m4, m5⟩ := hm
        refine Tot.ite (fun _ => step (A + v) m4 m3 m2) fun c => absurd m1 c
      | none =>
        rw [hv] at hm
        refine Tot.ite (fun c => ?_) fun c => Tot.ret ⟨rfl, rfl⟩
        rcases hm with m | ⟨m1, m2, m3⟩
        · rw [m] at c; cases c
        · rcases m3 with ⟨z, m4⟩ | ⟨z0, z, m4⟩
          · have hin := bt_digit z.2.1
            have h := step (A + 1) (by omega) (by omega) m4
            rw [cont_digit z.2 (by decide)] at h
            exact h
          · have hin := bt_digit z.2.1
            have h := step (A + 2) (by omega) (by omega) m4
            rw [cont_digit (y := A + 2) z.2 (by decide)] at h
            exact h
    · rw [if_neg c1]
      simp only [c1, if_false, Bool.false_eq_true]
      exact Tot.ret ⟨rfl, rfl⟩
end Go.Proofs.YtlhaefblchpjhaaGreatDoor.ReadXFnAlValid
end
section
namespace Go.Proofs.YtlhaefblchpjhaaGreatDoor.ReadXFnAlValid
open Go.RowKit Go.Proofs.YtlhaefblchpjhaaGreatDoor.Base Go.Proofs.YtlhaefblchpjhaaGreatDoor.XFnAlValid Go.Proofs.YtlhaefblchpjhaaGreatDoorW.PrintWords Go.Proofs.YtlhaefblchpjhaaGreatDoorW.PrintLast
set_option linter.unusedVariables false
set_option linter.unusedSimpArgs false
variable {s : ByteArray}
theorem val_obj (f p : Nat) (hp : p < s.size) (c : bt s (p : Int) = 123) : (Fj.val (f + 1) (D s p)).map (p + ·) = if bt s (nx s (p + 1) : Int) = 125 then some (nx s (p + 1) + 1) else (Fj.mems f (D s (p + 1))).map (p + 1 + ·) := by
  rw [Fj.val, rd_D0, if_neg (by rw [D_cons p hp]; simp), if_pos c]
  simp only [rd_D, D_drop]
  show Option.map _ (if bt s (nx s (p + 1) : Int) = 125 then _ else _) = _
  by_cases k : bt s (nx s (p + 1) : Int) = 125
  · rw [if_pos k, if_pos k]
    simp only [Option.map_some]
    congr 1
    show p + (Fj.ws (D s (p + 1)) + 2) = p + 1 + Fj.ws (D s (p + 1)) + 1
    omega
  · rw [if_neg k, if_neg k]
    cases Fj.mems f (D s (p + 1)) with
    | none => rfl
    | some e => simp only [Option.map_some]; congr 1; omega
theorem val_arr (f p : Nat) (hp : p < s.size) (c : bt s (p : Int) = 91) : (Fj.val (f + 1) (D s p)).map (p + ·) = if bt s (nx s (p + 1) : Int) = 93 then some (nx s (p + 1) + 1) else (Fj.elems f (D s (p + 1))).map (p + 1 + ·) := by
  rw [Fj.val, rd_D0, if_neg (by rw [D_cons p hp]; simp), if_neg (by omega), if_pos c]
  simp only [rd_D, D_drop]
  show Option.map _ (if bt s (nx s (p + 1) : Int) = 93 then _ else _) = _
  by_cases k : bt s (nx s (p + 1) : Int) = 93
  · rw [if_pos k, if_pos k]
    simp only [Option.map_some]
    congr 1
    show p + (Fj.ws (D s (p + 1)) + 2) = p + 1 + Fj.ws (D s (p + 1)) + 1
    omega
  · rw [if_neg k, if_neg k]
    cases Fj.elems f (D s (p + 1)) with
    | none => rfl
    | some e => simp only [Option.map_some]; congr 1; omega
theorem val_str (f p : Nat) (hp : p < s.size) (c : bt s (p : Int) = 34) : (Fj.val (f + 1) (D s p)).map (p + ·) = (Fj.quo (D s (p + 1))).map (p + 1 + ·) := by
  rw [Fj.val, rd_D0, if_neg (by rw [D_cons p hp]; simp), if_neg (by omega), if_neg (by omega), if_pos c, D_drop]
  cases Fj.quo (D s (p + 1)) with
  | none => rfl
  | some e => simp only [Option.map_some]; congr 1; omega
theorem members_is (hs : s.size ≤ 1000000) {n : Nat} (hM : MX s n) (p f : Nat) (hp : p < s.size) (hn : s.size - p < n + 1) (hf : 2 * n + 2 ≤ f) :
    Tot (fun k => spec_reader_members.f k s (p : Int)) (AnsM s p (if bt s (nx s (p + 1) : Int) = 125 then some (nx s (p + 1) + 1) else (Fj.mems f (D s (p + 1))).map (p + 1 + ·))) := by
  have hq := nx_le (s := s) (p + 1) (by omega)
  have hg := nx_ge (s := s) (p + 1)
  refine Tot.succ (fun k => by rw [spec_reader_members.f, w64 (i := (p : Int) + 1) (by omega) (by omega)]) ?_
  refine Tot.bind (blanks_nx hs (p + 1) (by omega)) fun r hr => ?_
  subst hr
  refine Tot.bind (take_is hs (nx s (p + 1)) 125 hq (by decide)) fun r hr => ?_
  subst hr
  by_cases c : bt s (nx s (p + 1) : Int) = 125
  · have hin := in_text c (by decide)
    simp only [c, if_true]
    exact Tot.ret (r := ([], [], true, s, ((nx s (p + 1) + 1 : Nat) : Int))) ⟨rfl, rfl, rfl, by omega, by omega⟩
  · simp only [c, if_false, Bool.false_eq_true]
    exact (hM (p + 1) [] [] (by omega) (by omega) f hf (by simp) (by simp)).mono fun r h => h.from (by omega)
theorem elements_is (hs : s.size ≤ 1000000) {n : Nat} (hE : EX s n) (p f : Nat) (hp : p < s.size) (hn : s.size - p < n + 1) (hf : 2 * n + 2 ≤ f) :
    Tot (fun k => spec_reader_elements.f k s (p : Int)) (AnsE s p (if bt s (nx s (p + 1) : Int) = 93 then some (nx s (p + 1) + 1) else (Fj.elems f (D s (p + 1))).map (p + 1 + ·))) := by
  have hq := nx_le (s := s) (p + 1) (by omega)
  have hg := nx_ge (s := s) (p + 1)
  refine Tot.succ (fun k => by rw [spec_reader_elements.f, w64 (i := (p : Int) + 1) (by omega) (by omega)]) ?_
  refine Tot.bind (blanks_nx hs (p + 1) (by omega)) fun r hr => ?_
  subst hr
  refine Tot.bind (take_is hs (nx s (p + 1)) 93 hq (by decide)) fun r hr => ?_
  subst hr
  by_cases c : bt s (nx s (p + 1) : Int) = 93
  · have hin := in_text c (by decide)
    simp only [c, if_true]
    exact Tot.ret (r := ([], true, s, ((nx s (p + 1) + 1 : Nat) : Int))) ⟨rfl, rfl, rfl, by omega, by omega⟩
  · simp only [c, if_false, Bool.false_eq_true]
    exact (hE (p + 1) [] (by omega) (by omega) f hf (by simp)).mono fun r h => h.from (by omega)
theorem word_gt {p e : Nat} (h : wordv s p = some e) : p < e := by
  unfold wordv at h
  repeat' split at h
  all_goals first
    | (cases h; done)
    | (obtain rfl := Option.some.inj h; omega)
theorem word_ans {p : Nat} {r : Int × Int × Int × (List S156) × (List S46) × Bool × ByteArray × Int} (h : r.1 ≠ 3 ∧ r.2.2.1 = r.2.2.2.2.2.2.2 ∧ Ans s (wordv s p) (r.2.2.2.2.2.1, r.2.2.2.2.2.2.1, r.2.2.2.2.2.2.2)) : AnsV s p (wordv s p) r := by
  obtain ⟨e1, e2, e3, e4⟩ := h
  refine ⟨e3, e2, ?_⟩
  cases hw : wordv s p with
  | none => rw [hw] at e4; exact .inl e4
  | some e =>
    rw [hw] at e4
    exact ⟨e4.1, e4.2.1, word_gt hw, e4.2.2, fun x => absurd x e1⟩
theorem val_exact (hs : s.size ≤ 1000000) {n : Nat} (hM : MX s n) (hE : EX s n) : VX s (n + 1) := by
  intro p h1 hn f hf
  obtain ⟨f, rfl⟩ : ∃ g, f = g + 1 := ⟨f - 1, by omega⟩
  refine Tot.succ (fun k => by rw [spec_reader_value.f]) ?_
  refine Tot.bind (here_tot hs (p : Int) (by omega)) fun r hr => ?_
  subst hr
  simp only []
  refine Tot.ite (fun c => ?_) fun c1 => Tot.ite (fun c => ?_) fun c2 => Tot.ite (fun c => ?_) fun c3 => Tot.ite (fun c => ?_) fun c4 => Tot.ite (fun c => ?_) fun c5 => ?_
  · have hp := in_text c (by decide)
    rw [val_obj f p hp c]
    refine Tot.bind (members_is hs hM p f hp (by omega) (by omega)) fun r hr => Tot.ret ⟨hr.1, rfl, ?_⟩
    have h2 := hr.2
    revert h2
    generalize (if bt s (nx s (p + 1) : Int) = 125 then some (nx s (p + 1) + 1) else (Fj.mems f (D s (p + 1))).map (p + 1 + ·)) = o
    intro h2
    cases o with
    | none => exact .inl h2
    | some e => exact ⟨h2.1, h2.2.1, h2.2.2.1, h2.2.2.2, fun h => absurd (show (6 : Int) = 3 from h) (by decide)⟩
  · have hp := in_text c (by decide)
    rw [val_arr f p hp c]
    refine Tot.bind (elements_is hs hE p f hp (by omega) (by omega)) fun r hr => Tot.ret ⟨hr.1, rfl, ?_⟩
    have h2 := hr.2
    revert h2
    generalize (if bt s (nx s (p + 1) : Int) = 93 then some (nx s (p + 1) + 1) else (Fj.elems f (D s (p + 1))).map (p + 1 + ·)) = o
    intro h2
    cases o with
    | none => exact .inl h2
    | some e => exact ⟨h2.1, h2.2.1, h2.2.2.1, h2.2.2.2, fun h => absurd (show (5 : Int) = 3 from h) (by decide)⟩
  · have hp := in_text c (by decide)
    rw [val_str f p hp c]
    refine Tot.bind (f := fun k => spec_reader_quoted.f k s (p : Int)) (Q := Ans s ((Fj.quo (D s (p + 1))).map (p + 1 + ·))) ?_ fun r hr => Tot.ret ⟨hr.1, rfl, ?_⟩
    · unfold spec_reader_quoted.f
      rw [w64 (by omega) (by omega)]
      exact quoted_is hs s.size (p + 1) (by omega)
    · have h2 := hr.2
      cases hq : Fj.quo (D s (p + 1)) with
      | none => rw [hq] at h2; exact .inl h2
      | some e =>
        rw [hq] at h2
        exact ⟨h2.1, h2.2.1, by show p < p + 1 + e; omega, h2.2.2, fun h => absurd (show (4 : Int) = 3 from h) (by decide)⟩
  · exact val_num hs f p _ _ h1 (.inl c)
  · by_cases c6 : bt s (p : Int) ≤ 57
    · rw [decide_eq_true c6]
      exact val_num hs f p _ _ h1 (.inr ⟨c, c6⟩)
    · rw [decide_eq_false c6]
      refine (vword_is hs p _ _ h1).mono fun r h => ?_
      rw [val_word f p h1 c1 c2 c3 c4 (fun x => c6 x.2)]
      exact word_ans h
  · refine (vword_is hs p _ _ h1).mono fun r h => ?_
    rw [val_word f p h1 c1 c2 c3 c4 (fun x => c5 x.1)]
    exact word_ans h
theorem all_exact (hs : s.size ≤ 1000000) : ∀ n : Nat, VX s n ∧ MX s n ∧ EX s n
  | 0 => ⟨fun p _ h => by omega, fun p _ _ _ h => by omega, fun p _ _ h => by omega⟩
  | n + 1 => by
    obtain ⟨hV, hM, hE⟩ := all_exact hs n
    have hV1 := val_exact hs hM hE
    exact ⟨hV1, mem_exact hs hV1 hM, ele_exact hs hV1 hE⟩
/-- The reader of a value at a place. -/
theorem value_is (hs : s.size ≤ 1000000) (p : Nat) (h1 : p ≤ s.size) (f : Nat) (hf : 2 * s.size + 3 ≤ f) : Tot (fun k => spec_reader_value.f k s (p : Int)) (AnsV s p ((Fj.val f (D s p)).map (p + ·))) :=
  (all_exact hs (s.size + 1)).1 p h1 (by omega) f (by omega)
end Go.Proofs.YtlhaefblchpjhaaGreatDoor.ReadXFnAlValid
end
section
namespace Go.Proofs.YtlhaefblchpjhaaGreatDoor.ReadXFnAlValid
open Go.RowKit Go.Proofs.YtlhaefblchpjhaaGreatDoor.Base Go.Proofs.YtlhaefblchpjhaaGreatDoor.XFnAlValid Go.Proofs.YtlhaefblchpjhaaGreatDoorW.PrintWords Go.Proofs.YtlhaefblchpjhaaGreatDoorW.PrintLast
set_option linter.unusedVariables false
set_option linter.unusedSimpArgs false
abbrev SP := S156
abbrev PL := S46
/-- Behind the blanks. -/
def nb (s : ByteArray) (p : Nat) : Nat := p + Fj.ws (D s p)
def qE (s : ByteArray) (p : Nat) : Option Nat := (Fj.quo (D s p)).map (p + ·)
def wordk (s : ByteArray) (p : Nat) : Option (Int × Nat) :=
  if Fj.begins [110, 117, 108, 108] (D s p) = true then some (0, p + 4) else if Fj.begins [102, 97, 108, 115, 101] (D s p) = true then some (1, p + 5) else if Fj.begins [116, 114, 117, 101] (D s p) = true then some (2, p + 4) else none
mutual
/-- The value at a place, and where it ends. -/
def tV (s : ByteArray) : Nat → Nat → Option (PL × Nat)
  | 0, _ => none
  | f + 1, p =>
    if bt s (p : Int) = 123 then (if bt s (nb s (p + 1) : Int) = 125 then some (⟨6, (p : Int), ((nb s (p + 1) + 1 : Nat) : Int), [], []⟩, nb s (p + 1) + 1) else match tM s f (nb s (p + 1)) with
      | none => none
      | some r => some (⟨6, (p : Int), (r.2.2 : Int), r.1, r.2.1⟩, r.2.2))
    else if bt s (p : Int) = 91 then (if bt s (nb s (p + 1) : Int) = 93 then some (⟨5, (p : Int), ((nb s (p + 1) + 1 : Nat) : Int), [], []⟩, nb s (p + 1) + 1) else match tE s f (nb s (p + 1)) with
      | none => none
      | some r => some (⟨5, (p : Int), (r.2 : Int), [], r.1⟩, r.2))
    else if bt s (p : Int) = 34 then (match qE s (p + 1) with | none => none | some e => some (⟨4, (p : Int), (e : Int), [], []⟩, e))
    else if bt s (p : Int) = 45 ∨ (48 ≤ bt s (p : Int) ∧ bt s (p : Int) ≤ 57) then (match nN s p with | none => none | some e => some (⟨3, (p : Int), (e : Int), [], []⟩, e))
    else match wordk s p with | none => none | some r => some (⟨r.1, (p : Int), (r.2 : Int), [], []⟩, r.2)
/-- The elements from a place on, and what is behind the bracket that closes the array. -/
def tE (s : ByteArray) : Nat → Nat → Option (List PL × Nat)
  | 0, _ => none
  | f + 1, q => match tV s f q with
    | none => none
    | some v => if bt s (nb s v.2 : Int) = 93 then some ([v.1], nb s v.2 + 1) else if bt s (nb s v.2 : Int) = 44 then (match tE s f (nb s (nb s v.2 + 1)) with | none => none | some r => some (v.1 :: r.1, r.2)) else none
/-- The members. -/
def tM (s : ByteArray) : Nat → Nat → Option (List SP × List PL × Nat)
  | 0, _ => none
  | f + 1, q => if bt s (q : Int) = 34 then match qE s (q + 1) with
      | none => none
      | some b => if bt s (nb s b : Int) = 58 then match tV s f (nb s (nb s b + 1)) with
          | none => none
          | some v => if bt s (nb s v.2 : Int) = 125 then some ([⟨(q : Int), (b : Int)⟩], [v.1], nb s v.2 + 1) else if bt s (nb s v.2 : Int) = 44 then (match tM s f (nb s (nb s v.2 + 1)) with | none => none | some r => some (⟨(q : Int), (b : Int)⟩ :: r.1, v.1 :: r.2.1, r.2.2)) else none
        else none
    else none
end
variable {s : ByteArray}
theorem nb_ge (p : Nat) : p ≤ nb s p := by unfold nb; omega
theorem nb_le (p : Nat) (h : p ≤ s.size) : nb s p ≤ s.size := by
  unfold nb
  have := Fj.ws_le (D s p)
  rw [D_len] at this
  omega
theorem blanks_nb (hs : s.size ≤ 1000000) (p : Nat) (h1 : p ≤ s.size) : Tot (fun k => spec_reader_blanks.f k s (p : Int)) (fun r => r = (s, (nb s p : Int))) := blanks_is hs p h1
def AnsV' (s : ByteArray) (p : Nat) (o : Option (PL × Nat)) (r : Int × Int × Int × (List SP) × (List PL) × Bool × ByteArray × Int) : Prop := match o with
  | some v => r = (v.1.f0, v.1.f1, v.1.f2, v.1.f3, v.1.f4, true, s, (v.2 : Int)) ∧ p < v.2 ∧ v.2 ≤ s.size
  | none => r.2.2.2.2.2.1 = false ∧ r.2.2.2.2.2.2.1 = s
def AnsE' (s : ByteArray) (p : Nat) (ys : List PL) (o : Option (List PL × Nat)) (r : (List PL) × Bool × ByteArray × Int) : Prop := match o with
  | some v => r = (ys ++ v.1, true, s, (v.2 : Int)) ∧ p < v.2 ∧ v.2 ≤ s.size
  | none => r.2.1 = false ∧ r.2.2.1 = s
def AnsM' (s : ByteArray) (p : Nat) (xs : List SP) (ys : List PL) (o : Option (List SP × List PL × Nat)) (r : (List SP) × (List PL) × Bool × ByteArray × Int) : Prop := match o with
  | some v => r = (xs ++ v.1, ys ++ v.2.1, true, s, (v.2.2 : Int)) ∧ p < v.2.2 ∧ v.2.2 ≤ s.size
  | none => r.2.2.1 = false ∧ r.2.2.2.1 = s
def VT (s : ByteArray) (n : Nat) : Prop := ∀ p : Nat, p ≤ s.size → s.size - p < n → ∀ f, 2 * n + 1 ≤ f → Tot (fun k => spec_reader_value.f k s (p : Int)) (AnsV' s p (tV s f p))
def ET (s : ByteArray) (n : Nat) : Prop := ∀ (q : Nat) ys, q ≤ s.size → s.size - q < n → ∀ f, 2 * n + 2 ≤ f → ys.length ≤ q → Tot (fun k => spec_reader_elements.l0 k ys s (q : Int)) (AnsE' s q ys (tE s f q))
def MT (s : ByteArray) (n : Nat) : Prop := ∀ (q : Nat) xs ys, q ≤ s.size → s.size - q < n → ∀ f, 2 * n + 2 ≤ f → xs.length ≤ q → ys.length ≤ q → Tot (fun k => spec_reader_members.l0 k xs ys s (q : Int)) (AnsM' s q xs ys (tM s f q))
theorem ele_tree (hs : s.size ≤ 1000000) {n : Nat} (hV : VT s (n + 1)) (hE : ET s n) : ET s (n + 1) := by
  intro q ys h1 hn f hf hy
  obtain ⟨f, rfl⟩ : ∃ g, f = g + 1 := ⟨f - 1, by omega⟩
  refine Tot.succ (fun k => by rw [spec_reader_elements.l0]) ?_
  refine Tot.bind (hV q h1 (by omega) f (by omega)) fun r hr => ?_
  rw [tE]
  cases hv : tV s f q with
  | none =>
    rw [hv] at hr
    obtain ⟨h2, h3⟩ := hr
    refine Tot.ite (fun c => ?_) fun c => Tot.ret ⟨rfl, h3⟩
    rw [h2] at c; cases c
  | some v =>
    rw [hv] at hr
    obtain ⟨rfl, h2, h3⟩ := hr
    obtain ⟨⟨v0, v1, v2, v3, v4⟩, y⟩ := v
    simp only [] at h2 h3 ⊢
    refine Tot.ite (fun _ => ?_) fun c => absurd trivial c
    refine Tot.ite (fun _ => ?_) fun c => absurd (show ys.length < 1954687338268 by omega) c
    simp only [Option.bind_some]
    have hu := nb_le y h3
    have huy := nb_ge (s := s) y
    refine Tot.bind (blanks_nb hs y h3) fun r hr => ?_
    subst hr
    refine Tot.bind (take_is hs (nb s y) 93 hu (by decide)) fun r hr => ?_
    subst hr
    by_cases c1 : bt s (nb s y : Int) = 93
    · have hin := in_text c1 (by decide)
      rw [if_pos c1]
      simp only [c1, if_true]
      exact Tot.ret ⟨rfl, by show q < nb s y + 1; omega, hin⟩
    · rw [if_neg c1]
      simp only [c1, if_false, Bool.false_eq_true]
      refine Tot.bind (take_is hs (nb s y) 44 hu (by decide)) fun r hr => ?_
      subst hr
      by_cases c2 : bt s (nb s y : Int) = 44
      · have hin := in_text c2 (by decide)
        rw [if_pos c2]
        simp only [c2, if_true]
        refine Tot.bind (blanks_nb hs (nb s y + 1) (by omega)) fun r hr => ?_
        subst hr
        have h4 := nb_ge (s := s) (nb s y + 1)
        have h5 := nb_le (s := s) (nb s y + 1) (by omega)
        refine (hE (nb s (nb s y + 1)) (ys ++ [⟨v0, v1, v2, v3, v4⟩]) h5 (by omega) f (by omega) (by rw [List.length_append]; simp; omega)).mono fun r h => ?_
        cases he : tE s f (nb s (nb s y + 1)) with
        | none => rw [he] at h; exact h
        | some w =>
          rw [he] at h
          obtain ⟨h6, h7, h8⟩ := h
          refine ⟨?_, by show q < w.2; omega, h8⟩
          rw [h6]
          simp
      · rw [if_neg c2]
        simp only [c2, if_false, Bool.false_eq_true]
        exact Tot.ret ⟨rfl, rfl⟩
theorem mem_tree (hs : s.size ≤ 1000000) {n : Nat} (hV : VT s (n + 1)) (hM : MT s n) : MT s (n + 1) := by
  intro q xs ys h1 hn f hf hx hy
  obtain ⟨f, rfl⟩ : ∃ g, f = g + 1 := ⟨f - 1, by omega⟩
  have bad : ∀ e : Int, Tot (fun k => spec_reader_members.j1 k xs ys (q : Int) true s e) (AnsM' s q xs ys none) := fun e =>
    Tot.succ (fun k => by rw [spec_reader_members.j1, if_pos rfl]) (Tot.ret ⟨rfl, rfl⟩)
  rw [tM]
  refine Tot.succ (fun k => by rw [spec_reader_members.l0]) ?_
  refine Tot.bind (here_tot hs (q : Int) (by omega)) fun r hr => ?_
  subst hr
  refine Tot.ite (fun c => ?_) fun c => ?_
  rotate_left
  · rw [if_neg c]; exact bad _
  rw [if_pos c]
  have hin := in_text (s := s) (p := q) c (by decide)
  refine Tot.bind (f := fun k => spec_reader_quoted.f k s (q : Int)) (Q := Ans s (qE s (q + 1))) ?_ fun r hr => ?_
  · unfold spec_reader_quoted.f
    rw [w64 (by omega) (by omega)]
    exact quoted_is hs s.size (q + 1) (by omega)
  obtain ⟨b, t, e⟩ := r
  obtain ⟨ht, hm⟩ := hr
  simp only [] at ht hm ⊢
  subst ht
  have hqe : ∀ b, qE t (q + 1) = some b → q + 1 ≤ b := fun b h => by
    obtain ⟨x, _, rfl⟩ := Option.map_eq_some_iff.mp h
    omega
  cases hqu : qE t (q + 1) with
  | none =>
    rw [hqu] at hm
    subst hm
    exact bad _
  | some b =>
    rw [hqu] at hm
    obtain ⟨m1, m2, m3⟩ := hm
    have hqb := hqe b hqu
    simp only [] at m1 m2 m3 ⊢
    subst m1 m2
    have hzl := nb_le b m3
    have hzg := nb_ge (s := t) b
    refine Tot.succ (fun k => by rw [Bool.not_true, spec_reader_members.j1, if_neg (by decide), if_pos (show xs.length < 8796093022208 by omega), Option.bind_some]) ?_
    refine Tot.bind (blanks_nb hs b m3) fun r hr => ?_
    subst hr
    refine Tot.bind (take_is hs (nb t b) 58 hzl (by decide)) fun r hr => ?_
    subst hr
    by_cases c1 : bt t (nb t b : Int) = 58
    · have hin1 := in_text c1 (by decide)
      rw [if_pos c1]
      simp only [c1, if_true]
      refine Tot.bind (blanks_nb hs (nb t b + 1) (by omega)) fun r hr => ?_
      subst hr
      have hal := nb_le (s := t) (nb t b + 1) (by omega)
      have hag := nb_ge (s := t) (nb t b + 1)
      generalize hA : nb t (nb t b + 1) = A at *
      refine Tot.bind (hV A hal (by omega) f (by omega)) fun r hr => ?_
      cases hv : tV t f A with
      | none =>
        rw [hv] at hr
        obtain ⟨h2, h3⟩ := hr
        refine Tot.ite (fun c => ?_) fun c => Tot.ret ⟨rfl, h3⟩
        rw [h2] at c; cases c
      | some v =>
        rw [hv] at hr
        obtain ⟨rfl, h2, h3⟩ := hr
        obtain ⟨⟨v0, v1, v2, v3, v4⟩, y⟩ := v
        simp only [] at h2 h3 ⊢
        refine Tot.ite (fun _ => ?_) fun c => absurd trivial c
        refine Tot.ite (fun _ => ?_) fun c => absurd (show ys.length < 1954687338268 by omega) c
        simp only [Option.bind_some]
        have hu := nb_le y h3
        have huy := nb_ge (s := t) y
        refine Tot.bind (blanks_nb hs y h3) fun r hr => ?_
        subst hr
        refine Tot.bind (take_is hs (nb t y) 125 hu (by decide)) fun r hr => ?_
        subst hr
        by_cases c3 : bt t (nb t y : Int) = 125
        · have hin2 := in_text c3 (by decide)
          rw [if_pos c3]
          simp only [c3, if_true]
          exact Tot.ret ⟨rfl, by show q < nb t y + 1; omega, hin2⟩
        · rw [if_neg c3]
          simp only [c3, if_false, Bool.false_eq_true]
          refine Tot.bind (take_is hs (nb t y) 44 hu (by decide)) fun r hr => ?_
          subst hr
          by_cases c4 : bt t (nb t y : Int) = 44
          · have hin2 := in_text c4 (by decide)
            rw [if_pos c4]
            simp only [c4, if_true]
            refine Tot.bind (blanks_nb hs (nb t y + 1) (by omega)) fun r hr => ?_
            subst hr
            have h4 := nb_ge (s := t) (nb t y + 1)
            have h5 := nb_le (s := t) (nb t y + 1) (by omega)
            refine (hM (nb t (nb t y + 1)) (xs ++ [⟨(q : Int), (b : Int)⟩]) (ys ++ [⟨v0, v1, v2, v3, v4⟩]) h5 (by omega) f (by omega) (by rw [List.length_append]; simp; omega) (by rw [List.length_append]; simp; omega)).mono fun r h => ?_
            cases he : tM t f (nb t (nb t y + 1)) with
            | none => rw [he] at h; exact h
            | some w =>
              rw [he] at h
              obtain ⟨h6, h7, h8⟩ := h
              refine ⟨?_, by show q < w.2.2; omega, h8⟩
              rw [h6]
              simp
          · rw [if_neg c4]
            simp only [c4, if_false, Bool.false_eq_true]
            exact Tot.ret ⟨rfl, rfl⟩
    · rw [if_neg c1]
      simp only [c1, if_false, Bool.false_eq_true]
      exact Tot.ret ⟨rfl, rfl⟩
theorem num_gt {p e : Nat} (h : nN s p = some e) : p < e := by
  unfold nN nW nF nX nE at h
  repeat' split at h
  all_goals first
    | (cases h; done)
    | (obtain rfl := Option.some.inj h; omega)
theorem vnum_tree (hs : s.size ≤ 1000000) (p : Nat) (c : Int) (h1 : p ≤ s.size) : Tot (fun k => spec_reader_value.j0 k true true s (p : Int) 0 (p : Int) c) (AnsV' s p (match nN s p with | none => none | some e => some (⟨3, (p : Int), (e : Int), [], []⟩, e))) := by
  refine Tot.succ (fun k => by rw [spec_reader_value.j0, if_pos rfl]) ?_
  refine Tot.bind (number_is hs p h1) fun r hr => Tot.ret ?_
  obtain ⟨b, t, e⟩ := r
  obtain ⟨h2, h3⟩ := hr
  simp only [] at h2 h3
  cases hn : nN s p with
  | none => rw [hn] at h3; exact ⟨h3, h2⟩
  | some m =>
    rw [hn] at h3
    obtain ⟨h4, h5, h6⟩ := h3
    subst h2 h4 h5
    exact ⟨rfl, num_gt hn, h6⟩
theorem vword_tree (hs : s.size ≤ 1000000) (p : Nat) (c : Int) (h1 : p ≤ s.size) : Tot (fun k => spec_reader_value.j0 k true false s (p : Int) 0 (p : Int) c) (AnsV' s p (match wordk s p with | none => none | some r => some (⟨r.1, (p : Int), (r.2 : Int), [], []⟩, r.2))) := by
  refine Tot.succ (fun k => by rw [spec_reader_value.j0, if_neg (by decide)]) ?_
  unfold wordk
  refine Tot.bind (word_is hs p ⟨#[110, 117, 108, 108]⟩ h1 (by decide) (by decide)) fun r hr => ?_
  subst hr
  rw [show bytesOf ⟨#[110, 117, 108, 108]⟩ = [110, 117, 108, 108] from rfl]
  by_cases k1 : Fj.begins [110, 117, 108, 108] (D s p) = true
  · simp only [k1, if_true]
    exact Tot.ret ⟨rfl, by show p < p + 4; omega, begins_in h1 k1⟩
  · simp only [k1, if_false, Bool.false_eq_true]
    refine Tot.bind (word_is hs p ⟨#[102, 97, 108, 115, 101]⟩ h1 (by decide) (by decide)) fun r hr => ?_
    subst hr
    rw [show bytesOf ⟨#[102, 97, 108, 115, 101]⟩ = [102, 97, 108, 115, 101] from rfl]
    by_cases k2 : Fj.begins [102, 97, 108, 115, 101] (D s p) = true
    · simp only [k2, if_true]
      exact Tot.ret ⟨rfl, by show p < p + 5; omega, begins_in h1 k2⟩
    · simp only [k2, if_false, Bool.false_eq_true]
      refine Tot.bind (word_is hs p ⟨#[116, 114, 117, 101]⟩ h1 (by decide) (by decide)) fun r hr => ?_
      subst hr
      rw [show bytesOf ⟨#[116, 114, 117, 101]⟩ = [116, 114, 117, 101] from rfl]
      by_cases k3 : Fj.begins [116, 114, 117, 101] (D s p) = true
      · simp only [k3, if_true]
        exact Tot.ret ⟨rfl, by show p < p + 4; omega, begins_in h1 k3⟩
      · simp only [k3, if_false, Bool.false_eq_true]
        exact Tot.ret ⟨rfl, rfl⟩
theorem val_tree (hs : s.size ≤ 1000000) {n : Nat} (hM : MT s n) (hE : ET s n) : VT s (n + 1) := by
  intro p h1 hn f hf
  obtain ⟨f, rfl⟩ : ∃ g, f = g + 1 := ⟨f - 1, by omega⟩
  refine Tot.succ (fun k => by rw [spec_reader_value.f]) ?_
  refine Tot.bind (here_tot hs (p : Int) (by omega)) fun r hr => ?_
  subst hr
  simp only []
  rw [tV]
  refine Tot.ite (fun c => ?_) fun c1 => Tot.ite (fun c => ?_) fun c2 => Tot.ite (fun c => ?_) fun c3 => Tot.ite (fun c => ?_) fun c4 => Tot.ite (fun c => ?_) fun c5 => ?_
  · have hp := in_text c (by decide)
    rw [if_pos c]
    have hq := nb_le (s := s) (p + 1) (by omega)
    have hg := nb_ge (s := s) (p + 1)
    obtain ⟨f, rfl⟩ : ∃ g, f = g + 1 := ⟨f - 1, by omega⟩
    refine Tot.bind (Q := fun r => AnsM' s p [] [] (if bt s (nb s (p + 1) : Int) = 125 then some ([], [], nb s (p + 1) + 1) else tM s (f + 1) (nb s (p + 1))) r) (Tot.succ (fun k => by rw [spec_reader_members.f, w64 (i := (p : Int) + 1) (by omega) (by omega)]) ?_) fun r hr => Tot.ret ?_
    · refine Tot.bind (blanks_nb hs (p + 1) (by omega)) fun r hr => ?_
      subst hr
      refine Tot.bind (take_is hs (nb s (p + 1)) 125 hq (by decide)) fun r hr => ?_
      subst hr
      by_cases c : bt s (nb s (p + 1) : Int) = 125
      · have hin := in_text c (by decide)
        simp only [c, if_true]
        exact Tot.ret ⟨rfl, by show p < nb s (p + 1) + 1; omega, hin⟩
      · simp only [c, if_false, Bool.false_eq_true]
        refine (hM (nb s (p + 1)) [] [] hq (by omega) (f + 1) (by omega) (by simp) (by simp)).mono fun r h => ?_
        cases hm : tM s (f + 1) (nb s (p + 1)) with
        | none => rw [hm] at h; exact h
        | some w => rw [hm] at h; exact ⟨h.1, Nat.lt_of_lt_of_le (by omega : p < nb s (p + 1)) (Nat.le_of_lt h.2.1), h.2.2⟩
    · by_cases c : bt s (nb s (p + 1) : Int) = 125
      · rw [if_pos c] at hr ⊢
        obtain ⟨rfl, h2, h3⟩ := hr
        exact ⟨rfl, h2, h3⟩
      · rw [if_neg c] at hr ⊢
        cases hm : tM s (f + 1) (nb s (p + 1)) with
        | none => rw [hm] at hr; exact hr
        | some w =>
          rw [hm] at hr
          obtain ⟨rfl, h2, h3⟩ := hr
          exact ⟨rfl, h2, h3⟩
  · have hp := in_text c (by decide)
    rw [if_neg c1, if_pos c]
    have hq := nb_le (s := s) (p + 1) (by omega)
    have hg := nb_ge (s := s) (p + 1)
    obtain ⟨f, rfl⟩ : ∃ g, f = g + 1 := ⟨f - 1, by omega⟩
    refine Tot.bind (Q := fun r => AnsE' s p [] (if bt s (nb s (p + 1) : Int) = 93 then some ([], nb s (p + 1) + 1) else tE s (f + 1) (nb s (p + 1))) r) (Tot.succ (fun k => by rw [spec_reader_elements.f, w64 (i := (p : Int) + 1) (by omega) (by omega)]) ?_) fun r hr => Tot.ret ?_
    · refine Tot.bind (blanks_nb hs (p + 1) (by omega)) fun r hr => ?_
      subst hr
      refine Tot.bind (take_is hs (nb s (p + 1)) 93 hq (by decide)) fun r hr => ?_
      subst hr
      by_cases c : bt s (nb s (p + 1) : Int) = 93
      · have hin := in_text c (by decide)
        simp only [c, if_true]
        exact Tot.ret ⟨rfl, by show p < nb s (p + 1) + 1; omega, hin⟩
      · simp only [c, if_false, Bool.false_eq_true]
        refine (hE (nb s (p + 1)) [] hq (by omega) (f + 1) (by omega) (by simp)).mono fun r h => ?_
        cases hm : tE s (f + 1) (nb s (p + 1)) with
        | none => rw [hm] at h; exact h
        | some w => rw [hm] at h; exact ⟨h.1, Nat.lt_of_lt_of_le (by omega : p < nb s (p + 1)) (Nat.le_of_lt h.2.1), h.2.2⟩
    · by_cases c : bt s (nb s (p + 1) : Int) = 93
      · rw [if_pos c] at hr ⊢
        obtain ⟨rfl, h2, h3⟩ := hr
        exact ⟨rfl, h2, h3⟩
      · rw [if_neg c] at hr ⊢
        cases hm : tE s (f + 1) (nb s (p + 1)) with
        | none => rw [hm] at hr; exact hr
        | some w =>
          rw [hm] at hr
          obtain ⟨rfl, h2, h3⟩ := hr
          exact ⟨rfl, h2, h3⟩
  · have hp := in_text c (by decide)
    rw [if_neg c1, if_neg c2, if_pos c]
    refine Tot.bind (f := fun k => spec_reader_quoted.f k s (p : Int)) (Q := Ans s (qE s (p + 1))) ?_ fun r hr => Tot.ret ?_
    · unfold spec_reader_quoted.f
      rw [w64 (by omega) (by omega)]
      exact quoted_is hs s.size (p + 1) (by omega)
    · obtain ⟨b, t, e⟩ := r
      obtain ⟨h2, h3⟩ := hr
      simp only [] at h2 h3
      cases hq : qE s (p + 1) with
      | none => rw [hq] at h3; exact ⟨h3, h2⟩
      | some m =>
        rw [hq] at h3
        obtain ⟨h4, h5, h6⟩ := h3
        subst h2 h4 h5
        obtain ⟨x, _, rfl⟩ := Option.map_eq_some_iff.mp hq
        exact ⟨rfl, by show p < p + 1 + x; omega, h6⟩
  · rw [if_neg c1, if_neg c2, if_neg c3, if_pos (.inl c)]
    exact vnum_tree hs p _ h1
  · by_cases c6 : bt s (p : Int) ≤ 57
    · rw [decide_eq_true c6, if_neg c1, if_neg c2, if_neg c3, if_pos (.inr ⟨c, c6⟩)]
      exact vnum_tree hs p _ h1
    · rw [decide_eq_false c6, if_neg c1, if_neg c2, if_neg c3, if_neg (fun h => h.elim c4 fun x => c6 x.2)]
      exact vword_tree hs p _ h1
  · rw [if_neg c1, if_neg c2, if_neg c3, if_neg (fun h => h.elim c4 fun x => c5 x.1)]
    exact vword_tree hs p _ h1
theorem all_tree (hs : s.size ≤ 1000000) : ∀ n : Nat, VT s n ∧ MT s n ∧ ET s n
  | 0 => ⟨fun p _ h => by omega, fun p _ _ _ h => by omega, fun p _ _ h => by omega⟩
  | n + 1 => by
    obtain ⟨hV, hM, hE⟩ := all_tree hs n
    have hV1 := val_tree hs hM hE
    exact ⟨hV1, mem_tree hs hV1 hM, ele_tree hs hV1 hE⟩
/-- The reader of a value at a place. -/
theorem value_tree (hs : s.size ≤ 1000000) (p : Nat) (h1 : p ≤ s.size) (f : Nat) (hf : 2 * s.size + 3 ≤ f) : Tot (fun k => spec_reader_value.f k s (p : Int)) (AnsV' s p (tV s f p)) :=
  (all_tree hs (s.size + 1)).1 p h1 (by omega) f (by omega)
end Go.Proofs.YtlhaefblchpjhaaGreatDoor.ReadXFnAlValid
end
section
namespace Go.Proofs.YtlhaefblchpjhaaGreatDoor.Fp
open Go.RowKit Go.Proofs.YtlhaefblchpjhaaGreatDoorW.PrintWords Go.Proofs.YtlhaefblchpjhaaGreatDoorW.PrintLast
set_option linter.unusedVariables false
set_option linter.unusedSimpArgs false
/-- A value of fastjson: a word's kind, a string's inside and a number's bytes as they stand, elements, members. -/
inductive FV
  | lit (t : Int)
  | str (s : List Int)
  | num (s : List Int)
  | arr (l : List FV)
  | obj (l : List (List Int × FV))
/-- The bytes of which fastjson's numbers are made. -/
def nb (c : Int) : Bool := decide (48 ≤ c ∧ c ≤ 57) || (c == 46 || (c == 45 || (c == 101 || (c == 69 || c == 43))))
def nlen : List Int → Nat
  | [] => 0
  | c :: r => if nb c = true then nlen r + 1 else 0
def low (c : Int) : Int := if 65 ≤ c ∧ c ≤ 90 then c + 32 else c
/-- Three bytes, in any case of letters. -/
def fold3 (l : List Int) (a b c : Int) : Bool := decide (3 ≤ l.length) && (low (rd l 0) == a && (low (rd l 1) == b && low (rd l 2) == c))
def rawNum (l : List Int) : Option Nat :=
  if nlen l = l.length then some l.length
  else if nlen l = 0 ∨ (nlen l = 1 ∧ (rd l 0 = 45 ∨ rd l 0 = 43)) then
    (if (fold3 (l.drop (nlen l)) 105 110 102 || fold3 (l.drop (nlen l)) 110 97 110) = true then some (nlen l + 3) else none)
  else some (nlen l)
mutual
/-- A value behind d levels. -/
def pval : Nat → Nat → List Int → Option (FV × Nat)
  | 0, _, _ => none
  | k + 1, d, l =>
    if l = [] then none else if 300 < d + 1 then none
    else if rd l 0 = 123 then (if rd (l.drop 1) (Fj.ws (l.drop 1) : Int) = 125 then some (.obj [], Fj.ws (l.drop 1) + 2) else (pmems k (d + 1) (l.drop 1)).map fun r => (.obj r.1, r.2 + 1))
    else if rd l 0 = 91 then (if rd (l.drop 1) (Fj.ws (l.drop 1) : Int) = 93 then some (.arr [], Fj.ws (l.drop 1) + 2) else (pels k (d + 1) (l.drop 1)).map fun r => (.arr r.1, r.2 + 1))
    else if rd l 0 = 34 then (Fj.qend (l.drop 1)).map fun q => (.str ((l.drop 1).take q), q + 2)
    else if rd l 0 = 116 then (if Fj.begins [116, 114, 117, 101] l = true then some (.lit 5, 4) else none)
    else if rd l 0 = 102 then (if Fj.begins [102, 97, 108, 115, 101] l = true then some (.lit 6, 5) else none)
    else if rd l 0 = 110 then (if Fj.begins [110, 117, 108, 108] l = true then some (.lit 0, 4) else if fold3 l 110 97 110 = true then some (.num (l.take 3), 3) else none)
    else (rawNum l).map fun n => (.num (l.take n), n)
/-- The elements, with the bracket that closes them. -/
def pels : Nat → Nat → List Int → Option (List FV × Nat)
  | 0, _, _ => none
  | k + 1, d, l => match pval k d (l.drop (Fj.ws l)) with
    | none => none
    | some v =>
      let m := Fj.ws l + v.2
      let n := m + Fj.ws (l.drop m)
      if rd l (n : Int) = 44 then (pels k d (l.drop (n + 1))).map fun r => (v.1 :: r.1, r.2 + (n + 1)) else if rd l (n : Int) = 93 then some ([v.1], n + 1) else none
/-- The members, with the brace that closes them. -/
def pmems : Nat → Nat → List Int → Option (List (List Int × FV) × Nat)
  | 0, _, _ => none
  | k + 1, d, l =>
    let a := Fj.ws l
    if rd l (a : Int) = 34 then match Fj.qend (l.drop (a + 1)) with
      | none => none
      | some q =>
        let b := a + 1 + (q + 1)
        let c := b + Fj.ws (l.drop b)
        if rd l (c : Int) = 58 then match pval k d ((l.drop (c + 1)).drop (Fj.ws (l.drop (c + 1)))) with
          | none => none
          | some v =>
            let m := c + 1 + Fj.ws (l.drop (c + 1)) + v.2
            let n := m + Fj.ws (l.drop m)
            if rd l (n : Int) = 44 then (pmems k d (l.drop (n + 1))).map fun r => (((l.drop (a + 1)).take q, v.1) :: r.1, r.2 + (n + 1)) else if rd l (n : Int) = 125 then some ([((l.drop (a + 1)).take q, v.1)], n + 1) else none
        else none
    else none
end
end Go.Proofs.YtlhaefblchpjhaaGreatDoor.Fp
end
section
namespace Go.Proofs.YtlhaefblchpjhaaGreatDoor.Fp
open Go.RowKit Go.Proofs.YtlhaefblchpjhaaGreatDoorW.PrintWords Go.Proofs.YtlhaefblchpjhaaGreatDoorW.PrintLast
set_option linter.unusedVariables false
set_option linter.unusedSimpArgs false
abbrev TV : TypeId := 109
abbrev nilS : Value := .slice none 0 0
abbrev emptyS : Value := .string ⟨#[]⟩
/-- The cells of a Value that is made anew. -/
def vz : List Value := [nilS, .bool false, nilS, emptyS, .int .i64 0]
theorem infoV : (Tryz.prog.info? TV).map (fun i => (i.zero.map (·.cells), i.size, i.bytes)) = some (some vz.toArray, 5, 80) := by kernel_rfl
/-- The cache: n values lie in the row v, and what is behind them is as made anew. -/
def Ca (w : World) (pb n : Nat) (v : Value) : Prop :=
  (n = 0 ∧ v = nilS) ∨ ∃ (cb cap : Nat) (cur : Array Value), v = .slice (some ⟨cb, 0, none⟩) n cap ∧ w.heap[cb]? = some (.cells cur TV (0, 0)) ∧ n ≤ cap ∧ cap ≤ maxLen ∧ cur.size = cap * 5 ∧ cb ≠ pb ∧ ∀ j i, n ≤ j → j < cap → i < 5 → cur[j * 5 + i]? = vz[i]?
/-- The Parser's block. -/
def Pb (w : World) (pb : Nat) (bv cv : Value) : Prop := w.heap[pb]? = some (.cells #[bv, cv] 66 (0, 0))
/-- Nothing that was there is changed but the Parser's own cells, and what is free in the cache. -/
structure Step (pb n : Nat) (v : Value) (w w' : World) : Prop where
  out : w'.os = w.os ∧ w'.tape = w.tape ∧ w'.output = w.output
  size : w.heap.size ≤ w'.heap.size
  blk : ∀ k, k < w.heap.size → k ≠ pb → some k ≠ v.ownBlock → w'.heap[k]? = w.heap[k]?
  cel : ∀ cb, v.ownBlock = some cb → ∀ cur, w.heap[cb]? = some (.cells cur TV (0, 0)) → ∃ cur', w'.heap[cb]? = some (.cells cur' TV (0, 0)) ∧ cur'.size = cur.size ∧ ∀ j, j < n * 5 → cur'[j]? = cur[j]?
/-- A place that a step makes. -/
def New (n : Nat) (v : Value) (w : World) (x : Addr) : Prop := w.heap.size ≤ x.block ∨ (some x.block = v.ownBlock ∧ n * 5 ≤ x.off)
/-- A place that later steps leave. -/
def In (pb n : Nat) (v : Value) (w : World) (x : Addr) : Prop := x.spot = none ∧ x.block < w.heap.size ∧ x.block ≠ pb ∧ (some x.block = v.ownBlock → x.off < n * 5)
/-- The cache has grown, in its row or in a new one. -/
def Up (n n' : Nat) (v v' : Value) (w : World) : Prop := n ≤ n' ∧ (v'.ownBlock = v.ownBlock ∨ ∃ b, v'.ownBlock = some b ∧ w.heap.size ≤ b)
theorem Step.refl (pb n : Nat) (v : Value) (w : World) : Step pb n v w w := ⟨⟨rfl, rfl, rfl⟩, Nat.le_refl _, fun _ _ _ _ => rfl, fun _ _ cur h => ⟨cur, h, rfl, fun _ _ => rfl⟩⟩
theorem Up.refl (n : Nat) (v : Value) (w : World) : Up n n v v w := ⟨Nat.le_refl _, .inl rfl⟩
theorem Up.trans {n n1 n2 : Nat} {v v1 v2 : Value} {w w1 : World} (h : Up n n1 v v1 w) (g : Up n1 n2 v1 v2 w1) (hs : w.heap.size ≤ w1.heap.size) : Up n n2 v v2 w := by
  refine ⟨Nat.le_trans h.1 g.1, ?_⟩
  rcases g.2 with e | ⟨b, e, hb⟩
  · rw [e]; exact h.2
  · exact .inr ⟨b, e, Nat.le_trans hs hb⟩
theorem Ca.lt {w : World} {pb n : Nat} {v : Value} (h : Ca w pb n v) {cb : Nat} (hc : v.ownBlock = some cb) : cb < w.heap.size ∧ cb ≠ pb ∧ ∃ cur, w.heap[cb]? = some (.cells cur TV (0, 0)) := by
  rcases h with ⟨_, rfl⟩ | ⟨cb', cap, cur, rfl, h1, _, _, _, h2, _⟩
  · simp [Value.ownBlock] at hc
  · simp only [Value.ownBlock, Option.some.injEq] at hc
    subst hc
    refine ⟨?_, h2, cur, h1⟩
    refine Nat.lt_of_not_le fun hle => ?_
    rw [Array.getElem?_eq_none hle] at h1
    cases h1
theorem Step.trans {pb n n1 : Nat} {v v1 : Value} {w w1 w2 : World} (hc : Ca w pb n v) (h : Step pb n v w w1) (hu : Up n n1 v v1 w) (g : Step pb n1 v1 w1 w2) : Step pb n v w w2 := by
  refine ⟨⟨g.out.1.trans h.out.1, g.out.2.1.trans h.out.2.1, g.out.2.2.trans h.out.2.2⟩, Nat.le_trans h.size g.size, fun k hk hp hv => ?_, fun cb hcb cur hcur => ?_⟩
  · refine (g.blk k (Nat.lt_of_lt_of_le hk h.size) hp fun e => ?_).trans (h.blk k hk hp hv)
    rcases hu.2 with e1 | ⟨b, e1, hb⟩
    · rw [e1] at e; exact hv e
    · rw [e1] at e; injection e with e; omega
  · obtain ⟨cur1, h1, h2, h3⟩ := h.cel cb hcb cur hcur
    have hl := hc.lt hcb
    rcases hu.2 with e1 | ⟨b, e1, hb⟩
    · obtain ⟨cur2, g1, g2, g3⟩ := g.cel cb (e1.trans hcb) cur1 h1
      have := hu.1
      exact ⟨cur2, g1, by omega, fun j hj => (g3 j (by omega)).trans (h3 j hj)⟩
    · refine ⟨cur1, (g.blk cb (Nat.lt_of_lt_of_le hl.1 h.size) hl.2.1 fun e => ?_).trans h1, h2, h3⟩
      rw [e1] at e; injection e with e; omega
/-- What is settled stays. -/
theorem In.cell {pb n : Nat} {v : Value} {w w' : World} {x : Addr} (hc : Ca w pb n v) (h : In pb n v w x) (g : Step pb n v w w') : w'.cell? x = w.cell? x := by
  obtain ⟨h0, h1, h2, h3⟩ := h
  obtain ⟨xb, xo, xs⟩ := x
  simp only at h0 h1 h2 h3
  subst h0
  by_cases e : some xb = v.ownBlock
  · obtain ⟨_, _, cur, hcur⟩ := hc.lt e.symm
    obtain ⟨cur', g1, g2, g3⟩ := g.cel xb e.symm cur hcur
    simp [World.cell?, hcur, g1, g3 xo (h3 e)]
  · simp [World.cell?, g.blk xb h1 h2 e]
theorem In.step {pb n n' : Nat} {v v' : Value} {w w' : World} {x : Addr} (h : In pb n v w x) (g : Step pb n v w w') (hu : Up n n' v v' w) : In pb n' v' w' x := by
  obtain ⟨h0, h1, h2, h3⟩ := h
  refine ⟨h0, Nat.lt_of_lt_of_le h1 g.size, h2, fun e => ?_⟩
  have := hu.1
  rcases hu.2 with e1 | ⟨b, e1, hb⟩
  · have := h3 (e.trans e1); omega
  · rw [e1] at e; injection e with e; omega
/-- Five cells, all of a footprint. -/
def Cells (w : World) (F : Addr → Prop) (b o : Nat) (c0 c1 c2 c3 c4 : Value) : Prop :=
  (w.cell? ⟨b, o, none⟩ = some c0 ∧ w.cell? ⟨b, o + 1, none⟩ = some c1 ∧ w.cell? ⟨b, o + 2, none⟩ = some c2 ∧ w.cell? ⟨b, o + 3, none⟩ = some c3 ∧ w.cell? ⟨b, o + 4, none⟩ = some c4) ∧
  (F ⟨b, o, none⟩ ∧ F ⟨b, o + 1, none⟩ ∧ F ⟨b, o + 2, none⟩ ∧ F ⟨b, o + 3, none⟩ ∧ F ⟨b, o + 4, none⟩) ∧ ∃ cur, w.heap[b]? = some (.cells cur TV (0, 0))
def ptr (p : Nat × Nat) : Value := .pointer (some ⟨p.1, p.2, none⟩)
/-- A row of pointers. -/
def RowIs (w : World) (F : Addr → Prop) (av : Value) (ps : List (Nat × Nat)) : Prop :=
  (ps = [] ∧ av = nilS) ∨ ∃ ab cap, av = .slice (some ⟨ab, 0, none⟩) ps.length cap ∧ ps.length ≤ cap ∧ ∀ i, i < ps.length → w.cell? ⟨ab, i, none⟩ = (ps[i]?).map ptr ∧ F ⟨ab, i, none⟩
/-- A row of members: a name and a pointer each. -/
def KvIs (w : World) (F : Addr → Prop) (kv : Value) (ks : List (List Int)) (ps : List (Nat × Nat)) : Prop :=
  (ps = [] ∧ ks = [] ∧ kv = nilS) ∨ ∃ kb cap cur, kv = .slice (some ⟨kb, 0, none⟩) ps.length cap ∧ 0 < ps.length ∧ ps.length ≤ cap ∧ ks.length = ps.length ∧ w.heap[kb]? = some (.cells cur 153 (0, 0)) ∧
    ∀ i, i < ps.length → w.cell? ⟨kb, i * 2, none⟩ = (ks[i]?).map (fun k => .string (strOfNums k)) ∧ w.cell? ⟨kb, i * 2 + 1, none⟩ = (ps[i]?).map ptr ∧ F ⟨kb, i * 2, none⟩ ∧ F ⟨kb, i * 2 + 1, none⟩
mutual
/-- What the cells of a value say; F: the places that they lie at, each child's apart from the others' and from the value's own. -/
inductive Rep (w : World) : (Addr → Prop) → Nat → Nat → FV → Prop
  | lit (F : Addr → Prop) (b o : Nat) (t : Int) : Cells w F b o nilS (.bool false) nilS emptyS (.int .i64 t) → Rep w F b o (.lit t)
  | str (F : Addr → Prop) (b o : Nat) (s : List Int) : Cells w F b o nilS (.bool false) nilS (.string (strOfNums s)) (.int .i64 7) → Rep w F b o (.str s)
  | num (F : Addr → Prop) (b o : Nat) (s : List Int) : Cells w F b o nilS (.bool false) nilS (.string (strOfNums s)) (.int .i64 4) → Rep w F b o (.num s)
  | arr (F Fk : Addr → Prop) (b o : Nat) (av : Value) (ps : List (Nat × Nat)) (vs : List FV) : Cells w F b o nilS (.bool false) av emptyS (.int .i64 2) → RowIs w F av ps → Reps w Fk ps vs → (∀ x, Fk x → F x ∧ some x.block ≠ av.ownBlock ∧ ∀ i, i < 5 → (⟨b, o + i, none⟩ : Addr) ≠ x) → (∀ x : Addr, x.spot = none → some x.block = av.ownBlock → F x) → Rep w F b o (.arr vs)
  | obj (F Fk : Addr → Prop) (b o : Nat) (kv : Value) (ps : List (Nat × Nat)) (ms : List (List Int × FV)) : Cells w F b o kv (.bool false) nilS emptyS (.int .i64 1) → KvIs w F kv (ms.map Prod.fst) ps → Reps w Fk ps (ms.map Prod.snd) → (∀ x, Fk x → F x ∧ some x.block ≠ kv.ownBlock ∧ ∀ i, i < 5 → (⟨b, o + i, none⟩ : Addr) ≠ x) → (∀ x : Addr, x.spot = none → some x.block = kv.ownBlock → F x) → Rep w F b o (.obj ms)
inductive Reps (w : World) : (Addr → Prop) → List (Nat × Nat) → List FV → Prop
  | nil (F : Addr → Prop) : Reps w F [] []
  | cons (F F1 F2 : Addr → Prop) (p : Nat × Nat) (v : FV) (ps : List (Nat × Nat)) (vs : List FV) : Rep w F1 p.1 p.2 v → Reps w F2 ps vs → (∀ x, F1 x → F x) → (∀ x, F2 x → F x) → (∀ x, F1 x → F2 x → False) → Reps w F (p :: ps) (v :: vs)
end
theorem Cells.keep {w w' : World} {F G : Addr → Prop} {b o : Nat} {c0 c1 c2 c3 c4 : Value} (h : Cells w F b o c0 c1 c2 c3 c4) (hk : ∀ x, F x → w'.cell? x = w.cell? x) (hb : ∀ x, F x → ∀ cur, w.heap[x.block]? = some (.cells cur TV (0, 0)) → ∃ cur', w'.heap[x.block]? = some (.cells cur' TV (0, 0))) (hg : ∀ x, F x → G x) : Cells w' G b o c0 c1 c2 c3 c4 := by
  obtain ⟨⟨h0, h1, h2, h3, h4⟩, ⟨f0, f1, f2, f3, f4⟩, cur, hc⟩ := h
  exact ⟨⟨(hk _ f0).trans h0, (hk _ f1).trans h1, (hk _ f2).trans h2, (hk _ f3).trans h3, (hk _ f4).trans h4⟩, ⟨hg _ f0, hg _ f1, hg _ f2, hg _ f3, hg _ f4⟩, hb _ f0 cur hc⟩
/-- The cells of a value that is made anew. -/
def Zer (w : World) (b o : Nat) : Prop := ∀ i, i < 5 → w.cell? ⟨b, o + i, none⟩ = vz[i]?
theorem Pb.cell {w : World} {pb : Nat} {bv cv : Value} (h : Pb w pb bv cv) : w.cell? ⟨pb, 1, none⟩ = some cv := by unfold Pb at h; simp [World.cell?, h]
theorem Pb.cell0 {w : World} {pb : Nat} {bv cv : Value} (h : Pb w pb bv cv) : w.cell? ⟨pb, 0, none⟩ = some bv := by unfold Pb at h; simp [World.cell?, h]
theorem Pb.free {w : World} {pb : Nat} {bv cv : Value} (h : Pb w pb bv cv) (j : Nat) : w.frozen? ⟨pb, j, none⟩ = false := by
  unfold Pb at h
  simp [World.frozen?, h]
theorem Pb.lt {w : World} {pb : Nat} {bv cv : Value} (h : Pb w pb bv cv) : pb < w.heap.size := by
  refine Nat.lt_of_not_le fun hle => ?_
  unfold Pb at h
  rw [Array.getElem?_eq_none hle] at h
  cases h
theorem heap_set {w : World} {g j e : Nat} {cur : Array Value} {fz : Nat × Nat} (h : w.heap[g]? = some (.cells cur e fz)) (v : Value) :
    (w.setCell ⟨g, j, none⟩ v).heap[g]? = some (.cells (cur.setIfInBounds j v) e fz) := by
  simp [World.setCell, Array.getElem?_modify, h]
theorem heap_other (w : World) (g j k : Nat) (v : Value) (h : k ≠ g) : (w.setCell ⟨g, j, none⟩ v).heap[k]? = w.heap[k]? := Below.heap_setCell w ⟨g, j, none⟩ v k h
theorem set_size (w : World) (p : Addr) (v : Value) : (w.setCell p v).heap.size = w.heap.size := by simp [World.setCell]
theorem Pb.set {w : World} {pb : Nat} {bv cv : Value} (h : Pb w pb bv cv) (v : Value) : Pb (w.setCell ⟨pb, 1, none⟩ v) pb bv v := by
  unfold Pb
  rw [heap_set h v]
  rfl
theorem zc_get (m j i : Nat) (hj : j < m) (hi : i < 5) : (Builtin.zeroCells vz.toArray m)[j * 5 + i]? = vz[i]? := by
  have h5 : vz.toArray.size = 5 := rfl
  have e1 : (j * 5 + i) % 5 = i := by omega
  have hlt : j * 5 + i < m * 5 := by omega
  unfold Builtin.zeroCells
  rw [Array.getElem?_eq_getElem (by simp [h5]; exact hlt)]
  simp [h5, e1]
  have : i = 0 ∨ i = 1 ∨ i = 2 ∨ i = 3 ∨ i = 4 := by omega
  rcases this with rfl | rfl | rfl | rfl | rfl <;> rfl
end Go.Proofs.YtlhaefblchpjhaaGreatDoor.Fp
end
section
namespace Go.Proofs.YtlhaefblchpjhaaGreatDoor.XWords
open Go.RowKit Go.Proofs.YtlhaefblchpjhaaGreatDoorW.PrintWords Go.Proofs.YtlhaefblchpjhaaGreatDoorW.PrintLast
theorem strOfNums_bytesOf (s : ByteArray) : strOfNums (bytesOf s) = s := by
  unfold strOfNums bytesOf
  rw [List.map_map]
  have : (fun n : Int => UInt8.ofNat n.toNat) ∘ (fun b : UInt8 => (b.toNat : Int)) = id := by
    funext b; simp
  rw [this]; cases s; simp
end Go.Proofs.YtlhaefblchpjhaaGreatDoor.XWords
end
section
namespace Go.Proofs.YtlhaefblchpjhaaGreatDoor.OwnRow
open Go.RowKit Go.Proofs.YtlhaefblchpjhaaGreatDoorW.PrintWords
end Go.Proofs.YtlhaefblchpjhaaGreatDoor.OwnRow
end
section
namespace Go.Proofs.YtlhaefblchpjhaaGreatDoor.Fp
open Go.RowKit Go.Proofs.YtlhaefblchpjhaaGreatDoorW.PrintWords Go.Proofs.YtlhaefblchpjhaaGreatDoorW.PrintLast Go.Proofs.YtlhaefblchpjhaaGreatDoorW.PrintMore
set_option linter.unusedVariables false
set_option linter.unusedSimpArgs false
theorem infoT : ∃ i0 z, Tryz.prog.info? TV = some i0 ∧ i0.zero = some z ∧ z.cells = vz.toArray ∧ i0.size = 5 ∧ i0.bytes = 80 := by
  have h := infoV
  cases hi : Tryz.prog.info? TV with
  | none => rw [hi] at h; cases h
  | some i0 =>
    rw [hi] at h
    simp only [Option.map_some, Option.some.injEq, Prod.mk.injEq] at h
    cases hz : i0.zero with
    | none => rw [hz] at h; simp at h
    | some z => rw [hz] at h; exact ⟨i0, z, rfl, hz, Option.some.inj h.1, h.2.1, h.2.2⟩
/-- Is there no room in the row? -/
def Full (n : Nat) (v : Value) : Prop := v = nilS ∨ ∃ cb, v = .slice (some ⟨cb, 0, none⟩) n n
/-- append(vs, Value{}), where there is no room. -/
theorem wp_grow {ops : Array Oper} {rest : List Oper} {o : Oper} {a : Act} {Q : Exit → Act → World → Prop} (W : World) (pb n : Nat) (v : Value) (hC : Ca W pb n v) (hF : Full n v) (hn : n ≤ 1000000) (hgd : o.guard = none) (s x : Operand)
    (ho : o.op = .call { callee := .builtin .append, args := #[s, x], argTypes := #[62, 62] }) (hs : a.eval s = v) (hx : a.eval x = .slice (some ⟨W.heap.size, 0, none⟩) 1 1)
    (h : ∀ (cap : Nat) (cur : Array Value) (w' : World), n + 1 ≤ cap → cap ≤ maxLen → cur.size = cap * 5 → (∀ j i, n ≤ j → j < cap → i < 5 → cur[j * 5 + i]? = vz[i]?) → w'.heap.size = W.heap.size + 2 → (∀ k, k < W.heap.size → w'.heap[k]? = W.heap[k]?) →
      w'.heap[W.heap.size + 1]? = some (.cells cur TV (0, 0)) → (w'.os = W.os ∧ w'.tape = W.tape ∧ w'.output = W.output) → wpList Tryz.prog ops Q rest (a.put o.dst (.slice (some ⟨W.heap.size + 1, 0, none⟩) (n + 1) cap)) w') :
    wpList Tryz.prog ops Q (o :: rest) a (W.alloc (.cells vz.toArray TV)) := by
  obtain ⟨i0, z, hi, hz, hzc, hsz, hby⟩ := infoT
  have ht := Tryz.underlying62
  have hsize : (W.alloc (.cells vz.toArray TV)).heap.size = W.heap.size + 1 := by show (W.heap.push _).size = _; rw [Array.size_push]
  have hnew : ∀ j v, vz[j]? = some v → (W.alloc (.cells vz.toArray TV)).cell? ((⟨W.heap.size, 0, none⟩ : Addr).add j) = some v := fun j v hj => by
    rw [add_plain, World.cell?_alloc_new]
    simpa using hj
  have fin : ∀ (olds : List Value) (cap : Nat), olds.length = n * 5 → n + 1 ≤ cap → cap ≤ maxLen → ∀ w', w' = (W.alloc (.cells vz.toArray TV)).drew.alloc (.cells (olds.toArray ++ vz.toArray ++ Builtin.zeroCells z.cells (cap - (n + 1))) TV) →
      wpList Tryz.prog ops Q rest (a.put o.dst (.slice (some ⟨W.heap.size + 1, 0, none⟩) (n + 1) cap)) w' := by
    intro olds cap hol h1 h2 w' hw
    have hd : (W.alloc (.cells vz.toArray TV)).drew.heap.size = W.heap.size + 1 := hsize
    refine h cap (olds.toArray ++ vz.toArray ++ Builtin.zeroCells z.cells (cap - (n + 1))) w' h1 h2 ?_ ?_ ?_ ?_ ?_ ?_
    · have e : vz.toArray.size = 5 := rfl
      rw [Array.size_append, Array.size_append, size_zeroCells, hzc, e]
      simp only [List.size_toArray, hol]
      omega
    · intro j i hj hjc hi5
      rw [hzc]
      have e : vz.toArray.size = 5 := rfl
      by_cases c : j = n
      · subst c
        rw [Array.getElem?_append_left (by rw [Array.size_append, e]; simp only [List.size_toArray, hol]; omega), Array.getElem?_append_right (by simp only [List.size_toArray, hol]; omega)]
        simp only [List.size_toArray, hol, Nat.add_sub_cancel_left]
        simp
      · rw [Array.getElem?_append_right (by rw [Array.size_append, e]; simp only [List.size_toArray, hol]; omega), Array.size_append, e]
        simp only [List.size_toArray, hol]
        rw [show j * 5 + i - (n * 5 + 5) = (j - (n + 1)) * 5 + i by omega]
        exact zc_get _ _ _ (by omega) hi5
    · rw [hw]
      show (Array.push _ _).size = _
      rw [Array.size_push, hd]
    · intro k hk
      rw [hw]
      exact (heap_alloc_old _ _ (by rw [hd]; omega)).trans (heap_alloc_old W _ hk)
    · rw [hw, ← hd]
      exact heap_alloc_new _ _
    · rw [hw]; exact ⟨rfl, rfl, rfl⟩
  rcases hC with ⟨rfl, rfl⟩ | ⟨cb, cap0, cur, rfl, h1, h2, h3, h4, h5, h6⟩
  · have hr := run_append_nil (P := Tryz.prog) (W.alloc (.cells vz.toArray TV)) 62 o.type TV i0 z ht hi hz ⟨W.heap.size, 0, none⟩ 1 1 vz (by rw [hsz]; rfl) hnew (by omega) (by omega) (by rw [hby]; omega)
    refine Lib.wpList_append_run _ hgd s x _ _ ho _ _ hs hx _ _ hr ?_
    rw [hsize]
    exact fin [] _ rfl (grownCap_ge _ _ _ _) (grownCap_le_maxLen _ _ _ _ (by simp [maxLen])) _ rfl
  · rcases hF with hF | ⟨cb', hF⟩
    · cases hF
    injection hF with e1 e2 e3
    have e4 : n = cap0 := e3.symm
    subst e4
    have hol : (cur.toList.take (n * 5)).length = n * 5 := by rw [List.length_take, Array.length_toList, h4]; omega
    have hcl : cb < W.heap.size := by
      refine Nat.lt_of_not_le fun hle => ?_
      rw [Array.getElem?_eq_none hle] at h1
      cases h1
    have hold : ∀ j v, (cur.toList.take (n * 5))[j]? = some v → (W.alloc (.cells vz.toArray TV)).cell? ((⟨cb, 0, none⟩ : Addr).add j) = some v := fun j v hj => by
      rw [add_plain, World.cell?_alloc_lt W _ _ (by exact hcl)]
      rw [List.getElem?_take] at hj
      split at hj
      · simp [World.cell?, h1, ← hj]
      · cases hj
    have hr := run_append_grow (P := Tryz.prog) (W.alloc (.cells vz.toArray TV)) 62 o.type TV i0 z ht hi hz ⟨cb, 0, none⟩ n n (cur.toList.take (n * 5)) (by rw [hsz]; exact hol) hold ⟨W.heap.size, 0, none⟩ 1 1 vz (by rw [hsz]; rfl) hnew (by omega) (by omega) (by rw [hby]; exact growslice_fits (by omega) (by omega))
    refine Lib.wpList_append_run _ hgd s x _ _ ho _ _ hs hx _ _ hr ?_
    rw [hsize]
    exact fin _ _ hol (grownCap_ge _ _ _ _) (grownCap_le_maxLen _ _ _ _ (by simp only [maxLen]; omega)) _ rfl
/-- What getValue leaves. -/
structure Got (pb n : Nat) (bv v : Value) (w : World) (b : Nat) (v' : Value) (w' : World) : Prop where
  own : v'.ownBlock = some b
  pbs : Pb w' pb bv v'
  ca : Ca w' pb (n + 1) v'
  step : Step pb n v w w'
  up : Up n (n + 1) v v' w
  zero : Zer w' b (n * 5)
  blt : ∃ cur, w'.heap[b]? = some (.cells cur TV (0, 0))
theorem Got.drewN {pb n b : Nat} {bv v v' : Value} {w w' : World} (h : Got pb n bv v w b v' w') (m : Nat) : Got pb n bv v w b v' (w'.drewN m) :=
  ⟨h.own, h.pbs, h.ca, ⟨h.step.out, h.step.size, h.step.blk, h.step.cel⟩, h.up, h.zero, h.blt⟩
theorem Got.same {pb n b : Nat} {bv v v' : Value} {w w' w2 : World} (h : Got pb n bv v w b v' w') (e1 : w2.heap = w'.heap) (e2 : w2.os = w'.os ∧ w2.tape = w'.tape ∧ w2.output = w'.output) : Got pb n bv v w b v' w2 := by
  have hc : ∀ x, w2.cell? x = w'.cell? x := fun x => by simp [World.cell?, e1]
  refine ⟨h.own, ?_, ?_, ⟨⟨e2.1.trans h.step.out.1, e2.2.1.trans h.step.out.2.1, e2.2.2.trans h.step.out.2.2⟩, by rw [e1]; exact h.step.size, fun k h1 h2 h3 => by rw [e1]; exact h.step.blk k h1 h2 h3, fun cb h1 cur h2 => by rw [e1]; exact h.step.cel cb h1 cur h2⟩, h.up, fun i hi => (hc _).trans (h.zero i hi), ?_⟩
  · have := h.pbs; unfold Pb at this ⊢; rw [e1]; exact this
  · have := h.ca; unfold Ca at this ⊢; rw [e1]; exact this
  · rw [e1]; exact h.blt
theorem got_new {w w3 : World} {pb n cap : Nat} {bv v : Value} {cur : Array Value} (hP : Pb w pb bv v) (hC : Ca w pb n v) (r1 : n + 1 ≤ cap) (r2 : cap ≤ maxLen) (r3 : cur.size = cap * 5) (r4 : ∀ j i, n ≤ j → j < cap → i < 5 → cur[j * 5 + i]? = vz[i]?)
    (r5 : w3.heap.size = w.heap.size + 2) (r6 : ∀ k, k < w.heap.size → w3.heap[k]? = w.heap[k]?) (r7 : w3.heap[w.heap.size + 1]? = some (.cells cur TV (0, 0))) (r8 : w3.os = w.os ∧ w3.tape = w.tape ∧ w3.output = w.output) :
    Got pb n bv v w (w.heap.size + 1) (.slice (some ⟨w.heap.size + 1, 0, none⟩) (n + 1) cap) (w3.setCell ⟨pb, 1, none⟩ (.slice (some ⟨w.heap.size + 1, 0, none⟩) (n + 1) cap)) := by
  have hl := hP.lt
  have P3 : Pb w3 pb bv v := (r6 pb hl).trans hP
  have h7 : ∀ u, (w3.setCell ⟨pb, 1, none⟩ u).heap[w.heap.size + 1]? = some (.cells cur TV (0, 0)) := fun u => (heap_other _ _ _ _ _ (by omega)).trans r7
  refine ⟨rfl, P3.set _, .inr ⟨_, cap, cur, rfl, h7 _, r1, r2, r3, by omega, fun j i h1 h2 h3 => r4 j i (by omega) h2 h3⟩, ⟨r8, by rw [set_size, r5]; omega, fun k h1 h2 h3 => (heap_other _ _ _ _ _ h2).trans (r6 k h1), fun cb h1 c2 h2 => ?_⟩, ⟨Nat.le_succ _, .inr ⟨_, rfl, Nat.le_succ _⟩⟩, fun i hi => ?_, cur, h7 _⟩
  · have := hC.lt h1
    exact ⟨c2, ((heap_other _ _ _ _ _ this.2.1).trans (r6 cb this.1)).trans h2, rfl, fun _ _ => rfl⟩
  · simp only [World.cell?, h7]
    exact r4 n i (Nat.le_refl _) (by omega) hi
theorem got_room {w : World} {pb n cb cap : Nat} {bv : Value} (hP : Pb w pb bv (.slice (some ⟨cb, 0, none⟩) n cap)) (hC : Ca w pb n (.slice (some ⟨cb, 0, none⟩) n cap)) (hlt : n < cap) :
    Got pb n bv (.slice (some ⟨cb, 0, none⟩) n cap) w cb (.slice (some ⟨cb, 0, none⟩) (n + 1) cap) (w.setCell ⟨pb, 1, none⟩ (.slice (some ⟨cb, 0, none⟩) (n + 1) cap)) := by
  rcases hC with ⟨_, h⟩ | ⟨cb', cap', cur, h0, h1, h2, h3, h4, h5, h6⟩
  · cases h
  injection h0 with a1 a2 a3
  injection a1 with a1
  injection a1 with a1
  subst a1 a3
  have h7 : ∀ u, (w.setCell ⟨pb, 1, none⟩ u).heap[cb]? = some (.cells cur TV (0, 0)) := fun u => (heap_other _ _ _ _ _ h5).trans h1
  refine ⟨rfl, hP.set _, .inr ⟨_, cap, cur, rfl, h7 _, hlt, h3, h4, h5, fun j i g1 g2 g3 => h6 j i (by omega) g2 g3⟩, ⟨⟨rfl, rfl, rfl⟩, by rw [set_size]; exact Nat.le_refl _, fun k g1 g2 g3 => heap_other _ _ _ _ _ g2, fun cb2 g1 c2 g2 => ?_⟩, ⟨Nat.le_succ _, .inl rfl⟩, fun i hi => ?_, cur, h7 _⟩
  · simp only [Value.ownBlock, Option.some.injEq] at g1
    subst g1
    exact ⟨c2, (heap_other _ _ _ _ _ h5).trans g2, rfl, fun _ _ => rfl⟩
  · simp only [World.cell?, h7]
    exact h6 n i (Nat.le_refl _) hlt hi
set_option maxHeartbeats 4000000 in
set_option maxRecDepth 100000 in
theorem getValue (w : World) (pb n : Nat) (bv v : Value) (hP : Pb w pb bv v) (hC : Ca w pb n v) (hn : n ≤ 1000000) :
    Calls Tryz.prog 124 #[.pointer (some ⟨pb, 1, none⟩)] w fun e w' => ∃ b v', e = .returned (.pointer (some ⟨b, n * 5, none⟩)) ∧ Got pb n bv v w b v' w' := by
  have HP := Aside0.mk hP
  have HC := Aside0.mk hC
  have hc0 := HP.out.cell
  have hf0 := HP.out.free 1
  clear hP
  rcases hC with ⟨rfl, rfl⟩ | ⟨cb, cap, cur, rfl, h1, h2, h3, h4, h5, h6⟩
  · go_enter Tryz.func124, Tryz.ntmps124
    go_wp2
    go_quiet (fail)
    go_wp2_with (at_builtin; refine wp_grow _ pb 0 nilS HC.out (.inl rfl) hn rfl _ _ rfl rfl rfl ?_; intro cap1 cur1 w3 r1 r2 r3 r4 r5 r6 r7 r8; have HG := Aside0.mk (got_new HP.out HC.out r1 r2 r3 r4 r5 r6 r7 r8); have P3 : Aside0 (Pb w3 pb bv nilS) := ⟨(r6 pb HP.out.lt).trans HP.out⟩; have hc3 := P3.out.cell; have hf3 := P3.out.free 1; clear r1 r2 r3 r4 r5 r6 r7 r8 hc0 hf0)
    go_quiet (fail)
    go_wp2
    go_ret
    exact ⟨_, _, rfl, HG.out.drewN _⟩
  · have b1 : (n : Int) ≤ 1000000 := by omega
    clear h1 h4 h5 h6
    by_cases hlt : n < cap
    · have q1 : decide ((n : Int) < (cap : Int)) = true := decide_eq_true (by omega)
      have q2 : ((n : Int) + 1 ≤ (cap : Int)) = True := eq_true (by omega)
      have HG := Aside0.mk (got_room HP.out HC.out hlt)
      go_enter Tryz.func124, Tryz.ntmps124
      go_wp2
      go_quiet (fail)
      go_wp2
      go_region
      all_goals
        have hc3 := (got_room HP.out HC.out hlt).pbs.cell
        go_wp2
        go_quiet (fail)
        go_wp2
        go_ret
        exact ⟨_, _, rfl, HG.out.same rfl ⟨rfl, rfl, rfl⟩⟩
    · obtain rfl : cap = n := by omega
      have q1 : decide ((cap : Int) < (cap : Int)) = false := decide_eq_false (by omega)
      go_enter Tryz.func124, Tryz.ntmps124
      go_wp2
      go_quiet (fail)
      go_wp2_with (at_builtin; refine wp_grow _ pb cap (.slice (some ⟨cb, 0, none⟩) cap cap) HC.out (.inr ⟨_, rfl⟩) hn rfl _ _ rfl rfl rfl ?_; intro cap1 cur1 w3 r1 r2 r3 r4 r5 r6 r7 r8; have HG := Aside0.mk (got_new HP.out HC.out r1 r2 r3 r4 r5 r6 r7 r8); have P3 : Aside0 (Pb w3 pb bv (.slice (some ⟨cb, 0, none⟩) cap cap)) := ⟨(r6 pb HP.out.lt).trans HP.out⟩; have hc3 := P3.out.cell; have hf3 := P3.out.free 1; clear r1 r2 r3 r4 r5 r6 r7 r8 hc0 hf0)
      go_quiet (fail)
      go_wp2
      go_ret
      exact ⟨_, _, rfl, HG.out.drewN _⟩
end Go.Proofs.YtlhaefblchpjhaaGreatDoor.Fp
end
section
namespace Go.Proofs.YtlhaefblchpjhaaGreatDoor.FjW
open Go.RowKit Go.Proofs.YtlhaefblchpjhaaGreatDoorW.PrintWords Go.Proofs.YtlhaefblchpjhaaGreatDoorW.PrintLast Go.Proofs.YtlhaefblchpjhaaGreatDoorW.PrintMore
attribute [local go_sem] max2_int min2_int max_two min_two max_three min_three max_four min_four
set_option linter.unusedVariables false
set_option linter.unusedSimpArgs false
/-- A text from its byte m on. -/
abbrev cut (a : ByteArray) (m : Nat) : ByteArray := a.extract m a.size
theorem bt_out (s : ByteArray) (i : Int) (h : s.size ≤ i) : bt s i = 0 := by
  rw [← rd_bytesOf]
  exact Base.rd_out _ _ (by rw [bytesOf_length]; omega)
theorem cut_bytes (a : ByteArray) (m : Nat) : bytesOf (cut a m) = (bytesOf a).drop m := by
  unfold bytesOf
  rw [ByteArray.data_extract, Array.toList_extract, List.extract_eq_take_drop, ← List.map_drop, List.take_of_length_le (by rw [List.length_drop, data_length]; omega)]
theorem cut_size (a : ByteArray) (m : Nat) : (cut a m).size = a.size - m := by
  rw [← bytesOf_length, cut_bytes, List.length_drop, bytesOf_length]
theorem cut_zero (a : ByteArray) : cut a 0 = a := Base.bytes_inj (by rw [cut_bytes, List.drop_zero])
theorem cut_cut (a : ByteArray) (m n : Nat) : cut (cut a m) n = cut a (m + n) := Base.bytes_inj (by rw [cut_bytes, cut_bytes, cut_bytes, List.drop_drop])
theorem cut_end (a : ByteArray) (m : Nat) (h : a.size ≤ m) : cut a m = ⟨#[]⟩ := Base.bytes_inj (by rw [cut_bytes, List.drop_of_length_le (by rw [bytesOf_length]; exact h)]; rfl)
/-- The bytes of s from p on. -/
abbrev D (s : ByteArray) (p : Nat) : List Int := (bytesOf s).drop p
theorem cut_D (a : ByteArray) (m p : Nat) : D (cut a m) p = D a (m + p) := by rw [D, cut_bytes, List.drop_drop]
theorem rd_D (s : ByteArray) (p j : Nat) : rd (D s p) (j : Int) = bt s ((p + j : Nat) : Int) := by
  rw [← rd_bytesOf]
  unfold rd
  simp only [Int.toNat_natCast, List.getD_eq_getElem?_getD, List.getElem?_drop]
theorem rd_D0 (s : ByteArray) (p : Nat) : rd (D s p) 0 = bt s (p : Int) := rd_D s p 0
theorem cut_bt (a : ByteArray) (m j : Nat) : bt (cut a m) (j : Int) = bt a ((m + j : Nat) : Int) := by
  rw [← rd_bytesOf, cut_bytes, rd_D]
theorem D_cons (s : ByteArray) (p : Nat) (h : p < s.size) : D s p = bt s (p : Int) :: D s (p + 1) := by
  have hl : p < (bytesOf s).length := by rw [bytesOf_length]; exact h
  have e : (bytesOf s)[p]'hl = bt s (p : Int) := by
    rw [← rd_bytesOf]
    unfold rd
    simp only [Int.toNat_natCast, List.getD_eq_getElem?_getD]
    rw [List.getElem?_eq_getElem hl]
    rfl
  rw [← e]
  exact List.drop_eq_getElem_cons hl
theorem D_nil (s : ByteArray) (p : Nat) (h : s.size ≤ p) : D s p = [] := List.drop_of_length_le (by rw [bytesOf_length]; exact h)
theorem D_drop (s : ByteArray) (p m : Nat) : (D s p).drop m = D s (p + m) := by rw [List.drop_drop]
theorem D_len (s : ByteArray) (p : Nat) : (D s p).length = s.size - p := by rw [List.length_drop, bytesOf_length]
theorem ws_at (s : ByteArray) (p : Nat) : Fj.ws (D s p) = if p < s.size ∧ Fj.blank (bt s (p : Int)) = true then Fj.ws (D s (p + 1)) + 1 else 0 := by
  by_cases h : p < s.size
  · rw [D_cons s p h, Fj.ws]
    by_cases b : Fj.blank (bt s (p : Int)) = true
    · rw [if_pos b, if_pos ⟨h, b⟩]
    · rw [if_neg b, if_neg (fun x => b x.2)]
  · rw [D_nil s p (by omega), if_neg (fun x => h x.1)]; rfl
theorem blank_no {c : Int} (h1 : (c == 32) = false) (h2 : (c == 10) = false) (h3 : (c == 9) = false) (h4 : (c == 13) = false) : Fj.blank c = false := by
  unfold Fj.blank; rw [h1, h2, h3, h4]; rfl
/-- A byte is one of the four blanks, or none. -/
theorem blank_or (c : Int) : (c = 32 ∧ Fj.blank c = true) ∨ ((c != 32) = true ∧ c = 10 ∧ Fj.blank c = true) ∨ ((c != 32) = true ∧ (c != 10) = true ∧ c = 9 ∧ Fj.blank c = true) ∨
    ((c != 32) = true ∧ (c != 10) = true ∧ (c != 9) = true ∧ c = 13 ∧ Fj.blank c = true) ∨ ((c != 32) = true ∧ (c != 10) = true ∧ (c != 9) = true ∧ (c != 13) = true ∧ Fj.blank c = false) := by
  by_cases a : c = 32
  · subst a; exact .inl ⟨rfl, rfl⟩
  · by_cases b : c = 10
    · subst b; exact .inr (.inl ⟨bne_iff_ne.mpr a, rfl, rfl⟩)
    · by_cases d : c = 9
      · subst d; exact .inr (.inr (.inl ⟨bne_iff_ne.mpr a, bne_iff_ne.mpr b, rfl, rfl⟩))
      · by_cases e : c = 13
        · subst e; exact .inr (.inr (.inr (.inl ⟨bne_iff_ne.mpr a, bne_iff_ne.mpr b, bne_iff_ne.mpr d, rfl, rfl⟩)))
        · exact .inr (.inr (.inr (.inr ⟨bne_iff_ne.mpr a, bne_iff_ne.mpr b, bne_iff_ne.mpr d, bne_iff_ne.mpr e, blank_no (beq_eq_false_iff_ne.mpr a) (beq_eq_false_iff_ne.mpr b) (beq_eq_false_iff_ne.mpr d) (beq_eq_false_iff_ne.mpr e)⟩)))
set_option maxHeartbeats 1000000 in
theorem errNew (t : ByteArray) (w : World) :
    Calls Tryz.prog 72 #[.string t] w fun e w' => (∃ T u, e = .returned (.iface T u)) ∧ Below w.heap.size w w' := by
  have HB := Aside0.mk (Below.refl w.heap.size w)
  go_enter Tryz.func72, Tryz.ntmps72
  go_wp2
  go_ret
  exact ⟨⟨_, _, rfl⟩, below_alloc (Below.refl _ _) _⟩
set_option maxHeartbeats 2000000 in
theorem skipSlow (a : ByteArray) (hs : a.size ≤ 1000000) (w : World) :
    Calls Tryz.prog 119 #[.string a] w fun e w' => e = .returned (.string (cut a (Fj.ws (bytesOf a)))) ∧ w' = w := by
  have HS := Aside0.mk hs
  by_cases h0 : a.size = 0
  · have HC : Aside0 (cut a (Fj.ws (bytesOf a)) = a) := ⟨by
      have : Fj.ws (bytesOf a) = 0 := by
        have := Fj.ws_le (bytesOf a)
        rw [bytesOf_length] at this
        omega
      rw [this, cut_zero]⟩
    have e1 : ((a.size : Int) == 0) = true := beq_iff_eq.mpr (by omega)
    clear h0 hs
    go_enter Tryz.func119, Tryz.ntmps119
    go_wp2
    go_ret
    exact ⟨by rw [HC.out]; rfl, rfl⟩
  · have e1 : ((a.size : Int) == 0) = false := beq_eq_false_iff_ne.mpr (by omega)
    have hz : 0 < a.size := by omega
    clear h0
    have W0 : Fj.ws (bytesOf a) = if 0 < a.size ∧ Fj.blank (bt a 0) = true then Fj.ws (D a 1) + 1 else 0 := ws_at a 0
    have hx : ∀ h : 0 < a.size, ((a[0]'h).toNat : Int) = bt a 0 := bt_at a 0
    rcases blank_or (bt a 0) with ⟨f1, hb⟩ | ⟨f1, f2, hb⟩ | ⟨f1, f2, f3, hb⟩ | ⟨f1, f2, f3, f4, hb⟩ | ⟨f1, f2, f3, f4, hb⟩
    rotate_right 1
    · have HC : Aside0 (cut a (Fj.ws (bytesOf a)) = a) := ⟨by
        rw [W0, if_neg (by rw [hb]; simp), cut_zero]⟩
      clear W0 hb
      go_enter Tryz.func119, Tryz.ntmps119
      go_wp2
      go_ret
      exact ⟨by rw [HC.out]; rfl, rfl⟩
    all_goals
      have HW : Aside0 (Fj.ws (bytesOf a) = 1 + Fj.ws (D a 1)) := ⟨by
        rw [W0, if_pos ⟨hz, hb⟩]; omega⟩
      clear W0 hb
      go_enter Tryz.func119, Tryz.ntmps119
      go_wp2
      clear hx
      go_loop [3] (fun v => ∃ j : Nat, v = .int .i64 (j : Int) ∧ 1 ≤ j ∧ j ≤ a.size ∧ Aside0 (Fj.ws (bytesOf a) = j + Fj.ws (D a j))) (fun v => a.size - (intOf v).toNat)
      case atStart => exact ⟨1, rfl, Nat.le_refl _, by omega, HW⟩
      case round =>
        clear HW
        clear f1
        obtain ⟨j, rfl, hj1, hj2, HW⟩ := hrel
        by_cases hlt : j < a.size
        · have hx : ∀ h : j < a.size, ((a[j]'h).toNat : Int) = bt a (j : Int) := bt_at a (j : Int)
          have W1 := ws_at a j
          rcases blank_or (bt a (j : Int)) with ⟨g1, hb⟩ | ⟨g1, g2, hb⟩ | ⟨g1, g2, g3, hb⟩ | ⟨g1, g2, g3, g4, hb⟩ | ⟨g1, g2, g3, g4, hb⟩
          rotate_right 1
          · have HC : Aside0 (Fj.ws (bytesOf a) = j) := ⟨by rw [HW.out, W1, if_neg (by rw [hb]; simp), Nat.add_zero]⟩
            clear W1 hb
            go_wp2
            go_ret
            exact ⟨by rw [HC.out]; rfl, rfl⟩
          all_goals
            have HW' : Aside0 (Fj.ws (bytesOf a) = j + 1 + Fj.ws (D a (j + 1))) := ⟨by rw [HW.out, W1, if_pos ⟨hlt, hb⟩]; omega⟩
            clear W1 hb HW
            go_wp2
            go_round
            case rel => exact ⟨j + 1, by go_num, by omega, by omega, HW'⟩
            case measure => simp [intOf]; omega
        · have HC : Aside0 (cut a (Fj.ws (bytesOf a)) = ⟨#[]⟩) := ⟨by rw [HW.out]; exact cut_end a _ (by omega)⟩
          obtain rfl : j = a.size := by omega
          clear hlt HW
          go_wp2
          go_ret
          exact ⟨by rw [HC.out]; rfl, rfl⟩
theorem skipWS (a : ByteArray) (hs : a.size ≤ 1000000) (w : World) :
    Calls Tryz.prog 68 #[.string a] w fun e w' => e = .returned (.string (cut a (Fj.ws (bytesOf a)))) ∧ w' = w := by
  have HS := Aside0.mk hs
  by_cases h0 : a.size = 0
  · have e1 : ((a.size : Int) == 0) = true := beq_iff_eq.mpr (by omega)
    have HC : Aside0 (cut a (Fj.ws (bytesOf a)) = a) := ⟨by
      have : Fj.ws (bytesOf a) = 0 := by
        have := Fj.ws_le (bytesOf a)
        rw [bytesOf_length] at this
        omega
      rw [this, cut_zero]⟩
    clear h0 hs
    go_enter Tryz.func68, Tryz.ntmps68
    go_wp2
    go_ret
    exact ⟨by rw [HC.out]; rfl, rfl⟩
  · have e1 : ((a.size : Int) == 0) = false := beq_eq_false_iff_ne.mpr (by omega)
    have hz : 0 < a.size := by omega
    clear h0
    have W0 : Fj.ws (bytesOf a) = if 0 < a.size ∧ Fj.blank (bt a 0) = true then Fj.ws (D a 1) + 1 else 0 := ws_at a 0
    have hx : ∀ h : 0 < a.size, ((a[0]'h).toNat : Int) = bt a 0 := bt_at a 0
    by_cases c : 32 < bt a 0
    · have e2 : decide (32 < bt a 0) = true := decide_eq_true c
      have HC : Aside0 (cut a (Fj.ws (bytesOf a)) = a) := ⟨by
        have hb : Fj.blank (bt a 0) = false := blank_no (beq_eq_false_iff_ne.mpr (by omega)) (beq_eq_false_iff_ne.mpr (by omega)) (beq_eq_false_iff_ne.mpr (by omega)) (beq_eq_false_iff_ne.mpr (by omega))
        rw [W0, if_neg (by rw [hb]; simp), cut_zero]⟩
      clear W0 c
      go_enter Tryz.func68, Tryz.ntmps68
      go_wp2
      go_ret
      exact ⟨by rw [HC.out]; rfl, rfl⟩
    · have e2 : decide (32 < bt a 0) = false := decide_eq_false c
      clear W0 c
      go_enter Tryz.func68, Tryz.ntmps68
      go_wp2_with (first | (go_at_call 119; (with_reducible refine (skipSlow a HS.out _).mono ?_); rintro e w' ⟨rfl, rfl⟩))
      go_ret
      exact ⟨rfl, rfl⟩
end Go.Proofs.YtlhaefblchpjhaaGreatDoor.FjW
end
