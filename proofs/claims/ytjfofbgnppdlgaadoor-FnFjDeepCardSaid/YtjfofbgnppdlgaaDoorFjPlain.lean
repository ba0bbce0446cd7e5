/- JSON values at the beginning of a list of bytes, as fastjson's Validate takes them (a first zero has no digit behind it): how many bytes they have. -/
import Derived.Test.YtjfofbgnppdlgaaDoorBase
import Derived.Test.YtjfofbgnppdlgaaDoorWLast
namespace Go.Proofs.YtjfofbgnppdlgaaDoor.Fj
open Go.RowKit Go.Proofs.YtjfofbgnppdlgaaDoorW.PrintWords Go.Proofs.YtjfofbgnppdlgaaDoorW.PrintLast
set_option linter.unusedVariables false
set_option linter.unusedSimpArgs false

def blank (c : Int) : Bool := c == 32 || (c == 10 || (c == 9 || c == 13))
/-- How many blanks lead. -/
def ws : List Int → Nat
  | [] => 0
  | c :: r => if blank c = true then ws r + 1 else 0
def digs : List Int → Nat
  | [] => 0
  | c :: r => if 48 ≤ c ∧ c ≤ 57 then digs r + 1 else 0
def expo (l : List Int) (m : Nat) : Option Nat :=
  if rd l (m : Int) = 101 ∨ rd l (m : Int) = 69 then
    if rd l ((m + 1 : Nat) : Int) = 45 ∨ rd l ((m + 1 : Nat) : Int) = 43 then (if digs (l.drop (m + 2)) = 0 then none else some (m + 2 + digs (l.drop (m + 2))))
    else (if digs (l.drop (m + 1)) = 0 then none else some (m + 1 + digs (l.drop (m + 1))))
  else some m
def frac (l : List Int) (m : Nat) : Option Nat :=
  if rd l (m : Int) = 46 then (if digs (l.drop (m + 1)) = 0 then none else expo l (m + 1 + digs (l.drop (m + 1)))) else expo l m
def whole (l : List Int) (s : Nat) : Option Nat :=
  if digs (l.drop s) = 0 then none else if rd l (s : Int) = 48 ∧ digs (l.drop s) ≠ 1 then none else frac l (s + digs (l.drop s))
def num (l : List Int) : Option Nat := if rd l 0 = 45 then whole l 1 else whole l 0
def simple8 (c : Int) : Bool := c == 34 || (c == 92 || (c == 47 || (c == 98 || (c == 102 || (c == 110 || (c == 114 || c == 116))))))
def hexd (c : Int) : Bool := decide (48 ≤ c ∧ c ≤ 57) || (decide (97 ≤ c ∧ c ≤ 102) || decide (65 ≤ c ∧ c ≤ 70))
/-- The closing quote of the inside of a string: where it stands, by backslashes alone. -/
def qend : List Int → Option Nat
  | [] => none
  | [c] => if c = 34 then some 0 else none
  | c :: d :: r => if c = 34 then some 0 else if c = 92 then (qend r).map (· + 2) else (qend (d :: r)).map (· + 1)
/-- The inside of a string and its closing quote: how many bytes (RFC 8259, section 7). -/
def quo : List Int → Option Nat
  | [] => none
  | c :: r => if c = 34 then some 1 else if c < 32 then none else if c = 92 then (match r with
      | [] => none
      | d :: r2 => if simple8 d = true then (quo r2).map (· + 2) else if d = 117 then (match r2 with
          | a :: b :: e :: f :: r3 => if (hexd a && (hexd b && (hexd e && hexd f))) = true then (quo r3).map (· + 6) else none
          | _ => none) else none)
    else (quo r).map (· + 1)
def begins (w l : List Int) : Bool := l.take w.length == w
mutual
/-- A value. -/
def val : Nat → List Int → Option Nat
  | 0, _ => none
  | k + 1, l =>
    if l = [] then none else if rd l 0 = 123 then (if rd (l.drop 1) (ws (l.drop 1) : Int) = 125 then some (ws (l.drop 1) + 2) else (mems k (l.drop 1)).map (· + 1))
    else if rd l 0 = 91 then (if rd (l.drop 1) (ws (l.drop 1) : Int) = 93 then some (ws (l.drop 1) + 2) else (elems k (l.drop 1)).map (· + 1))
    else if rd l 0 = 34 then (quo (l.drop 1)).map (· + 1)
    else if rd l 0 = 116 then (if begins [116, 114, 117, 101] l = true then some 4 else none)
    else if rd l 0 = 102 then (if begins [102, 97, 108, 115, 101] l = true then some 5 else none)
    else if rd l 0 = 110 then (if begins [110, 117, 108, 108] l = true then some 4 else none)
    else num l
/-- The elements of an array, with the bracket that closes it. -/
def elems : Nat → List Int → Option Nat
  | 0, _ => none
  | k + 1, l => match val k (l.drop (ws l)) with
    | none => none
    | some v =>
      let m := ws l + v
      let n := m + ws (l.drop m)
      if rd l (n : Int) = 44 then (elems k (l.drop (n + 1))).map (· + (n + 1)) else if rd l (n : Int) = 93 then some (n + 1) else none
/-- The members of an object, with the brace that closes it. -/
def mems : Nat → List Int → Option Nat
  | 0, _ => none
  | k + 1, l =>
    let a := ws l
    if rd l (a : Int) = 34 then match quo (l.drop (a + 1)) with
      | none => none
      | some q =>
        let b := a + 1 + q
        let c := b + ws (l.drop b)
        if rd l (c : Int) = 58 then match val k ((l.drop (c + 1)).drop (ws (l.drop (c + 1)))) with
          | none => none
          | some v =>
            let m := c + 1 + ws (l.drop (c + 1)) + v
            let n := m + ws (l.drop m)
            if rd l (n : Int) = 44 then (mems k (l.drop (n + 1))).map (· + (n + 1)) else if rd l (n : Int) = 125 then some (n + 1) else none
        else none
    else none
end

theorem ws_le : ∀ l, ws l ≤ l.length
  | [] => Nat.le_refl _
  | c :: r => by
    have := ws_le r
    rw [ws]; split <;> simp only [List.length_cons] <;> omega
theorem digs_le : ∀ l, digs l ≤ l.length
  | [] => Nat.le_refl _
  | c :: r => by
    have := digs_le r
    rw [digs]; split <;> simp only [List.length_cons] <;> omega

end Go.Proofs.YtjfofbgnppdlgaaDoor.Fj
