/- What fastjson's Parse reads, as plain functions on lists of bytes. -/
import Derived.Test.YtjfofbgnppdlgaaDoorFjPlain
namespace Go.Proofs.YtjfofbgnppdlgaaDoor.Fp
open Go.RowKit Go.Proofs.YtjfofbgnppdlgaaDoorW.PrintWords Go.Proofs.YtjfofbgnppdlgaaDoorW.PrintLast
set_option linter.unusedVariables false
set_option linter.unusedSimpArgs false

/-- A value of fastjson: a word's kind, a string's inside and a number's bytes as they stand, elements, members. -/
inductive FV
  | lit (t : Int)
  | str (s : List Int)
  | num (s : List Int)
  | arr (l : List FV)
  | obj (l : List (List Int × FV))
/-- The bytes of which fastjson's numbers are made. -/
def nb (c : Int) : Bool := decide (48 ≤ c ∧ c ≤ 57) || (c == 46 || (c == 45 || (c == 101 || (c == 69 || c == 43))))
def nlen : List Int → Nat
  | [] => 0
  | c :: r => if nb c = true then nlen r + 1 else 0
def low (c : Int) : Int := if 65 ≤ c ∧ c ≤ 90 then c + 32 else c
/-- Three bytes, in any case of letters. -/
def fold3 (l : List Int) (a b c : Int) : Bool := decide (3 ≤ l.length) && (low (rd l 0) == a && (low (rd l 1) == b && low (rd l 2) == c))
def rawNum (l : List Int) : Option Nat :=
  if nlen l = l.length then some l.length
  else if nlen l = 0 ∨ (nlen l = 1 ∧ (rd l 0 = 45 ∨ rd l 0 = 43)) then
    (if (fold3 (l.drop (nlen l)) 105 110 102 || fold3 (l.drop (nlen l)) 110 97 110) = true then some (nlen l + 3) else none)
  else some (nlen l)
mutual
/-- A value behind d levels. -/
def pval : Nat → Nat → List Int → Option (FV × Nat)
  | 0, _, _ => none
  | k + 1, d, l =>
    if l = [] then none else if 300 < d + 1 then none
    else if rd l 0 = 123 then (if rd (l.drop 1) (Fj.ws (l.drop 1) : Int) = 125 then some (.obj [], Fj.ws (l.drop 1) + 2) else (pmems k (d + 1) (l.drop 1)).map fun r => (.obj r.1, r.2 + 1))
    else if rd l 0 = 91 then (if rd (l.drop 1) (Fj.ws (l.drop 1) : Int) = 93 then some (.arr [], Fj.ws (l.drop 1) + 2) else (pels k (d + 1) (l.drop 1)).map fun r => (.arr r.1, r.2 + 1))
    else if rd l 0 = 34 then (Fj.qend (l.drop 1)).map fun q => (.str ((l.drop 1).take q), q + 2)
    else if rd l 0 = 116 then (if Fj.begins [116, 114, 117, 101] l = true then some (.lit 5, 4) else none)
    else if rd l 0 = 102 then (if Fj.begins [102, 97, 108, 115, 101] l = true then some (.lit 6, 5) else none)
    else if rd l 0 = 110 then (if Fj.begins [110, 117, 108, 108] l = true then some (.lit 0, 4) else if fold3 l 110 97 110 = true then some (.num (l.take 3), 3) else none)
    else (rawNum l).map fun n => (.num (l.take n), n)
/-- The elements, with the bracket that closes them. -/
def pels : Nat → Nat → List Int → Option (List FV × Nat)
  | 0, _, _ => none
  | k + 1, d, l => match pval k d (l.drop (Fj.ws l)) with
    | none => none
    | some v =>
      let m := Fj.ws l + v.2
      let n := m + Fj.ws (l.drop m)
      if rd l (n : Int) = 44 then (pels k d (l.drop (n + 1))).map fun r => (v.1 :: r.1, r.2 + (n + 1)) else if rd l (n : Int) = 93 then some ([v.1], n + 1) else none
/-- The members, with the brace that closes them. -/
def pmems : Nat → Nat → List Int → Option (List (List Int × FV) × Nat)
  | 0, _, _ => none
  | k + 1, d, l =>
    let a := Fj.ws l
    if rd l (a : Int) = 34 then match Fj.qend (l.drop (a + 1)) with
      | none => none
      | some q =>
        let b := a + 1 + (q + 1)
        let c := b + Fj.ws (l.drop b)
        if rd l (c : Int) = 58 then match pval k d ((l.drop (c + 1)).drop (Fj.ws (l.drop (c + 1)))) with
          | none => none
          | some v =>
            let m := c + 1 + Fj.ws (l.drop (c + 1)) + v.2
            let n := m + Fj.ws (l.drop m)
            if rd l (n : Int) = 44 then (pmems k d (l.drop (n + 1))).map fun r => (((l.drop (a + 1)).take q, v.1) :: r.1, r.2 + (n + 1)) else if rd l (n : Int) = 125 then some ([((l.drop (a + 1)).take q, v.1)], n + 1) else none
        else none
    else none
end

end Go.Proofs.YtjfofbgnppdlgaaDoor.Fp
