/- The end of a string between quotes, as jsonparser seeks it: plain facts on a list of bytes. -/
import Derived.Test.YtlpcjgjphkdnbaaDoorBase
import Derived.Test.YtlpcjgjphkdnbaaDoorSwar
import Derived.Test.YtlpcjgjphkdnbaaDoorWLast
namespace Go.Proofs.YtlpcjgjphkdnbaaDoor.StrEnd
open Go.RowKit Go.Proofs.YtlpcjgjphkdnbaaDoorW.PrintWords Go.Proofs.YtlpcjgjphkdnbaaDoorW.PrintLast
set_option linter.unusedVariables false
set_option linter.unusedSimpArgs false

/-- The byte at p stands behind an odd number of backslashes. -/
def escd (l : List Int) : Nat → Bool
  | 0 => false
  | p + 1 => (rd l (p : Int) == 92) && !escd l p
theorem escd_not {l : List Int} {p : Nat} (h : rd l (p : Int) ≠ 92) : escd l (p + 1) = false := by
  rw [escd, beq_eq_false_iff_ne.mpr h]; rfl
theorem escd_yes {l : List Int} {p : Nat} (h : rd l (p : Int) = 92) : escd l (p + 1) = !escd l p := by
  rw [escd, beq_iff_eq.mpr h]; rfl
theorem escd_free {l : List Int} : ∀ p : Nat, (∀ j, j < p → rd l (j : Int) ≠ 92) → escd l p = false
  | 0, _ => rfl
  | p + 1, h => escd_not (h p (by omega))
/-- A backslash stands ahead of p. -/
def bsl (l : List Int) : Nat → Bool
  | 0 => false
  | p + 1 => (rd l (p : Int) == 92) || bsl l p
theorem bsl_free {l : List Int} : ∀ {p : Nat}, bsl l p = false → ∀ j, j < p → rd l (j : Int) ≠ 92
  | p + 1, h, j, hj => by
    rw [bsl, Bool.or_eq_false_iff] at h
    by_cases e : j = p
    · subst e; exact beq_eq_false_iff_ne.mp h.1
    · exact bsl_free h.2 j (by omega)
theorem bsl_of_free {l : List Int} : ∀ p : Nat, (∀ j, j < p → rd l (j : Int) ≠ 92) → bsl l p = false
  | 0, _ => rfl
  | p + 1, h => by rw [bsl, beq_eq_false_iff_ne.mpr (h p (by omega)), bsl_of_free p fun j hj => h j (by omega)]; rfl
/-- The string ends at p: there the first quote that stands behind an even number of backslashes. -/
structure Ends (l : List Int) (q : Int) (p : Nat) : Prop where
  lt : p < l.length
  at_ : rd l (p : Int) = q
  even : escd l p = false
  first : ∀ j, j < p → rd l (j : Int) = q → escd l j = true
theorem Ends.le_of {l : List Int} {q : Int} {p i : Nat} (h : Ends l q p) (hi : i ≤ p) (hq : rd l (i : Int) = q) (he : escd l i = false) : i = p := by
  by_cases e : i = p
  · exact e
  · have := h.first i (by omega) hq
    rw [he] at this; cases this
/-- The number that eight bytes spell. -/
def w8 (l : List Int) (i : Nat) : Int := rd l (i : Int) + rd l ((i + 1 : Nat) : Int) * 256 + rd l ((i + 2 : Nat) : Int) * 65536 + rd l ((i + 3 : Nat) : Int) * 16777216 + rd l ((i + 4 : Nat) : Int) * 4294967296 + rd l ((i + 5 : Nat) : Int) * 1099511627776 + rd l ((i + 6 : Nat) : Int) * 281474976710656 + rd l ((i + 7 : Nat) : Int) * 72057594037927936
theorem rd_range {l : List Int} (hby : ∀ x ∈ l, 0 ≤ x ∧ x ≤ 255) (i : Int) : 0 ≤ rd l i ∧ rd l i ≤ 255 := by
  unfold rd
  by_cases h : i.toNat < l.length
  · rw [List.getD_eq_getElem?_getD, List.getElem?_eq_getElem h]
    exact hby _ (List.getElem_mem h)
  · rw [List.getD_eq_getElem?_getD, List.getElem?_eq_none (by omega)]
    decide
/-- Where the test of eight bytes does not strike, none of them is the byte. -/
theorem free8 {l : List Int} (hby : ∀ x ∈ l, 0 ≤ x ∧ x ≤ 255) (i : Nat) (q : Int) (hq : 0 ≤ q ∧ q ≤ 255) (h : Swar.hit (w8 l i).toNat q.toNat = 0) : ∀ k, k < 8 → rd l ((i + k : Nat) : Int) ≠ q := by
  intro k hk he
  have r0 := rd_range hby (i : Int)
  have r1 := rd_range hby ((i + 1 : Nat) : Int)
  have r2 := rd_range hby ((i + 2 : Nat) : Int)
  have r3 := rd_range hby ((i + 3 : Nat) : Int)
  have r4 := rd_range hby ((i + 4 : Nat) : Int)
  have r5 := rd_range hby ((i + 5 : Nat) : Int)
  have r6 := rd_range hby ((i + 6 : Nat) : Int)
  have r7 := rd_range hby ((i + 7 : Nat) : Int)
  have hlt : (w8 l i).toNat < 18446744073709551616 := by unfold w8; omega
  refine Swar.hit_ne (w8 l i).toNat q.toNat k hlt (by omega) hk ?_ h
  have : k = 0 ∨ k = 1 ∨ k = 2 ∨ k = 3 ∨ k = 4 ∨ k = 5 ∨ k = 6 ∨ k = 7 := by omega
  unfold w8
  rcases this with rfl | rfl | rfl | rfl | rfl | rfl | rfl | rfl <;> simp only [Nat.reduceMul, Nat.reducePow, Nat.add_zero] at he ⊢ <;> omega

end Go.Proofs.YtlpcjgjphkdnbaaDoor.StrEnd
