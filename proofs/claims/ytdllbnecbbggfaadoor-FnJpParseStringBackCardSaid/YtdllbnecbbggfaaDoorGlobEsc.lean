/- What the walks of this seat ask of jsonparser's two package-level variables, and that it lasts. -/
import Derived.Test.YtdllbnecbbggfaaDoorProg
import Derived.Test.YtdllbnecbbggfaaDoorWWords
namespace Go.Proofs.YtdllbnecbbggfaaDoor
open Go.RowKit Go.Proofs.YtdllbnecbbggfaaDoorW.PrintWords

def escPairs : List (Nat × Int) := [(34, 34), (92, 92), (47, 47), (98, 8), (102, 12), (110, 10), (114, 13), (116, 9)]
/-- The table of short escapes holds what it was laid with; the default configuration has no flag. -/
structure Glob (w : World) : Prop where
  tab : ∀ p ∈ escPairs, w.cell? ⟨3, p.1, none⟩ = some (.int .u8 p.2)
  c0 : w.cell? ⟨2, 0, none⟩ = some (.bool false)
  c1 : w.cell? ⟨2, 1, none⟩ = some (.bool false)
  c2 : w.cell? ⟨2, 2, none⟩ = some (.int .i64 0)
theorem Glob.below {w w' : World} (h : Glob w) (hb : Below w.heap.size w w') : Glob w' :=
  ⟨fun p hp => pw_cell_below hb (h.tab p hp), pw_cell_below hb h.c0, pw_cell_below hb h.c1, pw_cell_below hb h.c2⟩
theorem Glob.drewN {w : World} (h : Glob w) (n : Nat) : Glob (w.drewN n) := ⟨h.tab, h.c0, h.c1, h.c2⟩
theorem Glob.drew {w : World} (h : Glob w) : Glob w.drew := ⟨h.tab, h.c0, h.c1, h.c2⟩

end Go.Proofs.YtdllbnecbbggfaaDoor
