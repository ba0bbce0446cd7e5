/- What the walks of this seat ask of strconv's variable ErrSyntax, and that it lasts. -/
import Derived.Test.YtjnfdgibogbgiaaDoorProg
import Derived.Test.YtjnfdgibogbgiaaDoorWWords
namespace Go.Proofs.YtjnfdgibogbgiaaDoor
open Go.RowKit Go.Proofs.YtjnfdgibogbgiaaDoorW.PrintWords

/-- The variable holds an interface value. -/
def Glob (w : World) : Prop := ∃ te pe, w.cell? ⟨1, 0, none⟩ = some (.iface te pe)
theorem Glob.below {w w' : World} (h : Glob w) (hb : Below w.heap.size w w') : Glob w' := by
  obtain ⟨te, pe, h⟩ := h
  exact ⟨te, pe, pw_cell_below hb h⟩
theorem Glob.drewN {w : World} (h : Glob w) (n : Nat) : Glob (w.drewN n) := h
theorem Glob.drew {w : World} (h : Glob w) : Glob w.drew := h

end Go.Proofs.YtjnfdgibogbgiaaDoor
