/- What the row's list gives the walks: unicode/utf8's two tables; and a world that the list lets in. -/
import Derived.Test.YtdllbnecbbggfaaDoorRows
import Derived.Test.YtdllbnecbbggfaaDoorGlobMt
import Derived.LaidLaws
import Derived.LaidMore
import Derived.ProofKit
import Derived.PinnedBridge
import Derived.Lay
namespace Go.Proofs.YtdllbnecbbggfaaDoor
open Go.ChangeShapes Go.WideShapes Go.ChangeAt Go.RowKit

theorem glob_of_laid {W : World} (h : laidMetH Tryd.prog Rows.fnMtNoCaseRow.laid W) : Glob W := by
  rw [MakeChecks.laidMetH_plain _ _ _ (by kernel_rfl)] at h
  have h' : laidMet Tryd.prog [("unicode/utf8.acceptRanges", Rows.laid_unicode_utf8_acceptRanges), ("unicode/utf8.first", Rows.laid_unicode_utf8_first)] W := h
  have ea : (Rows.laid_unicode_utf8_acceptRanges : DataW Unit) = Lib.acceptData := by kernel_rfl
  have ef : Rows.laid_unicode_utf8_first = Lib.firstData := Pinned.utf8First_eq
  exact ⟨utf8Tabs_of_reads (ρ := Tryd.lays260_ren) Tryd.lays260 ⟨by kernel_rfl, by kernel_rfl, by kernel_rfl, by kernel_rfl, by kernel_rfl, by kernel_rfl, by kernel_rfl⟩ (ef ▸ Lib.laidMet.reads h' (by simp)) (ea ▸ Lib.laidMet.reads h' (by simp))⟩
end Go.Proofs.YtdllbnecbbggfaaDoor
