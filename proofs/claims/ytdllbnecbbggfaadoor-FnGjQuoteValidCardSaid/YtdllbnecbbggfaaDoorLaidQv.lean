/- What the row's list gives the walks: unicode/utf8's two tables and gjson's hexadecimal digits; and a world that the list lets in. -/
import Derived.Test.YtdllbnecbbggfaaDoorRows
import Derived.Test.YtdllbnecbbggfaaDoorGlobQv
import Derived.LaidLaws
import Derived.LaidMore
import Derived.Lib.LaidTab
import Derived.ProofKit
import Derived.PinnedBridge
import Derived.Lay
import Derived.Stop.LaidErr
namespace Go.Proofs.YtdllbnecbbggfaaDoor
open Go.ChangeShapes Go.WideShapes Go.ChangeAt Go.RowKit

theorem gHex : Tryd.prog.globalNamed "pub-tetrapla/pub/gjson.hexchars" = some 1 := by kernel_rfl
theorem gHexType : (Tryd.prog.globals[1]?).map (·.type) = some 84 := by kernel_rfl
theorem cellsU8 : Tryd.prog.cellsOf 5 = 1 := by kernel_rfl
theorem cellsHex : Tryd.prog.cellsOf 84 = 16 := by kernel_rfl
def hexTab : List Int := [48, 49, 50, 51, 52, 53, 54, 55, 56, 57, 97, 98, 99, 100, 101, 102]
theorem glob_of_laid {W : World} (h : laidMetH Tryd.prog Rows.fnGjQuoteValidRow.laid W) : Glob W := by
  rw [MakeChecks.laidMetH_plain _ _ _ (by kernel_rfl)] at h
  have h' : laidMet Tryd.prog [("unicode/utf8.acceptRanges", Rows.laid_unicode_utf8_acceptRanges), ("pub-tetrapla/pub/gjson.hexchars", Rows.laid_pub_tetrapla_pub_gjson_hexchars), ("unicode/utf8.first", Rows.laid_unicode_utf8_first)] W := h
  have ht : laidMet Tryd.prog (("pub-tetrapla/pub/gjson.hexchars", Lib.tabData .u8 hexTab) :: [("unicode/utf8.first", Rows.laid_unicode_utf8_first)]) W := laidMet.tail h'
  have htab := Lib.tabIs_of_head (rest := [("unicode/utf8.first", Rows.laid_unicode_utf8_first)]) gHex gHexType Tryd.underlying84 Tryd.underlying5 cellsU8 cellsHex ht
  have ea : (Rows.laid_unicode_utf8_acceptRanges : DataW Unit) = Lib.acceptData := by kernel_rfl
  have ef : Rows.laid_unicode_utf8_first = Lib.firstData := Pinned.utf8First_eq
  refine ⟨utf8Tabs_of_reads (ρ := Tryd.lays260_ren) Tryd.lays260 ⟨by kernel_rfl, by kernel_rfl, by kernel_rfl, by kernel_rfl, by kernel_rfl, by kernel_rfl, by kernel_rfl⟩ (ef ▸ Lib.laidMet.reads h' (by simp)) (ea ▸ Lib.laidMet.reads h' (by simp)), ?_⟩
  intro i hi
  have := htab.cell gHex i (by show i < 16; exact hi)
  rw [this]
  have : i = 0 ∨ i = 1 ∨ i = 2 ∨ i = 3 ∨ i = 4 ∨ i = 5 ∨ i = 6 ∨ i = 7 ∨ i = 8 ∨ i = 9 ∨ i = 10 ∨ i = 11 ∨ i = 12 ∨ i = 13 ∨ i = 14 ∨ i = 15 := by omega
  rcases this with rfl | rfl | rfl | rfl | rfl | rfl | rfl | rfl | rfl | rfl | rfl | rfl | rfl | rfl | rfl | rfl <;> rfl
end Go.Proofs.YtdllbnecbbggfaaDoor
