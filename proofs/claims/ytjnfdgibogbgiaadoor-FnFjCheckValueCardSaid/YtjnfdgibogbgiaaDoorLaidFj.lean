/- What the row's list gives the walks: strconv's variable ErrSyntax. -/
import Derived.Test.YtjnfdgibogbgiaaDoorRows
import Derived.Test.YtjnfdgibogbgiaaDoorGlobFj
import Derived.LaidLaws
import Derived.LaidMore
import Derived.ProofKit
import Derived.Stop.LaidErr
namespace Go.Proofs.YtjnfdgibogbgiaaDoor
open Go.ChangeShapes Go.WideShapes Go.ChangeAt Go.RowKit

theorem gErrSyn : Tryd.prog.globalNamed "strconv.ErrSyntax" = some 1 := by kernel_rfl
theorem gErrSynType : (Tryd.prog.globals[1]?).map (·.type) = some 32 := by kernel_rfl
theorem starErr : "*" ++ "errors.errorString" = "*errors.errorString" := by decide
theorem rowErrString (u : TypeId) (h : Tryd.prog.typeName? 3 u = some "*errors.errorString") : u = 51 :=
  typeName_ptr_named (nm := "errors.errorString") (by rw [starErr]; kernel_rfl) (by kernel_rfl) (by decide) u (by rw [starErr]; exact h)
theorem cellsErrString : Tryd.prog.cellsOf 53 = 1 := by kernel_rfl
theorem cellsStr : Tryd.prog.cellsOf 9 = 1 := by kernel_rfl
theorem glob_of_laid {W : World} (h : laidMetH Tryd.prog Rows.fnFjCheckValueRow.laid W) : Glob W := by
  rw [MakeChecks.laidMetH_plain _ _ _ (by kernel_rfl)] at h
  have h1 : laidMet Tryd.prog [("strconv.ErrSyntax", Rows.laid_strconv_ErrSyntax)] W := laidMet.tail (laidMet.tail (laidMet.tail (laidMet.tail h)))
  obtain ⟨a0, s0, hv, _, _, _⟩ := laid_sentinel h1 gErrSyn gErrSynType Tryd.underlying32 rowErrString Tryd.underlying51 Tryd.underlying53 rfl rfl Tryd.underlying9 cellsErrString cellsStr
  have z0 := World.var?_cell gErrSyn hv 0
  exact ⟨_, _, by simpa using z0⟩
end Go.Proofs.YtjnfdgibogbgiaaDoor
