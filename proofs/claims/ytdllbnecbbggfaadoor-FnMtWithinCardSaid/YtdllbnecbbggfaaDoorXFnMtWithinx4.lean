-- Written by xprint.py of this session (a program that runs the kit's print and adds to it); Lean checks it.
import Derived.Test.YtdllbnecbbggfaaDoorXFnMtWithinx0
namespace Go.Proofs.YtdllbnecbbggfaaDoor.XFnMtWithin
open Go.RowKit Go.Proofs.YtdllbnecbbggfaaDoorW.PrintWords Go.Proofs.YtdllbnecbbggfaaDoorW.PrintLast Go.Proofs.YtdllbnecbbggfaaDoorW.PrintMore
attribute [local go_sem] max2_int min2_int max_two min_two max_three min_three max_four min_four   -- for this text's walks alone
set_option linter.unusedVariables false
set_option linter.unusedSimpArgs false

--EXT
/-! ### utf8_DecodeLastRuneInString: function 102 (by hand) -/
def utf8_DecodeLastRuneInString.f (a0 : ByteArray) : Option (Int × Int) := if a0.size ≤ 140737488351232 then some (dlast a0) else none
theorem utf8_DecodeLastRuneInString.calls (a0 : ByteArray) (r1 r2 : Int) (w : World) (hG : Glob w) (h : utf8_DecodeLastRuneInString.f a0 = some (r1, r2)) :
    Calls Tryd.prog 102 #[.string a0] w fun e w' => e = .returned (.tuple #[.int .i32 r1, .int .i64 r2]) ∧ Below w.heap.size w w' := by
  unfold utf8_DecodeLastRuneInString.f at h
  by_cases hs : a0.size ≤ 140737488351232
  · rw [if_pos hs] at h
    have h2 : dlast a0 = (r1, r2) := Option.some.inj h
    have := dlast_calls a0 w (by omega) hG
    rw [h2] at this
    exact this
  · rw [if_neg hs] at h
    cases h


end Go.Proofs.YtdllbnecbbggfaaDoor.XFnMtWithin
