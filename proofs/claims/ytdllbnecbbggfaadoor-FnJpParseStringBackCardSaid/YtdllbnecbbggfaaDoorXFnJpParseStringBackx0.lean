-- Written by xprint.py of this session (a program that runs the kit's print and adds to it); Lean checks it.
import Derived.Test.YtdllbnecbbggfaaDoorProg
import Derived.Below
import Derived.Deep.Draws
import Derived.Deep.AppendLies
import Derived.Maps.AppendAt
import Derived.OwnWalk
import Derived.Laws.BytesArg
import Derived.Laws.MakeOwn
import Derived.Laws.OwnMore
import Derived.Deep.OwnRows
import Derived.Tactics
import Derived.Lib.ConvBytes
import Derived.Laws.Slices
import Derived.WalkKit
import Derived.KernelRfl
import Derived.RowKit3
import Derived.Deep.LoopGhost
import Derived.Deep.QuietTactic
import Derived.BigQuiet
import Derived.WideLaws
import Derived.Deep.DeepCutAuto
import Derived.Deep.CutBlock
import Derived.Deep.RegionHeld3
import Derived.Laws.Rows
import Derived.Lib.AppendStr
import Derived.ArgAppend
import Derived.Laws.IdiomCopy
import Derived.OrdersHeld
import Derived.Laws.BitsLemmas
import Derived.RowKit
import Derived.Test.YtdllbnecbbggfaaDoorWWords
import Derived.Test.YtdllbnecbbggfaaDoorWLast
import Derived.Test.YtdllbnecbbggfaaDoorWTab
import Derived.Test.YtdllbnecbbggfaaDoorWFour
import Derived.Test.YtdllbnecbbggfaaDoorWQPut
import Derived.Test.YtdllbnecbbggfaaDoorWApart
import Derived.Test.YtdllbnecbbggfaaDoorWArr
import Derived.Test.YtdllbnecbbggfaaDoorWZeros
import Derived.Test.YtdllbnecbbggfaaDoorWFoot
import Derived.Test.YtdllbnecbbggfaaDoorWKept
import Derived.Test.YtdllbnecbbggfaaDoorWShare
import Derived.Test.YtdllbnecbbggfaaDoorWN
import Derived.Test.YtdllbnecbbggfaaDoorWFootNe
import Derived.Test.YtdllbnecbbggfaaDoorWAt
import Derived.Test.YtdllbnecbbggfaaDoorWEqStruct
import Derived.Test.YtdllbnecbbggfaaDoorWRepsOne
import Derived.Test.YtdllbnecbbggfaaDoorWInv
import Derived.Test.YtdllbnecbbggfaaDoorWInvWords
import Derived.Test.YtdllbnecbbggfaaDoorWGuard
import Derived.Test.YtdllbnecbbggfaaDoorWNEv
import Derived.Test.YtdllbnecbbggfaaDoorWMore
import Derived.Test.YtdllbnecbbggfaaDoorXWords
import Derived.Test.YtdllbnecbbggfaaDoorOwnRow
import Derived.Test.YtdllbnecbbggfaaDoorGlobEsc
import Derived.Test.YtdllbnecbbggfaaDoorEnc
import Derived.Test.YtdllbnecbbggfaaDoorIdxByte
namespace Go.Proofs.YtdllbnecbbggfaaDoor.XFnJpParseStringBack
open Go.RowKit Go.Proofs.YtdllbnecbbggfaaDoorW.PrintWords Go.Proofs.YtdllbnecbbggfaaDoorW.PrintLast Go.Proofs.YtdllbnecbbggfaaDoorW.PrintMore
attribute [local go_sem] max2_int min2_int max_two min_two max_three min_three max_four min_four   -- for this text's walks alone
set_option linter.unusedVariables false
set_option linter.unusedSimpArgs false



def errW : Option Int → Value
  | none => .nilIface
  | some c => .iface 0 (.int .i64 c)
theorem errW_none : errW none = .nilIface := rfl
theorem errW_some (c : Int) : errW (some c) = .iface 0 (.int .i64 c) := rfl

theorem info5 : (Tryd.prog.info? 5).map (fun i => (i.zero, i.size, i.bytes)) = some (some (.int .u8 0), 1, 1) := by kernel_rfl
-- the values' own types

end Go.Proofs.YtdllbnecbbggfaaDoor.XFnJpParseStringBack
