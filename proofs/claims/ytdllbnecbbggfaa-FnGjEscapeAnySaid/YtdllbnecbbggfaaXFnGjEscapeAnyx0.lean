-- Written by xprint.py of this session (a program that runs the kit's print and adds to it); Lean checks it.
import Derived.Test.YtdllbnecbbggfaaProg
import Derived.Below
import Derived.Deep.Draws
import Derived.Deep.AppendLies
import Derived.Maps.AppendAt
import Derived.OwnWalk
import Derived.Laws.BytesArg
import Derived.Laws.MakeOwn
import Derived.Laws.OwnMore
import Derived.Deep.OwnRows
import Derived.Tactics
import Derived.Lib.ConvBytes
import Derived.Laws.Slices
import Derived.WalkKit
import Derived.KernelRfl
import Derived.RowKit3
import Derived.Deep.LoopGhost
import Derived.Deep.QuietTactic
import Derived.BigQuiet
import Derived.WideLaws
import Derived.Deep.DeepCutAuto
import Derived.Deep.CutBlock
import Derived.Deep.RegionHeld3
import Derived.Laws.Rows
import Derived.Lib.AppendStr
import Derived.ArgAppend
import Derived.Laws.IdiomCopy
import Derived.OrdersHeld
import Derived.Laws.BitsLemmas
import Derived.RowKit
import Derived.Test.YtdllbnecbbggfaaWWords
import Derived.Test.YtdllbnecbbggfaaWLast
import Derived.Test.YtdllbnecbbggfaaWTab
import Derived.Test.YtdllbnecbbggfaaWFour
import Derived.Test.YtdllbnecbbggfaaWQPut
import Derived.Test.YtdllbnecbbggfaaWApart
import Derived.Test.YtdllbnecbbggfaaWArr
import Derived.Test.YtdllbnecbbggfaaWZeros
import Derived.Test.YtdllbnecbbggfaaWFoot
import Derived.Test.YtdllbnecbbggfaaWKept
import Derived.Test.YtdllbnecbbggfaaWShare
import Derived.Test.YtdllbnecbbggfaaWN
import Derived.Test.YtdllbnecbbggfaaWFootNe
import Derived.Test.YtdllbnecbbggfaaWAt
import Derived.Test.YtdllbnecbbggfaaWEqStruct
import Derived.Test.YtdllbnecbbggfaaWRepsOne
import Derived.Test.YtdllbnecbbggfaaWInv
import Derived.Test.YtdllbnecbbggfaaWInvWords
import Derived.Test.YtdllbnecbbggfaaWGuard
import Derived.Test.YtdllbnecbbggfaaWNEv
import Derived.Test.YtdllbnecbbggfaaWMore
import Derived.Test.YtdllbnecbbggfaaXWords
namespace Go.Proofs.Ytdllbnecbbggfaa.XFnGjEscapeAny
open Go.RowKit Go.Proofs.YtdllbnecbbggfaaW.PrintWords Go.Proofs.YtdllbnecbbggfaaW.PrintLast Go.Proofs.YtdllbnecbbggfaaW.PrintMore
attribute [local go_sem] max2_int min2_int max_two min_two max_three min_three max_four min_four   -- for this text's walks alone
set_option linter.unusedVariables false
set_option linter.unusedSimpArgs false



def errW : Option Int → Value
  | none => .nilIface
  | some c => .iface 0 (.int .i64 c)
theorem errW_none : errW none = .nilIface := rfl
theorem errW_some (c : Int) : errW (some c) = .iface 0 (.int .i64 c) := rfl

theorem info5 : (Try.prog.info? 5).map (fun i => (i.zero, i.size, i.bytes)) = some (some (.int .u8 0), 1, 1) := by kernel_rfl
-- the values' own types

end Go.Proofs.Ytdllbnecbbggfaa.XFnGjEscapeAny
