-- Written by xprint.py of this session (a program that runs the kit's print and adds to it); Lean checks it.
import Derived.Test.YtlpcjgjphkdnbaaDoorProg
import Derived.Below
import Derived.Deep.Draws
import Derived.Deep.AppendLies
import Derived.Maps.AppendAt
import Derived.OwnWalk
import Derived.Laws.BytesArg
import Derived.Laws.MakeOwn
import Derived.Laws.OwnMore
import Derived.Deep.OwnRows
import Derived.Tactics
import Derived.Lib.ConvBytes
import Derived.Laws.Slices
import Derived.WalkKit
import Derived.KernelRfl
import Derived.RowKit3
import Derived.Deep.LoopGhost
import Derived.Deep.QuietTactic
import Derived.BigQuiet
import Derived.WideLaws
import Derived.Deep.DeepCutAuto
import Derived.Deep.CutBlock
import Derived.Deep.RegionHeld3
import Derived.Laws.Rows
import Derived.Lib.AppendStr
import Derived.ArgAppend
import Derived.Laws.IdiomCopy
import Derived.OrdersHeld
import Derived.Laws.BitsLemmas
import Derived.RowKit
import Derived.Test.YtlpcjgjphkdnbaaDoorWWords
import Derived.Test.YtlpcjgjphkdnbaaDoorWLast
import Derived.Test.YtlpcjgjphkdnbaaDoorWTab
import Derived.Test.YtlpcjgjphkdnbaaDoorWFour
import Derived.Test.YtlpcjgjphkdnbaaDoorWQPut
import Derived.Test.YtlpcjgjphkdnbaaDoorWApart
import Derived.Test.YtlpcjgjphkdnbaaDoorWArr
import Derived.Test.YtlpcjgjphkdnbaaDoorWZeros
import Derived.Test.YtlpcjgjphkdnbaaDoorWFoot
import Derived.Test.YtlpcjgjphkdnbaaDoorWKept
import Derived.Test.YtlpcjgjphkdnbaaDoorWShare
import Derived.Test.YtlpcjgjphkdnbaaDoorWN
import Derived.Test.YtlpcjgjphkdnbaaDoorWFootNe
import Derived.Test.YtlpcjgjphkdnbaaDoorWAt
import Derived.Test.YtlpcjgjphkdnbaaDoorWEqStruct
import Derived.Test.YtlpcjgjphkdnbaaDoorWRepsOne
import Derived.Test.YtlpcjgjphkdnbaaDoorWInv
import Derived.Test.YtlpcjgjphkdnbaaDoorWInvWords
import Derived.Test.YtlpcjgjphkdnbaaDoorWGuard
import Derived.Test.YtlpcjgjphkdnbaaDoorWNEv
import Derived.Test.YtlpcjgjphkdnbaaDoorWMore
import Derived.Test.YtlpcjgjphkdnbaaDoorXWords
import Derived.Test.YtlpcjgjphkdnbaaDoorOwnRow
namespace Go.Proofs.YtlpcjgjphkdnbaaDoor.XFnJpConfigQuote
open Go.RowKit Go.Proofs.YtlpcjgjphkdnbaaDoorW.PrintWords Go.Proofs.YtlpcjgjphkdnbaaDoorW.PrintLast Go.Proofs.YtlpcjgjphkdnbaaDoorW.PrintMore
attribute [local go_sem] max2_int min2_int max_two min_two max_three min_three max_four min_four   -- for this text's walks alone
set_option linter.unusedVariables false
set_option linter.unusedSimpArgs false



def errW : Option Int → Value
  | none => .nilIface
  | some c => .iface 0 (.int .i64 c)
theorem errW_none : errW none = .nilIface := rfl
theorem errW_some (c : Int) : errW (some c) = .iface 0 (.int .i64 c) := rfl

-- the values' own types

end Go.Proofs.YtlpcjgjphkdnbaaDoor.XFnJpConfigQuote
