-- Printed by a program of this session (wip/tools/xprint.py), which turns the kit's print: functions by contract are left out. Lean checks it.
import Derived.Test.YtdacmcbipnnneaaDoorProg
import Derived.Below
import Derived.Deep.Draws
import Derived.Deep.AppendLies
import Derived.Maps.AppendAt
import Derived.OwnWalk
import Derived.Laws.BytesArg
import Derived.Laws.MakeOwn
import Derived.Laws.OwnMore
import Derived.Deep.OwnRows
import Derived.Tactics
import Derived.Lib.ConvBytes
import Derived.Laws.Slices
import Derived.WalkKit
import Derived.KernelRfl
import Derived.RowKit3
import Derived.Deep.LoopGhost
import Derived.Deep.QuietTactic
import Derived.BigQuiet
import Derived.WideLaws
import Derived.Deep.DeepCutAuto
import Derived.Deep.CutBlock
import Derived.Deep.RegionHeld3
import Derived.Laws.Rows
import Derived.Lib.AppendStr
import Derived.ArgAppend
import Derived.Laws.IdiomCopy
import Derived.OrdersHeld
import Derived.Laws.BitsLemmas
import Derived.RowKit
import Derived.Test.YtdacmcbipnnneaaDoorWWords
import Derived.Test.YtdacmcbipnnneaaDoorWLast
import Derived.Test.YtdacmcbipnnneaaDoorWTab
import Derived.Test.YtdacmcbipnnneaaDoorWFour
import Derived.Test.YtdacmcbipnnneaaDoorWQPut
import Derived.Test.YtdacmcbipnnneaaDoorWApart
import Derived.Test.YtdacmcbipnnneaaDoorWArr
import Derived.Test.YtdacmcbipnnneaaDoorWZeros
import Derived.Test.YtdacmcbipnnneaaDoorWFoot
import Derived.Test.YtdacmcbipnnneaaDoorWKept
import Derived.Test.YtdacmcbipnnneaaDoorWShare
import Derived.Test.YtdacmcbipnnneaaDoorWN
import Derived.Test.YtdacmcbipnnneaaDoorWFootNe
import Derived.Test.YtdacmcbipnnneaaDoorWAt
import Derived.Test.YtdacmcbipnnneaaDoorWEqStruct
import Derived.Test.YtdacmcbipnnneaaDoorWRepsOne
import Derived.Test.YtdacmcbipnnneaaDoorWInv
import Derived.Test.YtdacmcbipnnneaaDoorWInvWords
import Derived.Test.YtdacmcbipnnneaaDoorWGuard
import Derived.Test.YtdacmcbipnnneaaDoorWNEv
import Derived.Test.YtdacmcbipnnneaaDoorWMore
namespace Go.Proofs.YtdacmcbipnnneaaDoor.PXzzFold
open Go.RowKit Go.Proofs.YtdacmcbipnnneaaDoorW.PrintWords Go.Proofs.YtdacmcbipnnneaaDoorW.PrintLast Go.Proofs.YtdacmcbipnnneaaDoorW.PrintMore
attribute [local go_sem] max2_int min2_int max_two min_two max_three min_three max_four min_four   -- for this text's walks alone
set_option linter.unusedVariables false
set_option linter.unusedSimpArgs false



def errW : Option Int → Value
  | none => .nilIface
  | some c => .iface 0 (.int .i64 c)
theorem errW_none : errW none = .nilIface := rfl
theorem errW_some (c : Int) : errW (some c) = .iface 0 (.int .i64 c) := rfl

-- the values' own types

end Go.Proofs.YtdacmcbipnnneaaDoor.PXzzFold
