-- Written by hprint.py, a program of this session
import Derived.Test.YtmadlpclnlbpgaaDoorProg
import Derived.Test.YtmadlpclnlbpgaaDoorIt
import Derived.Test.YtmadlpclnlbpgaaDoorHandNum3
import Derived.Below
import Derived.Deep.Draws
import Derived.Deep.AppendLies
import Derived.Maps.AppendAt
import Derived.OwnWalk
import Derived.Laws.BytesArg
import Derived.Laws.MakeOwn
import Derived.Laws.OwnMore
import Derived.Deep.OwnRows
import Derived.Tactics
import Derived.Lib.ConvBytes
import Derived.Laws.Slices
import Derived.WalkKit
import Derived.KernelRfl
import Derived.RowKit3
import Derived.Deep.LoopGhost
import Derived.Deep.QuietTactic
import Derived.BigQuiet
import Derived.WideLaws
import Derived.Deep.DeepCutAuto
import Derived.Deep.CutBlock
import Derived.Deep.RegionHeld3
import Derived.Laws.Rows
import Derived.Lib.AppendStr
import Derived.ArgAppend
import Derived.Laws.IdiomCopy
import Derived.OrdersHeld
import Derived.Laws.BitsLemmas
import Derived.RowKit
import Derived.Test.YtmadlpclnlbpgaaDoorWWords
import Derived.Test.YtmadlpclnlbpgaaDoorWLast
import Derived.Test.YtmadlpclnlbpgaaDoorWTab
import Derived.Test.YtmadlpclnlbpgaaDoorWFour
import Derived.Test.YtmadlpclnlbpgaaDoorWQPut
import Derived.Test.YtmadlpclnlbpgaaDoorWApart
import Derived.Test.YtmadlpclnlbpgaaDoorWArr
import Derived.Test.YtmadlpclnlbpgaaDoorWZeros
import Derived.Test.YtmadlpclnlbpgaaDoorWFoot
import Derived.Test.YtmadlpclnlbpgaaDoorWKept
import Derived.Test.YtmadlpclnlbpgaaDoorWShare
import Derived.Test.YtmadlpclnlbpgaaDoorWN
import Derived.Test.YtmadlpclnlbpgaaDoorWFootNe
import Derived.Test.YtmadlpclnlbpgaaDoorWAt
import Derived.Test.YtmadlpclnlbpgaaDoorWEqStruct
import Derived.Test.YtmadlpclnlbpgaaDoorWRepsOne
import Derived.Test.YtmadlpclnlbpgaaDoorWInv
import Derived.Test.YtmadlpclnlbpgaaDoorWInvWords
import Derived.Test.YtmadlpclnlbpgaaDoorWGuard
import Derived.Test.YtmadlpclnlbpgaaDoorWNEv
import Derived.Test.YtmadlpclnlbpgaaDoorWMore
namespace Go.Proofs.YtmadlpclnlbpgaaDoor.PFnIsNumericNot
open Go.RowKit Go.Proofs.YtmadlpclnlbpgaaDoor.Hand Go.Proofs.YtmadlpclnlbpgaaDoorW.PrintWords Go.Proofs.YtmadlpclnlbpgaaDoorW.PrintLast Go.Proofs.YtmadlpclnlbpgaaDoorW.PrintMore
attribute [local go_sem] max2_int min2_int max_two min_two max_three min_three max_four min_four   -- for this text's walks alone
set_option linter.unusedVariables false
set_option linter.unusedSimpArgs false



def errW : Option Int → Value
  | none => .nilIface
  | some c => .iface 0 (.int .i64 c)
theorem errW_none : errW none = .nilIface := rfl
theorem errW_some (c : Int) : errW (some c) = .iface 0 (.int .i64 c) := rfl

-- the values' own types

end Go.Proofs.YtmadlpclnlbpgaaDoor.PFnIsNumericNot
