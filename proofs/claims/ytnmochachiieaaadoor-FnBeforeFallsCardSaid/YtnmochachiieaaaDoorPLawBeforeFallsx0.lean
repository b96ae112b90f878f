-- Written by hprint.py, a program of this session
import Derived.Test.YtnmochachiieaaaDoorProg
import Derived.Test.YtnmochachiieaaaDoorIt
import Derived.Test.YtnmochachiieaaaDoorHandQc
import Derived.Below
import Derived.Deep.Draws
import Derived.Deep.AppendLies
import Derived.Maps.AppendAt
import Derived.OwnWalk
import Derived.Laws.BytesArg
import Derived.Laws.MakeOwn
import Derived.Laws.OwnMore
import Derived.Deep.OwnRows
import Derived.Tactics
import Derived.Lib.ConvBytes
import Derived.Laws.Slices
import Derived.WalkKit
import Derived.KernelRfl
import Derived.RowKit3
import Derived.Deep.LoopGhost
import Derived.Deep.QuietTactic
import Derived.BigQuiet
import Derived.WideLaws
import Derived.Deep.DeepCutAuto
import Derived.Deep.CutBlock
import Derived.Deep.RegionHeld3
import Derived.Laws.Rows
import Derived.Lib.AppendStr
import Derived.ArgAppend
import Derived.Laws.IdiomCopy
import Derived.OrdersHeld
import Derived.Laws.BitsLemmas
import Derived.RowKit
import Derived.Test.YtnmochachiieaaaDoorWWords
import Derived.Test.YtnmochachiieaaaDoorWLast
import Derived.Test.YtnmochachiieaaaDoorWTab
import Derived.Test.YtnmochachiieaaaDoorWFour
import Derived.Test.YtnmochachiieaaaDoorWQPut
import Derived.Test.YtnmochachiieaaaDoorWApart
import Derived.Test.YtnmochachiieaaaDoorWArr
import Derived.Test.YtnmochachiieaaaDoorWZeros
import Derived.Test.YtnmochachiieaaaDoorWFoot
import Derived.Test.YtnmochachiieaaaDoorWKept
import Derived.Test.YtnmochachiieaaaDoorWShare
import Derived.Test.YtnmochachiieaaaDoorWN
import Derived.Test.YtnmochachiieaaaDoorWFootNe
import Derived.Test.YtnmochachiieaaaDoorWAt
import Derived.Test.YtnmochachiieaaaDoorWEqStruct
import Derived.Test.YtnmochachiieaaaDoorWRepsOne
import Derived.Test.YtnmochachiieaaaDoorWInv
import Derived.Test.YtnmochachiieaaaDoorWInvWords
import Derived.Test.YtnmochachiieaaaDoorWGuard
import Derived.Test.YtnmochachiieaaaDoorWNEv
import Derived.Test.YtnmochachiieaaaDoorWMore
namespace Go.Proofs.YtnmochachiieaaaDoor.PLawBeforeFalls
open Go.RowKit Go.Proofs.YtnmochachiieaaaDoor.Hand Go.Proofs.YtnmochachiieaaaDoorW.PrintWords Go.Proofs.YtnmochachiieaaaDoorW.PrintLast Go.Proofs.YtnmochachiieaaaDoorW.PrintMore
attribute [local go_sem] max2_int min2_int max_two min_two max_three min_three max_four min_four   -- for this text's walks alone
set_option linter.unusedVariables false
set_option linter.unusedSimpArgs false



def errW : Option Int → Value
  | none => .nilIface
  | some c => .iface 0 (.int .i64 c)
theorem errW_none : errW none = .nilIface := rfl
theorem errW_some (c : Int) : errW (some c) = .iface 0 (.int .i64 c) := rfl

-- the values' own types

end Go.Proofs.YtnmochachiieaaaDoor.PLawBeforeFalls
