-- Written by hprint.py, a program of this session
import Derived.Test.YtmakcmggicedfaaDoorProg
import Derived.Test.YtmakcmggicedfaaDoorIt
import Derived.Below
import Derived.Deep.Draws
import Derived.Deep.AppendLies
import Derived.Maps.AppendAt
import Derived.OwnWalk
import Derived.Laws.BytesArg
import Derived.Laws.MakeOwn
import Derived.Laws.OwnMore
import Derived.Deep.OwnRows
import Derived.Tactics
import Derived.Lib.ConvBytes
import Derived.Laws.Slices
import Derived.WalkKit
import Derived.KernelRfl
import Derived.RowKit3
import Derived.Deep.LoopGhost
import Derived.Deep.QuietTactic
import Derived.BigQuiet
import Derived.WideLaws
import Derived.Deep.DeepCutAuto
import Derived.Deep.CutBlock
import Derived.Deep.RegionHeld3
import Derived.Laws.Rows
import Derived.Lib.AppendStr
import Derived.ArgAppend
import Derived.Laws.IdiomCopy
import Derived.OrdersHeld
import Derived.Laws.BitsLemmas
import Derived.RowKit
import Derived.Test.YtmakcmggicedfaaDoorWWords
import Derived.Test.YtmakcmggicedfaaDoorWLast
import Derived.Test.YtmakcmggicedfaaDoorWTab
import Derived.Test.YtmakcmggicedfaaDoorWFour
import Derived.Test.YtmakcmggicedfaaDoorWQPut
import Derived.Test.YtmakcmggicedfaaDoorWApart
import Derived.Test.YtmakcmggicedfaaDoorWArr
import Derived.Test.YtmakcmggicedfaaDoorWZeros
import Derived.Test.YtmakcmggicedfaaDoorWFoot
import Derived.Test.YtmakcmggicedfaaDoorWKept
import Derived.Test.YtmakcmggicedfaaDoorWShare
import Derived.Test.YtmakcmggicedfaaDoorWN
import Derived.Test.YtmakcmggicedfaaDoorWFootNe
import Derived.Test.YtmakcmggicedfaaDoorWAt
import Derived.Test.YtmakcmggicedfaaDoorWEqStruct
import Derived.Test.YtmakcmggicedfaaDoorWRepsOne
import Derived.Test.YtmakcmggicedfaaDoorWInv
import Derived.Test.YtmakcmggicedfaaDoorWInvWords
import Derived.Test.YtmakcmggicedfaaDoorWGuard
import Derived.Test.YtmakcmggicedfaaDoorWNEv
import Derived.Test.YtmakcmggicedfaaDoorWMore
namespace Go.Proofs.YtmakcmggicedfaaDoor.PTzzContains
open Go.RowKit Go.Proofs.YtmakcmggicedfaaDoorW.PrintWords Go.Proofs.YtmakcmggicedfaaDoorW.PrintLast Go.Proofs.YtmakcmggicedfaaDoorW.PrintMore
attribute [local go_sem] max2_int min2_int max_two min_two max_three min_three max_four min_four   -- for this text's walks alone
set_option linter.unusedVariables false
set_option linter.unusedSimpArgs false



def errW : Option Int → Value
  | none => .nilIface
  | some c => .iface 0 (.int .i64 c)
theorem errW_none : errW none = .nilIface := rfl
theorem errW_some (c : Int) : errW (some c) = .iface 0 (.int .i64 c) := rfl

-- the values' own types

end Go.Proofs.YtmakcmggicedfaaDoor.PTzzContains
