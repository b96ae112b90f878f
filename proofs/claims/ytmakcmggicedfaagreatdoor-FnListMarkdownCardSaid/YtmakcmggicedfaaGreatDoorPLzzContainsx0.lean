-- Written by hprint.py, a program of this session
import Derived.Test.YtmakcmggicedfaaGreatDoorProg
import Derived.Test.YtmakcmggicedfaaGreatDoorIt
import Derived.Below
import Derived.Deep.Draws
import Derived.Deep.AppendLies
import Derived.Maps.AppendAt
import Derived.OwnWalk
import Derived.Laws.BytesArg
import Derived.Laws.MakeOwn
import Derived.Laws.OwnMore
import Derived.Deep.OwnRows
import Derived.Tactics
import Derived.Lib.ConvBytes
import Derived.Laws.Slices
import Derived.WalkKit
import Derived.KernelRfl
import Derived.RowKit3
import Derived.Deep.LoopGhost
import Derived.Deep.QuietTactic
import Derived.BigQuiet
import Derived.WideLaws
import Derived.Deep.DeepCutAuto
import Derived.Deep.CutBlock
import Derived.Deep.RegionHeld3
import Derived.Laws.Rows
import Derived.Lib.AppendStr
import Derived.ArgAppend
import Derived.Laws.IdiomCopy
import Derived.OrdersHeld
import Derived.Laws.BitsLemmas
import Derived.RowKit
import Derived.Test.YtmakcmggicedfaaGreatDoorWWords
import Derived.Test.YtmakcmggicedfaaGreatDoorWLast
import Derived.Test.YtmakcmggicedfaaGreatDoorWTab
import Derived.Test.YtmakcmggicedfaaGreatDoorWFour
import Derived.Test.YtmakcmggicedfaaGreatDoorWQPut
import Derived.Test.YtmakcmggicedfaaGreatDoorWApart
import Derived.Test.YtmakcmggicedfaaGreatDoorWArr
import Derived.Test.YtmakcmggicedfaaGreatDoorWZeros
import Derived.Test.YtmakcmggicedfaaGreatDoorWFoot
import Derived.Test.YtmakcmggicedfaaGreatDoorWKept
import Derived.Test.YtmakcmggicedfaaGreatDoorWShare
import Derived.Test.YtmakcmggicedfaaGreatDoorWN
import Derived.Test.YtmakcmggicedfaaGreatDoorWFootNe
import Derived.Test.YtmakcmggicedfaaGreatDoorWAt
import Derived.Test.YtmakcmggicedfaaGreatDoorWEqStruct
import Derived.Test.YtmakcmggicedfaaGreatDoorWRepsOne
import Derived.Test.YtmakcmggicedfaaGreatDoorWInv
import Derived.Test.YtmakcmggicedfaaGreatDoorWInvWords
import Derived.Test.YtmakcmggicedfaaGreatDoorWGuard
import Derived.Test.YtmakcmggicedfaaGreatDoorWNEv
import Derived.Test.YtmakcmggicedfaaGreatDoorWMore
namespace Go.Proofs.YtmakcmggicedfaaGreatDoor.PLzzContains
open Go.RowKit Go.Proofs.YtmakcmggicedfaaGreatDoorW.PrintWords Go.Proofs.YtmakcmggicedfaaGreatDoorW.PrintLast Go.Proofs.YtmakcmggicedfaaGreatDoorW.PrintMore
attribute [local go_sem] max2_int min2_int max_two min_two max_three min_three max_four min_four   -- for this text's walks alone
set_option linter.unusedVariables false
set_option linter.unusedSimpArgs false



def errW : Option Int → Value
  | none => .nilIface
  | some c => .iface 0 (.int .i64 c)
theorem errW_none : errW none = .nilIface := rfl
theorem errW_some (c : Int) : errW (some c) = .iface 0 (.int .i64 c) := rfl

-- the values' own types

end Go.Proofs.YtmakcmggicedfaaGreatDoor.PLzzContains
