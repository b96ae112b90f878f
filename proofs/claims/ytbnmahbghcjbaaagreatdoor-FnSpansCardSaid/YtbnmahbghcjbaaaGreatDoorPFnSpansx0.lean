-- Written by hprint.py, a program of this session
import Derived.Test.YtbnmahbghcjbaaaGreatDoorProg
import Derived.Test.YtbnmahbghcjbaaaGreatDoorIt
import Derived.Test.YtbnmahbghcjbaaaGreatDoorHandSpan3
import Derived.Below
import Derived.Deep.Draws
import Derived.Deep.AppendLies
import Derived.Maps.AppendAt
import Derived.OwnWalk
import Derived.Laws.BytesArg
import Derived.Laws.MakeOwn
import Derived.Laws.OwnMore
import Derived.Deep.OwnRows
import Derived.Tactics
import Derived.Lib.ConvBytes
import Derived.Laws.Slices
import Derived.WalkKit
import Derived.KernelRfl
import Derived.RowKit3
import Derived.Deep.LoopGhost
import Derived.Deep.QuietTactic
import Derived.BigQuiet
import Derived.WideLaws
import Derived.Deep.DeepCutAuto
import Derived.Deep.CutBlock
import Derived.Deep.RegionHeld3
import Derived.Laws.Rows
import Derived.Lib.AppendStr
import Derived.ArgAppend
import Derived.Laws.IdiomCopy
import Derived.OrdersHeld
import Derived.Laws.BitsLemmas
import Derived.RowKit
import Derived.Test.YtbnmahbghcjbaaaGreatDoorWWords
import Derived.Test.YtbnmahbghcjbaaaGreatDoorWLast
import Derived.Test.YtbnmahbghcjbaaaGreatDoorWTab
import Derived.Test.YtbnmahbghcjbaaaGreatDoorWFour
import Derived.Test.YtbnmahbghcjbaaaGreatDoorWQPut
import Derived.Test.YtbnmahbghcjbaaaGreatDoorWApart
import Derived.Test.YtbnmahbghcjbaaaGreatDoorWArr
import Derived.Test.YtbnmahbghcjbaaaGreatDoorWZeros
import Derived.Test.YtbnmahbghcjbaaaGreatDoorWFoot
import Derived.Test.YtbnmahbghcjbaaaGreatDoorWKept
import Derived.Test.YtbnmahbghcjbaaaGreatDoorWShare
import Derived.Test.YtbnmahbghcjbaaaGreatDoorWN
import Derived.Test.YtbnmahbghcjbaaaGreatDoorWFootNe
import Derived.Test.YtbnmahbghcjbaaaGreatDoorWAt
import Derived.Test.YtbnmahbghcjbaaaGreatDoorWEqStruct
import Derived.Test.YtbnmahbghcjbaaaGreatDoorWRepsOne
import Derived.Test.YtbnmahbghcjbaaaGreatDoorWInv
import Derived.Test.YtbnmahbghcjbaaaGreatDoorWInvWords
import Derived.Test.YtbnmahbghcjbaaaGreatDoorWGuard
import Derived.Test.YtbnmahbghcjbaaaGreatDoorWNEv
import Derived.Test.YtbnmahbghcjbaaaGreatDoorWMore
namespace Go.Proofs.YtbnmahbghcjbaaaGreatDoor.PFnSpans
open Go.RowKit Go.Proofs.YtbnmahbghcjbaaaGreatDoor.Hand Go.Proofs.YtbnmahbghcjbaaaGreatDoorW.PrintWords Go.Proofs.YtbnmahbghcjbaaaGreatDoorW.PrintLast Go.Proofs.YtbnmahbghcjbaaaGreatDoorW.PrintMore
attribute [local go_sem] max2_int min2_int max_two min_two max_three min_three max_four min_four   -- for this text's walks alone
set_option linter.unusedVariables false
set_option linter.unusedSimpArgs false



def errW : Option Int → Value
  | none => .nilIface
  | some c => .iface 0 (.int .i64 c)
theorem errW_none : errW none = .nilIface := rfl
theorem errW_some (c : Int) : errW (some c) = .iface 0 (.int .i64 c) := rfl

-- the values' own types

end Go.Proofs.YtbnmahbghcjbaaaGreatDoor.PFnSpans
