-- Written by hprint.py, a program of this session
import Derived.Test.YtimefacdnabkdabDoorProg
import Derived.Test.YtimefacdnabkdabDoorIt
import Derived.Test.YtimefacdnabkdabDoorHandItoa
import Derived.Test.YtimefacdnabkdabDoorHandFmt
import Derived.Below
import Derived.Deep.Draws
import Derived.Deep.AppendLies
import Derived.Maps.AppendAt
import Derived.OwnWalk
import Derived.Laws.BytesArg
import Derived.Laws.MakeOwn
import Derived.Laws.OwnMore
import Derived.Deep.OwnRows
import Derived.Tactics
import Derived.Lib.ConvBytes
import Derived.Laws.Slices
import Derived.WalkKit
import Derived.KernelRfl
import Derived.RowKit3
import Derived.Deep.LoopGhost
import Derived.Deep.QuietTactic
import Derived.BigQuiet
import Derived.WideLaws
import Derived.Deep.DeepCutAuto
import Derived.Deep.CutBlock
import Derived.Deep.RegionHeld3
import Derived.Laws.Rows
import Derived.Lib.AppendStr
import Derived.ArgAppend
import Derived.Laws.IdiomCopy
import Derived.OrdersHeld
import Derived.Laws.BitsLemmas
import Derived.RowKit
import Derived.Test.YtimefacdnabkdabDoorWWords
import Derived.Test.YtimefacdnabkdabDoorWLast
import Derived.Test.YtimefacdnabkdabDoorWTab
import Derived.Test.YtimefacdnabkdabDoorWFour
import Derived.Test.YtimefacdnabkdabDoorWQPut
import Derived.Test.YtimefacdnabkdabDoorWApart
import Derived.Test.YtimefacdnabkdabDoorWArr
import Derived.Test.YtimefacdnabkdabDoorWZeros
import Derived.Test.YtimefacdnabkdabDoorWFoot
import Derived.Test.YtimefacdnabkdabDoorWKept
import Derived.Test.YtimefacdnabkdabDoorWShare
import Derived.Test.YtimefacdnabkdabDoorWN
import Derived.Test.YtimefacdnabkdabDoorWFootNe
import Derived.Test.YtimefacdnabkdabDoorWAt
import Derived.Test.YtimefacdnabkdabDoorWEqStruct
import Derived.Test.YtimefacdnabkdabDoorWRepsOne
import Derived.Test.YtimefacdnabkdabDoorWInv
import Derived.Test.YtimefacdnabkdabDoorWInvWords
import Derived.Test.YtimefacdnabkdabDoorWGuard
import Derived.Test.YtimefacdnabkdabDoorWNEv
import Derived.Test.YtimefacdnabkdabDoorWMore
namespace Go.Proofs.YtimefacdnabkdabDoor.PFnTextColorSeq
open Go.RowKit Go.Proofs.YtimefacdnabkdabDoor.Hand Go.Proofs.YtimefacdnabkdabDoorW.PrintWords Go.Proofs.YtimefacdnabkdabDoorW.PrintLast Go.Proofs.YtimefacdnabkdabDoorW.PrintMore
attribute [local go_sem] max2_int min2_int max_two min_two max_three min_three max_four min_four   -- for this text's walks alone
set_option linter.unusedVariables false
set_option linter.unusedSimpArgs false



def errW : Option Int → Value
  | none => .nilIface
  | some c => .iface 0 (.int .i64 c)
theorem errW_none : errW none = .nilIface := rfl
theorem errW_some (c : Int) : errW (some c) = .iface 0 (.int .i64 c) := rfl

theorem info3 : (Tryd.prog.info? 3).map (fun i => (i.zero, i.size, i.bytes)) = some (some (.int .i64 0), 1, 8) := by kernel_rfl
-- the values' own types

end Go.Proofs.YtimefacdnabkdabDoor.PFnTextColorSeq
