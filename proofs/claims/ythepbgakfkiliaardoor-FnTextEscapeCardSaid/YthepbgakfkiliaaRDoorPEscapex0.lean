-- Written by hprint.py, a program of this session
import Derived.Test.YthepbgakfkiliaaRDoorProg
import Derived.Test.YthepbgakfkiliaaRDoorIt
import Derived.Below
import Derived.Deep.Draws
import Derived.Deep.AppendLies
import Derived.Maps.AppendAt
import Derived.OwnWalk
import Derived.Laws.BytesArg
import Derived.Laws.MakeOwn
import Derived.Laws.OwnMore
import Derived.Deep.OwnRows
import Derived.Tactics
import Derived.Lib.ConvBytes
import Derived.Laws.Slices
import Derived.WalkKit
import Derived.KernelRfl
import Derived.RowKit3
import Derived.Deep.LoopGhost
import Derived.Deep.QuietTactic
import Derived.BigQuiet
import Derived.WideLaws
import Derived.Deep.DeepCutAuto
import Derived.Deep.CutBlock
import Derived.Deep.RegionHeld3
import Derived.Laws.Rows
import Derived.Lib.AppendStr
import Derived.ArgAppend
import Derived.Laws.IdiomCopy
import Derived.OrdersHeld
import Derived.Laws.BitsLemmas
import Derived.RowKit
import Derived.Test.YthepbgakfkiliaaRDoorWWords
import Derived.Test.YthepbgakfkiliaaRDoorWLast
import Derived.Test.YthepbgakfkiliaaRDoorWTab
import Derived.Test.YthepbgakfkiliaaRDoorWFour
import Derived.Test.YthepbgakfkiliaaRDoorWQPut
import Derived.Test.YthepbgakfkiliaaRDoorWApart
import Derived.Test.YthepbgakfkiliaaRDoorWArr
import Derived.Test.YthepbgakfkiliaaRDoorWZeros
import Derived.Test.YthepbgakfkiliaaRDoorWFoot
import Derived.Test.YthepbgakfkiliaaRDoorWKept
import Derived.Test.YthepbgakfkiliaaRDoorWShare
import Derived.Test.YthepbgakfkiliaaRDoorWN
import Derived.Test.YthepbgakfkiliaaRDoorWFootNe
import Derived.Test.YthepbgakfkiliaaRDoorWAt
import Derived.Test.YthepbgakfkiliaaRDoorWEqStruct
import Derived.Test.YthepbgakfkiliaaRDoorWRepsOne
import Derived.Test.YthepbgakfkiliaaRDoorWInv
import Derived.Test.YthepbgakfkiliaaRDoorWInvWords
import Derived.Test.YthepbgakfkiliaaRDoorWGuard
import Derived.Test.YthepbgakfkiliaaRDoorWNEv
import Derived.Test.YthepbgakfkiliaaRDoorWMore
namespace Go.Proofs.YthepbgakfkiliaaRDoor.PEscape
open Go.RowKit Go.Proofs.YthepbgakfkiliaaRDoorW.PrintWords Go.Proofs.YthepbgakfkiliaaRDoorW.PrintLast Go.Proofs.YthepbgakfkiliaaRDoorW.PrintMore
attribute [local go_sem] max2_int min2_int max_two min_two max_three min_three max_four min_four   -- for this text's walks alone
set_option linter.unusedVariables false
set_option linter.unusedSimpArgs false



def errW : Option Int → Value
  | none => .nilIface
  | some c => .iface 0 (.int .i64 c)
theorem errW_none : errW none = .nilIface := rfl
theorem errW_some (c : Int) : errW (some c) = .iface 0 (.int .i64 c) := rfl

theorem info5 : (Tryd.prog.info? 5).map (fun i => (i.zero, i.size, i.bytes)) = some (some (.int .u8 0), 1, 1) := by kernel_rfl
-- the values' own types

end Go.Proofs.YthepbgakfkiliaaRDoor.PEscape
