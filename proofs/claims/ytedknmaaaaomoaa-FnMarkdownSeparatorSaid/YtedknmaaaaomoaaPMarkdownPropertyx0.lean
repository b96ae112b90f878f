-- Written by hprint.py, a program of this session
import Derived.Test.YtedknmaaaaomoaaProg
import Derived.Test.YtedknmaaaaomoaaIt
import Derived.Test.YtedknmaaaaomoaaHandRepeat
import Derived.Below
import Derived.Deep.Draws
import Derived.Deep.AppendLies
import Derived.Maps.AppendAt
import Derived.OwnWalk
import Derived.Laws.BytesArg
import Derived.Laws.MakeOwn
import Derived.Laws.OwnMore
import Derived.Deep.OwnRows
import Derived.Tactics
import Derived.Lib.ConvBytes
import Derived.Laws.Slices
import Derived.WalkKit
import Derived.KernelRfl
import Derived.RowKit3
import Derived.Deep.LoopGhost
import Derived.Deep.QuietTactic
import Derived.BigQuiet
import Derived.WideLaws
import Derived.Deep.DeepCutAuto
import Derived.Deep.CutBlock
import Derived.Deep.RegionHeld3
import Derived.Laws.Rows
import Derived.Lib.AppendStr
import Derived.ArgAppend
import Derived.Laws.IdiomCopy
import Derived.OrdersHeld
import Derived.Laws.BitsLemmas
import Derived.RowKit
import Derived.Test.YtedknmaaaaomoaaWWords
import Derived.Test.YtedknmaaaaomoaaWLast
import Derived.Test.YtedknmaaaaomoaaWTab
import Derived.Test.YtedknmaaaaomoaaWFour
import Derived.Test.YtedknmaaaaomoaaWQPut
import Derived.Test.YtedknmaaaaomoaaWApart
import Derived.Test.YtedknmaaaaomoaaWArr
import Derived.Test.YtedknmaaaaomoaaWZeros
import Derived.Test.YtedknmaaaaomoaaWFoot
import Derived.Test.YtedknmaaaaomoaaWKept
import Derived.Test.YtedknmaaaaomoaaWShare
import Derived.Test.YtedknmaaaaomoaaWN
import Derived.Test.YtedknmaaaaomoaaWFootNe
import Derived.Test.YtedknmaaaaomoaaWAt
import Derived.Test.YtedknmaaaaomoaaWEqStruct
import Derived.Test.YtedknmaaaaomoaaWRepsOne
import Derived.Test.YtedknmaaaaomoaaWInv
import Derived.Test.YtedknmaaaaomoaaWInvWords
import Derived.Test.YtedknmaaaaomoaaWGuard
import Derived.Test.YtedknmaaaaomoaaWNEv
import Derived.Test.YtedknmaaaaomoaaWMore
namespace Go.Proofs.Ytedknmaaaaomoaa.PMarkdownProperty
open Go.RowKit Go.Proofs.Ytedknmaaaaomoaa.Hand Go.Proofs.YtedknmaaaaomoaaW.PrintWords Go.Proofs.YtedknmaaaaomoaaW.PrintLast Go.Proofs.YtedknmaaaaomoaaW.PrintMore
attribute [local go_sem] max2_int min2_int max_two min_two max_three min_three max_four min_four   -- for this text's walks alone
set_option linter.unusedVariables false
set_option linter.unusedSimpArgs false



def errW : Option Int → Value
  | none => .nilIface
  | some c => .iface 0 (.int .i64 c)
theorem errW_none : errW none = .nilIface := rfl
theorem errW_some (c : Int) : errW (some c) = .iface 0 (.int .i64 c) := rfl

-- the values' own types

end Go.Proofs.Ytedknmaaaaomoaa.PMarkdownProperty
