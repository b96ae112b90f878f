-- Written by hprint.py, a program of this session
import Derived.Test.YtimefacdnabkdabProg
import Derived.Test.YtimefacdnabkdabIt
import Derived.Test.YtimefacdnabkdabHandFmt
import Derived.Below
import Derived.Deep.Draws
import Derived.Deep.AppendLies
import Derived.Maps.AppendAt
import Derived.OwnWalk
import Derived.Laws.BytesArg
import Derived.Laws.MakeOwn
import Derived.Laws.OwnMore
import Derived.Deep.OwnRows
import Derived.Tactics
import Derived.Lib.ConvBytes
import Derived.Laws.Slices
import Derived.WalkKit
import Derived.KernelRfl
import Derived.RowKit3
import Derived.Deep.LoopGhost
import Derived.Deep.QuietTactic
import Derived.BigQuiet
import Derived.WideLaws
import Derived.Deep.DeepCutAuto
import Derived.Deep.CutBlock
import Derived.Deep.RegionHeld3
import Derived.Laws.Rows
import Derived.Lib.AppendStr
import Derived.ArgAppend
import Derived.Laws.IdiomCopy
import Derived.OrdersHeld
import Derived.Laws.BitsLemmas
import Derived.RowKit
import Derived.Test.YtimefacdnabkdabWWords
import Derived.Test.YtimefacdnabkdabWLast
import Derived.Test.YtimefacdnabkdabWTab
import Derived.Test.YtimefacdnabkdabWFour
import Derived.Test.YtimefacdnabkdabWQPut
import Derived.Test.YtimefacdnabkdabWApart
import Derived.Test.YtimefacdnabkdabWArr
import Derived.Test.YtimefacdnabkdabWZeros
import Derived.Test.YtimefacdnabkdabWFoot
import Derived.Test.YtimefacdnabkdabWKept
import Derived.Test.YtimefacdnabkdabWShare
import Derived.Test.YtimefacdnabkdabWN
import Derived.Test.YtimefacdnabkdabWFootNe
import Derived.Test.YtimefacdnabkdabWAt
import Derived.Test.YtimefacdnabkdabWEqStruct
import Derived.Test.YtimefacdnabkdabWRepsOne
import Derived.Test.YtimefacdnabkdabWInv
import Derived.Test.YtimefacdnabkdabWInvWords
import Derived.Test.YtimefacdnabkdabWGuard
import Derived.Test.YtimefacdnabkdabWNEv
import Derived.Test.YtimefacdnabkdabWMore
namespace Go.Proofs.Ytimefacdnabkdab.PzzContainsAny
open Go.RowKit Go.Proofs.Ytimefacdnabkdab.Hand Go.Proofs.YtimefacdnabkdabW.PrintWords Go.Proofs.YtimefacdnabkdabW.PrintLast Go.Proofs.YtimefacdnabkdabW.PrintMore
attribute [local go_sem] max2_int min2_int max_two min_two max_three min_three max_four min_four   -- for this text's walks alone
set_option linter.unusedVariables false
set_option linter.unusedSimpArgs false



def errW : Option Int → Value
  | none => .nilIface
  | some c => .iface 0 (.int .i64 c)
theorem errW_none : errW none = .nilIface := rfl
theorem errW_some (c : Int) : errW (some c) = .iface 0 (.int .i64 c) := rfl

-- the values' own types

end Go.Proofs.Ytimefacdnabkdab.PzzContainsAny
