-- Laid by a program of this session (stub.py)
import Derived.Test.YtfdgbgjbncakfaaProg
import Derived.Test.YtfdgbgjbncakfaaHIdSelBy
import Derived.Test.YtfdgbgjbncakfaaHVia
import Derived.Below
import Derived.Deep.Draws
import Derived.Deep.AppendLies
import Derived.Maps.AppendAt
import Derived.OwnWalk
import Derived.Laws.BytesArg
import Derived.Laws.MakeOwn
import Derived.Laws.OwnMore
import Derived.Deep.OwnRows
import Derived.Tactics
import Derived.Lib.ConvBytes
import Derived.Laws.Slices
import Derived.WalkKit
import Derived.KernelRfl
import Derived.RowKit3
import Derived.Deep.LoopGhost
import Derived.Deep.QuietTactic
import Derived.BigQuiet
import Derived.WideLaws
import Derived.Deep.DeepCutAuto
import Derived.Deep.CutBlock
import Derived.Deep.RegionHeld3
import Derived.Laws.Rows
import Derived.Lib.AppendStr
import Derived.ArgAppend
import Derived.Laws.IdiomCopy
import Derived.OrdersHeld
import Derived.Laws.BitsLemmas
import Derived.RowKit
import Derived.Test.YtfdgbgjbncakfaaWWords
import Derived.Test.YtfdgbgjbncakfaaWLast
import Derived.Test.YtfdgbgjbncakfaaWTab
import Derived.Test.YtfdgbgjbncakfaaWFour
import Derived.Test.YtfdgbgjbncakfaaWQPut
import Derived.Test.YtfdgbgjbncakfaaWApart
import Derived.Test.YtfdgbgjbncakfaaWArr
import Derived.Test.YtfdgbgjbncakfaaWZeros
import Derived.Test.YtfdgbgjbncakfaaWFoot
import Derived.Test.YtfdgbgjbncakfaaWKept
import Derived.Test.YtfdgbgjbncakfaaWShare
import Derived.Test.YtfdgbgjbncakfaaWN
import Derived.Test.YtfdgbgjbncakfaaWFootNe
import Derived.Test.YtfdgbgjbncakfaaWAt
import Derived.Test.YtfdgbgjbncakfaaWEqStruct
import Derived.Test.YtfdgbgjbncakfaaWRepsOne
import Derived.Test.YtfdgbgjbncakfaaWInv
import Derived.Test.YtfdgbgjbncakfaaWInvWords
import Derived.Test.YtfdgbgjbncakfaaWGuard
import Derived.Test.YtfdgbgjbncakfaaWNEv
import Derived.Test.YtfdgbgjbncakfaaWMore
namespace Go.Proofs.Ytfdgbgjbncakfaa.GIdEqual
open Go.RowKit Go.Proofs.YtfdgbgjbncakfaaW.PrintWords Go.Proofs.YtfdgbgjbncakfaaW.PrintLast Go.Proofs.YtfdgbgjbncakfaaW.PrintMore
attribute [local go_sem] max2_int min2_int max_two min_two max_three min_three max_four min_four   -- for this text's walks alone
set_option linter.unusedVariables false
set_option linter.unusedSimpArgs false



def errW : Option Int → Value
  | none => .nilIface
  | some c => .iface 0 (.int .i64 c)
theorem errW_none : errW none = .nilIface := rfl
theorem errW_some (c : Int) : errW (some c) = .iface 0 (.int .i64 c) := rfl

-- the values' own types

end Go.Proofs.Ytfdgbgjbncakfaa.GIdEqual
