-- PRINTED BY print.sh 35421559b90ae4d0a3588c463048766b98c2df88dd9212a6774a882060cdf62d: not written by this session
import Derived.Test.YtfdgbgjbncakfaaDoorProg
import Derived.Below
import Derived.Deep.Draws
import Derived.Deep.AppendLies
import Derived.Maps.AppendAt
import Derived.OwnWalk
import Derived.Laws.BytesArg
import Derived.Laws.MakeOwn
import Derived.Laws.OwnMore
import Derived.Deep.OwnRows
import Derived.Tactics
import Derived.Lib.ConvBytes
import Derived.Laws.Slices
import Derived.WalkKit
import Derived.KernelRfl
import Derived.RowKit3
import Derived.Deep.LoopGhost
import Derived.Deep.QuietTactic
import Derived.BigQuiet
import Derived.WideLaws
import Derived.Deep.DeepCutAuto
import Derived.Deep.CutBlock
import Derived.Deep.RegionHeld3
import Derived.Laws.Rows
import Derived.Lib.AppendStr
import Derived.ArgAppend
import Derived.Laws.IdiomCopy
import Derived.OrdersHeld
import Derived.Laws.BitsLemmas
import Derived.RowKit
import Derived.Test.YtfdgbgjbncakfaaDoorWWords
import Derived.Test.YtfdgbgjbncakfaaDoorWLast
import Derived.Test.YtfdgbgjbncakfaaDoorWTab
import Derived.Test.YtfdgbgjbncakfaaDoorWFour
import Derived.Test.YtfdgbgjbncakfaaDoorWQPut
import Derived.Test.YtfdgbgjbncakfaaDoorWApart
import Derived.Test.YtfdgbgjbncakfaaDoorWArr
import Derived.Test.YtfdgbgjbncakfaaDoorWZeros
import Derived.Test.YtfdgbgjbncakfaaDoorWFoot
import Derived.Test.YtfdgbgjbncakfaaDoorWKept
import Derived.Test.YtfdgbgjbncakfaaDoorWShare
import Derived.Test.YtfdgbgjbncakfaaDoorWN
import Derived.Test.YtfdgbgjbncakfaaDoorWFootNe
import Derived.Test.YtfdgbgjbncakfaaDoorWAt
import Derived.Test.YtfdgbgjbncakfaaDoorWEqStruct
import Derived.Test.YtfdgbgjbncakfaaDoorWRepsOne
import Derived.Test.YtfdgbgjbncakfaaDoorWInv
import Derived.Test.YtfdgbgjbncakfaaDoorWInvWords
import Derived.Test.YtfdgbgjbncakfaaDoorWGuard
import Derived.Test.YtfdgbgjbncakfaaDoorWNEv
import Derived.Test.YtfdgbgjbncakfaaDoorWMore
namespace Go.Proofs.YtfdgbgjbncakfaaDoor.Pgvk
open Go.RowKit Go.Proofs.YtfdgbgjbncakfaaDoorW.PrintWords Go.Proofs.YtfdgbgjbncakfaaDoorW.PrintLast Go.Proofs.YtfdgbgjbncakfaaDoorW.PrintMore
attribute [local go_sem] max2_int min2_int max_two min_two max_three min_three max_four min_four   -- for this text's walks alone
set_option linter.unusedVariables false
set_option linter.unusedSimpArgs false



def errW : Option Int → Value
  | none => .nilIface
  | some c => .iface 0 (.int .i64 c)
theorem errW_none : errW none = .nilIface := rfl
theorem errW_some (c : Int) : errW (some c) = .iface 0 (.int .i64 c) := rfl

-- the values' own types

end Go.Proofs.YtfdgbgjbncakfaaDoor.Pgvk
