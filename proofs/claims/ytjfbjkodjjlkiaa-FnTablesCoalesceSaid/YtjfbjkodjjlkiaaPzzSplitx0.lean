-- PRINTED BY print.sh 35421559b90ae4d0a3588c463048766b98c2df88dd9212a6774a882060cdf62d: not written by this session
import Derived.Test.YtjfbjkodjjlkiaaProg
import Derived.Below
import Derived.Deep.Draws
import Derived.Deep.AppendLies
import Derived.Maps.AppendAt
import Derived.OwnWalk
import Derived.Laws.BytesArg
import Derived.Laws.MakeOwn
import Derived.Laws.OwnMore
import Derived.Deep.OwnRows
import Derived.Tactics
import Derived.Lib.ConvBytes
import Derived.Laws.Slices
import Derived.WalkKit
import Derived.KernelRfl
import Derived.RowKit3
import Derived.Deep.LoopGhost
import Derived.Deep.QuietTactic
import Derived.BigQuiet
import Derived.WideLaws
import Derived.Deep.DeepCutAuto
import Derived.Deep.CutBlock
import Derived.Deep.RegionHeld3
import Derived.Laws.Rows
import Derived.Lib.AppendStr
import Derived.ArgAppend
import Derived.Laws.IdiomCopy
import Derived.OrdersHeld
import Derived.Laws.BitsLemmas
import Derived.RowKit
import Derived.Test.YtjfbjkodjjlkiaaWWords
import Derived.Test.YtjfbjkodjjlkiaaWLast
import Derived.Test.YtjfbjkodjjlkiaaWTab
import Derived.Test.YtjfbjkodjjlkiaaWFour
import Derived.Test.YtjfbjkodjjlkiaaWQPut
import Derived.Test.YtjfbjkodjjlkiaaWApart
import Derived.Test.YtjfbjkodjjlkiaaWArr
import Derived.Test.YtjfbjkodjjlkiaaWZeros
import Derived.Test.YtjfbjkodjjlkiaaWFoot
import Derived.Test.YtjfbjkodjjlkiaaWKept
import Derived.Test.YtjfbjkodjjlkiaaWShare
import Derived.Test.YtjfbjkodjjlkiaaWN
import Derived.Test.YtjfbjkodjjlkiaaWFootNe
import Derived.Test.YtjfbjkodjjlkiaaWAt
import Derived.Test.YtjfbjkodjjlkiaaWEqStruct
import Derived.Test.YtjfbjkodjjlkiaaWRepsOne
import Derived.Test.YtjfbjkodjjlkiaaWInv
import Derived.Test.YtjfbjkodjjlkiaaWInvWords
import Derived.Test.YtjfbjkodjjlkiaaWGuard
import Derived.Test.YtjfbjkodjjlkiaaWNEv
import Derived.Test.YtjfbjkodjjlkiaaWMore
namespace Go.Proofs.Ytjfbjkodjjlkiaa.PzzSplit
open Go.RowKit Go.Proofs.YtjfbjkodjjlkiaaW.PrintWords Go.Proofs.YtjfbjkodjjlkiaaW.PrintLast Go.Proofs.YtjfbjkodjjlkiaaW.PrintMore
attribute [local go_sem] max2_int min2_int max_two min_two max_three min_three max_four min_four   -- for this text's walks alone
set_option linter.unusedVariables false
set_option linter.unusedSimpArgs false



def errW : Option Int → Value
  | none => .nilIface
  | some c => .iface 0 (.int .i64 c)
theorem errW_none : errW none = .nilIface := rfl
theorem errW_some (c : Int) : errW (some c) = .iface 0 (.int .i64 c) := rfl

-- the values' own types

end Go.Proofs.Ytjfbjkodjjlkiaa.PzzSplit
