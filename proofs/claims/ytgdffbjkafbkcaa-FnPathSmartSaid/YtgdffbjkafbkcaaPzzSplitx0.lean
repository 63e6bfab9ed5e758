-- PRINTED BY print.sh 35421559b90ae4d0a3588c463048766b98c2df88dd9212a6774a882060cdf62d: not written by this session
import Derived.Test.YtgdffbjkafbkcaaProg
import Derived.Below
import Derived.Deep.Draws
import Derived.Deep.AppendLies
import Derived.Maps.AppendAt
import Derived.OwnWalk
import Derived.Laws.BytesArg
import Derived.Laws.MakeOwn
import Derived.Laws.OwnMore
import Derived.Deep.OwnRows
import Derived.Tactics
import Derived.Lib.ConvBytes
import Derived.Laws.Slices
import Derived.WalkKit
import Derived.KernelRfl
import Derived.RowKit3
import Derived.Deep.LoopGhost
import Derived.Deep.QuietTactic
import Derived.BigQuiet
import Derived.WideLaws
import Derived.Deep.DeepCutAuto
import Derived.Deep.CutBlock
import Derived.Deep.RegionHeld3
import Derived.Laws.Rows
import Derived.Lib.AppendStr
import Derived.ArgAppend
import Derived.Laws.IdiomCopy
import Derived.OrdersHeld
import Derived.Laws.BitsLemmas
import Derived.RowKit
import Derived.Test.YtgdffbjkafbkcaaWWords
import Derived.Test.YtgdffbjkafbkcaaWLast
import Derived.Test.YtgdffbjkafbkcaaWTab
import Derived.Test.YtgdffbjkafbkcaaWFour
import Derived.Test.YtgdffbjkafbkcaaWQPut
import Derived.Test.YtgdffbjkafbkcaaWApart
import Derived.Test.YtgdffbjkafbkcaaWArr
import Derived.Test.YtgdffbjkafbkcaaWZeros
import Derived.Test.YtgdffbjkafbkcaaWFoot
import Derived.Test.YtgdffbjkafbkcaaWKept
import Derived.Test.YtgdffbjkafbkcaaWShare
import Derived.Test.YtgdffbjkafbkcaaWN
import Derived.Test.YtgdffbjkafbkcaaWFootNe
import Derived.Test.YtgdffbjkafbkcaaWAt
import Derived.Test.YtgdffbjkafbkcaaWEqStruct
import Derived.Test.YtgdffbjkafbkcaaWRepsOne
import Derived.Test.YtgdffbjkafbkcaaWInv
import Derived.Test.YtgdffbjkafbkcaaWInvWords
import Derived.Test.YtgdffbjkafbkcaaWGuard
import Derived.Test.YtgdffbjkafbkcaaWNEv
import Derived.Test.YtgdffbjkafbkcaaWMore
namespace Go.Proofs.Ytgdffbjkafbkcaa.PzzSplit
open Go.RowKit Go.Proofs.YtgdffbjkafbkcaaW.PrintWords Go.Proofs.YtgdffbjkafbkcaaW.PrintLast Go.Proofs.YtgdffbjkafbkcaaW.PrintMore
attribute [local go_sem] max2_int min2_int max_two min_two max_three min_three max_four min_four   -- for this text's walks alone
set_option linter.unusedVariables false
set_option linter.unusedSimpArgs false



def errW : Option Int → Value
  | none => .nilIface
  | some c => .iface 0 (.int .i64 c)
theorem errW_none : errW none = .nilIface := rfl
theorem errW_some (c : Int) : errW (some c) = .iface 0 (.int .i64 c) := rfl

theorem info9 : (Try.prog.info? 9).map (fun i => (i.zero, i.size, i.bytes)) = some (some (.string ⟨#[]⟩), 1, 16) := by kernel_rfl
-- the values' own types

end Go.Proofs.Ytgdffbjkafbkcaa.PzzSplit
