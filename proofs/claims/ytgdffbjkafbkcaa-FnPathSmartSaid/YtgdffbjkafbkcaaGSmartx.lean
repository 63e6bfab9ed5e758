-- Laid by a program of this session (stub.py)
import Derived.Test.YtgdffbjkafbkcaaGSmartx0
import Derived.Test.YtgdffbjkafbkcaaGSmartx1
import Derived.Test.YtgdffbjkafbkcaaGSmartx2
import Derived.Test.YtgdffbjkafbkcaaGSmartx3
import Derived.Test.YtgdffbjkafbkcaaGSmartx4
namespace Go.Proofs.Ytgdffbjkafbkcaa.GSmart
open Go.RowKit Go.Proofs.YtgdffbjkafbkcaaW.PrintWords Go.Proofs.YtgdffbjkafbkcaaW.PrintLast Go.Proofs.YtgdffbjkafbkcaaW.PrintMore
attribute [local go_sem] max2_int min2_int max_two min_two max_three min_three max_four min_four   -- for this text's walks alone
set_option linter.unusedVariables false
set_option linter.unusedSimpArgs false

end Go.Proofs.Ytgdffbjkafbkcaa.GSmart
