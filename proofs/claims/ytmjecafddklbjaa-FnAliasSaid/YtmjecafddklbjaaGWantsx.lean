-- Laid by a program of this session (stub.py)
import Derived.Test.YtmjecafddklbjaaGWantsx0
import Derived.Test.YtmjecafddklbjaaGWantsx1
import Derived.Test.YtmjecafddklbjaaGWantsx2
import Derived.Test.YtmjecafddklbjaaGWantsx3
namespace Go.Proofs.Ytmjecafddklbjaa.GWants
open Go.RowKit Go.Proofs.YtmjecafddklbjaaW.PrintWords Go.Proofs.YtmjecafddklbjaaW.PrintLast Go.Proofs.YtmjecafddklbjaaW.PrintMore
attribute [local go_sem] max2_int min2_int max_two min_two max_three min_three max_four min_four   -- for this text's walks alone
set_option linter.unusedVariables false
set_option linter.unusedSimpArgs false

end Go.Proofs.Ytmjecafddklbjaa.GWants
