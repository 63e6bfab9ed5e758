/- Whether two lists of texts are the same: what KySameTexts comes to. -/
import Derived.Test.YtefejcggkkmhaaaPFnValidKeysx2
import Derived.Test.YtefejcggkkmhaaaPlain
namespace Go.Proofs.Ytefejcggkkmhaaa.QvSame
open Go.RowKit Go.Proofs.YtefejcggkkmhaaaW.PrintWords Go.Proofs.Ytefejcggkkmhaaa.PFnValidKeys Go.Proofs.Ytefejcggkkmhaaa.Plain

theorem same_refl (l : List ByteArray) (hl : l.length ≤ 9223372036854775806) : Ev (fun k => spec_KySameTexts.f k l l) true := by
  unfold spec_KySameTexts.f
  refine Ev.pos rfl ?_
  have main : ∀ d j, l.length - j = d → j ≤ l.length → Ev (fun k => spec_KySameTexts.l0 k l l (l.length : Int) (j : Int)) true := by
    intro d
    induction d with
    | zero =>
      intro j hd hj
      exact Ev.step (fun k => spec_KySameTexts.l0.eq_2 ..) (Ev.neg (by omega) (Ev.now _))
    | succ d ih =>
      intro j hd hj
      refine Ev.step (fun k => spec_KySameTexts.l0.eq_2 ..) (Ev.pos (by omega) (Ev.pos (by omega) (Ev.pos (by omega) (Ev.pos (by omega) (Ev.pos rfl ?_)))))
      rw [wrap_nat (by omega)]
      exact ih (j + 1) (by omega) (by omega)
  exact main _ 0 rfl (by omega)

end Go.Proofs.Ytefejcggkkmhaaa.QvSame
