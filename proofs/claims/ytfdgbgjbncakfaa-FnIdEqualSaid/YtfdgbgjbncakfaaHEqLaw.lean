/- The law FnIdEqual returns true for every input: ids that are equal, alike, or select one another. -/
import Derived.Test.YtfdgbgjbncakfaaGFnIdEqualx2b
import Derived.Test.YtfdgbgjbncakfaaQIdEqual
namespace Go.Proofs.Ytfdgbgjbncakfaa.HEqLaw
open Go.RowKit Go.Proofs.YtfdgbgjbncakfaaW.PrintWords

theorem law_calls (a0 a1 a2 a3 a4 b0 b1 b2 b3 b4 : ByteArray) (p : Int) (w : World) (_hp : (Lit.int .u8 p).wf = true) :
    Calls Try.prog 3 #[.agg #[.string a0, .string a1, .string a2, .string a3, .string a4], .agg #[.string b0, .string b1, .string b2, .string b3, .string b4], .int .u8 p] w fun e w' => e = .returned (.bool true) ∧ Below w.heap.size w w' := by
  obtain ⟨k, hk⟩ := QIdEqual.law_ev a0 a1 a2 a3 a4 b0 b1 b2 b3 b4 p
  exact GFnIdEqual.laws_FnIdEqual.calls k a0 a1 a2 a3 a4 b0 b1 b2 b3 b4 p true w hk

end Go.Proofs.Ytfdgbgjbncakfaa.HEqLaw
