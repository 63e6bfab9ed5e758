/- Whether lists of texts are within bounds is told, whatever they are. -/
import Derived.Test.YtefejcggkkmhaaaPFnValidKeysx2
import Derived.Test.YtefejcggkkmhaaaPlain
namespace Go.Proofs.Ytefejcggkkmhaaa.QvFits4
open Go.RowKit Go.Proofs.YtefejcggkkmhaaaW.PrintWords Go.Proofs.Ytefejcggkkmhaaa.PFnValidKeys Go.Proofs.Ytefejcggkkmhaaa.Plain

theorem fits4 (l : List ByteArray) (hl : l.length ≤ 9223372036854775806) : ∃ b, Ev (fun k => laws_zzFits4.f k l) b := by
  unfold laws_zzFits4.f
  by_cases h : (l.length : Int) > 2147483647
  · exact ⟨false, Ev.pos h (Ev.now _)⟩
  · have main : ∀ d j, l.length - j = d → j ≤ l.length → ∃ b, Ev (fun k => laws_zzFits4.l0 k l (l.length : Int) (j : Int)) b := by
      intro d
      induction d with
      | zero =>
        intro j hd hj
        refine ⟨true, Ev.step (fun k => laws_zzFits4.l0.eq_2 ..) (Ev.neg (by omega) (Ev.now _))⟩
      | succ d ih =>
        intro j hd hj
        have hlt : j < l.length := by omega
        obtain ⟨b, hb⟩ := ih (j + 1) (by omega) (by omega)
        by_cases hs : ((rdOf ByteArray.empty l (j : Int)).size : Int) > 2147483647
        · exact ⟨false, Ev.step (fun k => laws_zzFits4.l0.eq_2 ..) (Ev.pos (by omega) (Ev.pos (by omega) (Ev.pos (by omega) (Ev.pos hs (Ev.now _)))))⟩
        · refine ⟨b, Ev.step (fun k => laws_zzFits4.l0.eq_2 ..) (Ev.pos (by omega) (Ev.pos (by omega) (Ev.pos (by omega) (Ev.neg hs ?_))))⟩
          rw [wrap_nat (by omega)]
          exact hb
    obtain ⟨b, hb⟩ := main l.length 0 (by omega) (by omega)
    exact ⟨b, Ev.neg h hb⟩

end Go.Proofs.Ytefejcggkkmhaaa.QvFits4
