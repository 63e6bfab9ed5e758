/- At most so many texts, each cut at 40 bytes: what kyCut comes to. -/
import Derived.Test.YtefejcggkkmhaaaPFnValidKeysx2
import Derived.Test.YtefejcggkkmhaaaPlain
namespace Go.Proofs.Ytefejcggkkmhaaa.QvKyCut
open Go.RowKit Go.Proofs.YtefejcggkkmhaaaW.PrintWords Go.Proofs.Ytefejcggkkmhaaa.PFnValidKeys Go.Proofs.Ytefejcggkkmhaaa.Plain

def cut40 (s : ByteArray) : ByteArray := s.extract 0 (min s.size 40)
theorem mn_nat (a b : Nat) : mn (a : Int) (b : Int) = ((min a b : Nat) : Int) := by unfold mn; split <;> omega

theorem kyCut (l : List ByteArray) (m : Nat) (hm : m ≤ 1000) (hl : l.length ≤ 9223372036854775806) : Ev (fun k => laws_kyCut.f k l (m : Int)) ((l.take m).map cut40) := by
  unfold laws_kyCut.f
  have main : ∀ d j, min l.length m - j = d → j ≤ min l.length m → Ev (fun k => laws_kyCut.l0 k l (m : Int) ((l.take j).map cut40) (j : Int)) ((l.take m).map cut40) := by
    intro d
    induction d with
    | zero =>
      intro j hd hj
      have e : l.take j = l.take m := by
        rcases Nat.le_total l.length m with h | h
        · rw [List.take_of_length_le (by omega), List.take_of_length_le h]
        · rw [show j = m by omega]
      refine Ev.step (fun k => laws_kyCut.l0.eq_2 ..) ?_
      rw [e]
      by_cases h : (j : Int) < (l.length : Int)
      · exact Ev.pos h (Ev.neg (by omega) (Ev.now _))
      · exact Ev.neg h (Ev.now _)
    | succ d ih =>
      intro j hd hj
      have hlt : j < l.length := by omega
      refine Ev.step (fun k => laws_kyCut.l0.eq_2 ..) (Ev.pos (by omega) (Ev.pos (by omega) (Ev.pos (by omega) ?_)))
      rw [rdOf_nat _ _ _ hlt, show (40 : Int) = ((40 : Nat) : Int) from rfl, mn_nat, Int.toNat_natCast]
      refine Ev.pos (by omega) (Ev.pos (by omega) (Ev.pos (by simp; omega) ?_))
      rw [wrap_nat (by omega)]
      have e : (l.take j).map cut40 ++ [l[j].extract 0 (min l[j].size 40)] = (l.take (j + 1)).map cut40 := by rw [take_next hlt, List.map_append]; rfl
      rw [e]
      exact ih (j + 1) (by omega) (by omega)
  exact main _ 0 rfl (by omega)

end Go.Proofs.Ytefejcggkkmhaaa.QvKyCut
