/- What the size test and kyId come to, for the law FnGvkLess. -/
import Derived.Test.YtfdgbgjbncakfaaDoorHLess
import Derived.Test.YtfdgbgjbncakfaaDoorPzzFits12x
import Derived.LoopTactic
import Derived.Deep.RegionHeld3
namespace Go.Proofs.YtfdgbgjbncakfaaDoor.HLaw
open Go.RowKit Go.Proofs.YtfdgbgjbncakfaaDoorW.PrintWords Go.Proofs.YtfdgbgjbncakfaaDoorW.PrintLast Go.Proofs.YtfdgbgjbncakfaaDoorW.PrintMore Go.Proofs.YtfdgbgjbncakfaaDoor.Plain Go.Proofs.YtfdgbgjbncakfaaDoor.HId Go.Proofs.YtfdgbgjbncakfaaDoor.QkyPlain Go.Proofs.YtfdgbgjbncakfaaDoor.HOrd Go.Proofs.YtfdgbgjbncakfaaDoor.HLess

def fitsB (a0 a1 a2 a3 a4 : ByteArray) : Bool := decide (a0.size ≤ 2147483647) && decide (a1.size ≤ 2147483647) && decide (a2.size ≤ 2147483647) && decide (a3.size ≤ 2147483647) && decide (a4.size ≤ 2147483647)
theorem fits_calls (a0 a1 a2 a3 a4 : ByteArray) (w : World) : Calls Tryd.prog 4 #[.agg #[.string a0, .string a1, .string a2, .string a3, .string a4]] w fun e w' => e = .returned (.bool (fitsB a0 a1 a2 a3 a4)) ∧ Below w.heap.size w w' := by
  refine PzzFits12.laws_zzFits12.calls a0 a1 a2 a3 a4 _ w ?_
  unfold PzzFits12.laws_zzFits12.f fitsB
  by_cases h0 : a0.size ≤ 2147483647
  · by_cases h1 : a1.size ≤ 2147483647
    · by_cases h2 : a2.size ≤ 2147483647
      · by_cases h3 : a3.size ≤ 2147483647
        · by_cases h4 : a4.size ≤ 2147483647
          · rw [if_neg (by omega), if_neg (by omega), if_neg (by omega), if_neg (by omega), if_neg (by omega)]; simp [h0, h1, h2, h3, h4]
          · rw [if_neg (by omega), if_neg (by omega), if_neg (by omega), if_neg (by omega), if_pos (by omega)]; simp [h4]
        · rw [if_neg (by omega), if_neg (by omega), if_neg (by omega), if_pos (by omega)]; simp [h3]
      · rw [if_neg (by omega), if_neg (by omega), if_pos (by omega)]; simp [h2]
    · rw [if_neg (by omega), if_pos (by omega)]; simp [h1]
  · rw [if_pos (by omega)]; simp [h0]

theorem id_any (a0 a1 a2 a3 a4 : ByteArray) (h : fitsB a0 a1 a2 a3 a4 = true) : ∃ g v k n s, IdOk g v k n s ∧ ∀ w : World, Calls Tryd.prog 5 #[.agg #[.string a0, .string a1, .string a2, .string a3, .string a4]] w fun e w' => e = .returned (.agg #[.string g, .string v, .string k, .string n, .string s]) ∧ Below w.heap.size w w' := by
  simp only [fitsB, Bool.and_eq_true, decide_eq_true_iff] at h
  obtain ⟨g, v, k, n, s, hok, he⟩ := id_ev a0 a1 a2 a3 a4 (Nat.le_trans h.1.1.1.1 (by decide)) (Nat.le_trans h.1.1.1.2 (by decide)) (Nat.le_trans h.1.1.2 (by decide)) (Nat.le_trans h.1.2 (by decide)) (Nat.le_trans h.2 (by decide))
  obtain ⟨q, hq⟩ := he.rounds
  exact ⟨g, v, k, n, s, hok, fun w => HkyId.laws_kyId.calls q a0 a1 a2 a3 a4 g v k n s w hq⟩

theorem id_small {g v k n s : ByteArray} (h : IdOk g v k n s) : g.size ≤ 1000 ∧ v.size ≤ 1000 ∧ k.size ≤ 1000 := by
  refine ⟨?_, by have := h.v.1; omega, ?_⟩
  · obtain ⟨u, hu, hg⟩ := h.g
    have := hu.1
    rcases hg with rfl | rfl
    · omega
    · rw [ByteArray.size_append]; show u.size + 3 ≤ _; omega
  · rcases h.k with rfl | ⟨u, hu, rfl⟩
    · decide
    · have := hu.1
      rw [ByteArray.size_append]; show 2 + u.size ≤ _; omega


end Go.Proofs.YtfdgbgjbncakfaaDoor.HLaw
