/- Whether a value is within bounds is told, whatever it is. -/
import Derived.Test.YtjfbjkodjjlkiaaBA
namespace Go.Proofs.Ytjfbjkodjjlkiaa.HVal
open Go.RowKit Go.WideMaps Go.Maps Go.Proofs.YtjfbjkodjjlkiaaW.PrintWords Go.Proofs.YtjfbjkodjjlkiaaW.PrintLast Go.Proofs.YtjfbjkodjjlkiaaW.PrintMore Go.Proofs.Ytjfbjkodjjlkiaa.Plain Go.Proofs.Ytjfbjkodjjlkiaa.GTab

theorem fits4 (l : List ByteArray) : ∃ b, Ev (fun k => laws_zzFits4.f k l) b ∧ (b = true → l.length ≤ 2147483647 ∧ ∀ x ∈ l, x.size ≤ 2147483647) := by
  unfold laws_zzFits4.f
  by_cases h : (l.length : Int) > 2147483647
  · exact ⟨false, Ev.pos h (Ev.now _), fun e => by cases e⟩
  · have main : ∀ d j, l.length - j = d → j ≤ l.length → ∃ b, Ev (fun k => laws_zzFits4.l0 k l (l.length : Int) (j : Int)) b ∧ (b = true → ∀ x ∈ l.drop j, x.size ≤ 2147483647) := by
      intro d
      induction d with
      | zero =>
        intro j hd hj
        refine ⟨true, Ev.step (fun k => laws_zzFits4.l0.eq_2 ..) (Ev.neg (by omega) (Ev.now _)), fun _ x hx => ?_⟩
        rw [List.drop_eq_nil_of_le (by omega)] at hx
        cases hx
      | succ d ih =>
        intro j hd hj
        have hlt : j < l.length := by omega
        obtain ⟨b, hb, hP⟩ := ih (j + 1) (by omega) (by omega)
        have hr : rdOf ByteArray.empty l (j : Int) = l[j] := rdOf_nat _ l j hlt
        by_cases hs : ((rdOf ByteArray.empty l (j : Int)).size : Int) > 2147483647
        · exact ⟨false, Ev.step (fun k => laws_zzFits4.l0.eq_2 ..) (Ev.pos (by omega) (Ev.pos (by omega) (Ev.pos (by omega) (Ev.pos hs (Ev.now _))))), fun e => by cases e⟩
        · refine ⟨b, Ev.step (fun k => laws_zzFits4.l0.eq_2 ..) (Ev.pos (by omega) (Ev.pos (by omega) (Ev.pos (by omega) (Ev.neg hs ?_)))), fun e x hx => ?_⟩
          · rw [wrap_nat (by omega)]
            exact hb
          · rw [drop_next hlt, List.mem_cons] at hx
            rcases hx with rfl | hx
            · rw [hr] at hs
              omega
            · exact hP e x hx
    obtain ⟨b, hb, hP⟩ := main l.length 0 (by omega) (by omega)
    exact ⟨b, Ev.neg h hb, fun e => ⟨by omega, fun x hx => hP e x (by simpa using hx)⟩⟩
theorem fits7_calls {w : World} {P : Nat → Prop} {x : S26} {A5 A6 : Option Addr} {c5 c6 : Nat} (hv : KV w P x A5 c5 A6 c6) : ∃ b, ∀ w' : World, Below w.heap.size w w' → Calls Try.prog 11 #[agg26 x A5 c5 A6 c6] w' fun e w2 => e = .returned (.bool b) ∧ Below w'.heap.size w' w2 := by
  have main : ∃ r k, laws_zzFits7.f k x.f0 x.f1 x.f2 x.f3 x.f4 x.f5 x.f6 = some r := by
    unfold laws_zzFits7.f
    by_cases h0 : (x.f4.size : Int) > 2147483647
    · exact ⟨false, 0, by rw [if_pos h0]⟩
    obtain ⟨b, hb, _⟩ := fits4 x.f5
    obtain ⟨k, hk⟩ := hb.rounds
    cases b with
    | false => exact ⟨false, k, by rw [if_neg h0, hk]; rfl⟩
    | true =>
      by_cases h1 : (x.f6.length : Int) > 2147483647
      · exact ⟨false, k, by rw [if_neg h0, hk]; simp [h1]⟩
      · exact ⟨true, k, by rw [if_neg h0, hk]; simp [h1]⟩
  obtain ⟨r, k, hk⟩ := main
  refine ⟨r, fun w' hb => ?_⟩
  have hv' := hv.below hb
  exact laws_zzFits7.calls k _ _ _ _ _ _ _ _ _ _ _ r w' (Kd.F_now hv'.g5) hv'.l5 (Kd.F_now hv'.g6) hv'.l6 hk
end Go.Proofs.Ytjfbjkodjjlkiaa.HVal
