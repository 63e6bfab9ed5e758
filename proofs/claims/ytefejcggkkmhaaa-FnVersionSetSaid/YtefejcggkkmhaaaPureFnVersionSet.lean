/- The pure statement of FnVersionSet: a version is in a set if it is one of those that are in it. -/
import Derived.Test.YtefejcggkkmhaaaPFnVersionSetx
import Derived.Test.YtefejcggkkmhaaaPlain
namespace Go.Proofs.Ytefejcggkkmhaaa.Pure
open Go.RowKit Go.Proofs.YtefejcggkkmhaaaW.PrintWords Go.Proofs.YtefejcggkkmhaaaW.PrintLast Go.Proofs.YtefejcggkkmhaaaW.PrintMore Go.Proofs.Ytefejcggkkmhaaa.PFnVersionSet Go.Proofs.Ytefejcggkkmhaaa.Plain

theorem fits4 (l : List ByteArray) (hl : l.length ≤ 9223372036854775806) : ∃ b, Ev (fun k => laws_zzFits4.f k l) b := by
  unfold laws_zzFits4.f
  by_cases h : (l.length : Int) > 2147483647
  · exact ⟨false, Ev.pos h (Ev.now _)⟩
  · have main : ∀ d j, l.length - j = d → j ≤ l.length → ∃ b, Ev (fun k => laws_zzFits4.l0 k l (l.length : Int) (j : Int)) b := by
      intro d
      induction d with
      | zero =>
        intro j hd hj
        refine ⟨true, Ev.step (fun k => laws_zzFits4.l0.eq_2 ..) (Ev.neg (by omega) (Ev.now _))⟩
      | succ d ih =>
        intro j hd hj
        have hlt : j < l.length := by omega
        obtain ⟨b, hb⟩ := ih (j + 1) (by omega) (by omega)
        by_cases hs : ((rdOf ByteArray.empty l (j : Int)).size : Int) > 2147483647
        · exact ⟨false, Ev.step (fun k => laws_zzFits4.l0.eq_2 ..) (Ev.pos (by omega) (Ev.pos (by omega) (Ev.pos (by omega) (Ev.pos hs (Ev.now _)))))⟩
        · refine ⟨b, Ev.step (fun k => laws_zzFits4.l0.eq_2 ..) (Ev.pos (by omega) (Ev.pos (by omega) (Ev.pos (by omega) (Ev.neg hs ?_))))⟩
          rw [wrap_nat (by omega)]
          exact hb
    obtain ⟨b, hb⟩ := main l.length 0 (by omega) (by omega)
    exact ⟨b, Ev.neg h hb⟩

theorem has_tells (l : List ByteArray) (a : ByteArray) (hl : l.length ≤ 9223372036854775806) : Ev (fun k => impl_VersionSetHas.f k l a) (has a l) := by
  unfold impl_VersionSetHas.f chartutil_VersionSet_Has.f
  refine Ev.ret ?_
  have main : ∀ d j, l.length - j = d → j ≤ l.length → Ev (fun k => chartutil_VersionSet_Has.l0 k a l (l.length : Int) (j : Int)) (has a (l.drop j)) := by
    intro d
    induction d with
    | zero =>
      intro j hd hj
      refine evEq (Ev.step (fun k => chartutil_VersionSet_Has.l0.eq_2 ..) (Ev.neg (by omega) (Ev.now _))) ?_
      rw [List.drop_of_length_le (by omega)]
      rfl
    | succ d ih =>
      intro j hd hj
      have hlt : j < l.length := by omega
      refine Ev.step (fun k => chartutil_VersionSet_Has.l0.eq_2 ..) (Ev.pos (by omega) (Ev.pos (by omega) (Ev.pos (by omega) ?_)))
      rw [rdOf_nat _ _ _ hlt]
      by_cases hs : l[j] = a
      · refine evEq (Ev.pos (toList_inj.2 hs) (Ev.now _)) ?_
        rw [drop_next hlt, has_cons]
        simp [hs]
      · refine Ev.neg (fun h => hs (toList_inj.1 h)) ?_
        rw [wrap_nat (by omega)]
        refine evEq (ih (j + 1) (by omega) (by omega)) ?_
        rw [drop_next hlt, has_cons]
        simp [hs]
  exact main l.length 0 (by omega) (by omega)

theorem law_loop (l : List ByteArray) (a : ByteArray) (hl : l.length ≤ 9223372036854775806) : ∀ d j b, l.length - j = d → j ≤ l.length → b = has a (l.take j) →
    Ev (fun k => laws_FnVersionSet.l0 k l a b l (l.length : Int) (j : Int)) true := by
  intro d
  induction d with
  | zero =>
    intro j b hd hj hb
    refine Ev.step (fun k => laws_FnVersionSet.l0.eq_2 ..) (Ev.neg (by omega) ?_)
    refine Ev.bind (has_tells l a hl) ?_
    refine Ev.pos ?_ ?_
    · rw [hb, List.take_of_length_le (by omega)]
      simp
    · refine Ev.ret (evEq (has_tells [(⟨#[118, 49]⟩ : ByteArray)] (⟨#[118, 49]⟩ : ByteArray) (by simp)) ?_)
      rfl
  | succ d ih =>
    intro j b hd hj hb
    have hlt : j < l.length := by omega
    refine Ev.step (fun k => laws_FnVersionSet.l0.eq_2 ..) (Ev.pos (by omega) (Ev.pos (by omega) (Ev.pos (by omega) ?_)))
    rw [wrap_nat (by omega), rdOf_nat _ _ _ hlt, beq_toList]
    by_cases hc : b = true
    · refine Ev.pos hc (ih (j + 1) true (by omega) (by omega) ?_)
      rw [hc] at hb
      rw [take_next hlt, has_snoc, ← hb]
      rfl
    · refine Ev.neg hc (ih (j + 1) _ (by omega) (by omega) ?_)
      rw [take_next hlt, has_snoc, ← hb]
      simp [hc]

theorem FnVersionSet (l0 : (List ByteArray)) (_w0 : (fun l : List ByteArray => l.length ≤ maxLen ∧ l.length * 16 ≤ 140737488351232 ∧ ∀ a ∈ l, (fun s : ByteArray => s.size ≤ 140737488351232) a) l0) (a1 : ByteArray) (_w1 : (fun s : ByteArray => s.size ≤ 140737488351232) a1) :
    ∃ k, laws_FnVersionSet.f k l0 a1 = some true := by
  obtain ⟨_, h1, _⟩ := _w0
  have hl : l0.length ≤ 9223372036854775806 := by omega
  have hE : Ev (fun k => laws_FnVersionSet.f k l0 a1) true := by
    unfold laws_FnVersionSet.f
    obtain ⟨b, hb⟩ := fits4 l0 hl
    refine Ev.bind hb ?_
    have hloop := law_loop l0 a1 hl l0.length 0 false (by omega) (by omega) rfl
    have hj : ∀ c, Ev (fun k => laws_FnVersionSet.j0 k l0 a1 c) true := by
      intro c
      refine Ev.step (fun k => laws_FnVersionSet.j0.eq_2 ..) ?_
      cases c with
      | true => exact Ev.pos rfl (Ev.now _)
      | false => exact Ev.neg (by simp) hloop
    cases b with
    | true => exact Ev.pos rfl (hj _)
    | false => exact Ev.neg (by simp) (hj _)
  exact hE.rounds

end Go.Proofs.Ytefejcggkkmhaaa.Pure
