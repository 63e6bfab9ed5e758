/- What FnIdEqual computes is true, whatever the ids. -/
import Derived.Test.YtfdgbgjbncakfaaGFnIdEqualx2
import Derived.Test.YtfdgbgjbncakfaaHId
namespace Go.Proofs.Ytfdgbgjbncakfaa.QIdEqual
open Go.RowKit Go.Proofs.YtfdgbgjbncakfaaW.PrintWords Go.Proofs.YtfdgbgjbncakfaaW.PrintLast Go.Proofs.YtfdgbgjbncakfaaW.PrintMore Go.Proofs.Ytfdgbgjbncakfaa.Plain Go.Proofs.Ytfdgbgjbncakfaa.HId Go.Proofs.Ytfdgbgjbncakfaa.HGvk Go.Proofs.Ytfdgbgjbncakfaa.HIdSel Go.Proofs.Ytfdgbgjbncakfaa.HEqLaw Go.Proofs.Ytfdgbgjbncakfaa.GFnIdEqual

theorem known : sameB (⟨#[]⟩ : ByteArray) (⟨#[]⟩ : ByteArray) (⟨#[90, 122]⟩ : ByteArray) (⟨#[]⟩ : ByteArray) (⟨#[]⟩ : ByteArray) (⟨#[]⟩ : ByteArray) (⟨#[90, 122]⟩ : ByteArray) (⟨#[]⟩ : ByteArray) = true := by
  simp [sameB]

theorem j5_true (K : Nat) (g v k n s g' v' k' n' s' : ByteArray) (sb : Bool) :
    laws_FnIdEqual.j5 (K + 1) (equalB g v k n s g' v' k' n' s') (sameB g v k n g' v' k' n') sb (sameB g v k n g' v' k' n') sb g v k n s g' v' k' n' s' = some true := by
  rw [laws_FnIdEqual.j5.eq_2]
  have h1 : ∀ g v k n s g' v' k' n' s', impl_IdEqual.f g v k n s g' v' k' n' s' = some (equalB g v k n s g' v' k' n' s', sameB g v k n g' v' k' n', selByB g v k n s g' v' k' n' s') := fun _ _ _ _ _ _ _ _ _ _ => rfl
  have h2 : ∀ g v k n s, laws_FnIdEqual_1.f g v k n s = some (orB s dflt) := fun _ _ _ _ _ => rfl
  have h3 : (sb == sb) = true := by cases sb <;> rfl
  simp only [h1, h2, Option.bind_some, known]
  unfold equalB
  cases hs : sameB g v k n g' v' k' n' with
  | false => rw [if_pos (by decide), if_neg (by decide), if_pos (by rw [Bool.false_and]; rfl), if_pos h3]
  | true =>
    have e : ((true && nsB s s') == ((orB s dflt).toList == (orB s' dflt).toList)) = true := by
      rw [Bool.true_and]; unfold nsB; exact beq_self_eq_true _
    simp only [e, h3, beq_self_eq_true, if_true]

theorem j4_true (K : Nat) (g v k n s g' v' k' n' s' : ByteArray) :
    laws_FnIdEqual.j4 (K + 2) (equalB g v k n s g' v' k' n' s') (sameB g v k n g' v' k' n') (selByB g v k n s g' v' k' n' s') (sameB g v k n g' v' k' n') g v k n s g' v' k' n' s' = some true := by
  have key : ∀ b, selByB g v k n s g' v' k' n' s' = b → laws_FnIdEqual.j5 (K + 1) (equalB g v k n s g' v' k' n' s') (sameB g v k n g' v' k' n') (selByB g v k n s g' v' k' n' s') (sameB g v k n g' v' k' n') b g v k n s g' v' k' n' s' = some true := by
    rintro b rfl
    exact j5_true K g v k n s g' v' k' n' s' _
  rw [laws_FnIdEqual.j4.eq_2]
  have h1 : spec_KySelected.f g v k n s g' v' k' n' s' = some (selB g v k g' v' k') := rfl
  have h2 : ∀ g v k n s, laws_FnIdEqual_1.f g v k n s = some (orB s dflt) := fun _ _ _ _ _ => rfl
  simp only [h1, h2, Option.bind_some]
  cases hsel : selB g v k g' v' k' with
  | false => rw [if_neg (by decide)]; exact key _ (by_of hsel rfl rfl)
  | true =>
    rw [if_pos rfl]
    have hz : ∀ z, (s'.toList = [] → z = true) → (¬ s'.toList = [] → z = nsB s' s) → (decide (s' = ByteArray.empty) || nsB s' s) = z := by
      intro z z1 z2
      rcases HIdSel.em_cases s' with ⟨e1, e2⟩ | ⟨e1, e2⟩
      · rw [z1 e1]; simp [e2]
      · have : ¬ s'.toList = [] := fun q => by rw [q] at e1; cases e1
        rw [z2 this]; simp [e2]
    by_cases hn : n'.toList = []
    · rw [if_pos hn]
      have hl : letB n' n = true := by rw [let_eq, if_pos hn]
      by_cases hs : s'.toList = []
      · rw [if_pos hs]; exact key _ (by_of hsel hl (hz true (fun _ => rfl) (fun h => absurd hs h)))
      · rw [if_neg hs]; exact key _ (by_of hsel hl (hz (nsB s' s) (fun h => absurd h hs) (fun _ => rfl)))
    · rw [if_neg hn]
      by_cases he : n'.toList = n.toList
      · rw [if_pos he]
        have hl : letB n' n = true := by rw [let_eq, if_neg hn, he, beq_self_eq_true]
        by_cases hs : s'.toList = []
        · rw [if_pos hs]; exact key _ (by_of hsel hl (hz true (fun _ => rfl) (fun h => absurd hs h)))
        · rw [if_neg hs]; exact key _ (by_of hsel hl (hz (nsB s' s) (fun h => absurd h hs) (fun _ => rfl)))
      · rw [if_neg he]
        have hl : letB n' n = false := by rw [let_eq, if_neg hn, beq_eq_false_iff_ne]; exact he
        exact key _ (by_of hsel hl rfl)

theorem j3_true (K : Nat) (g v k n s g' v' k' n' s' : ByteArray) : laws_FnIdEqual.j3 (K + 3) g v k n s g' v' k' n' s' = some true := by
  have key : ∀ b, sameB g v k n g' v' k' n' = b → laws_FnIdEqual.j4 (K + 2) (equalB g v k n s g' v' k' n' s') (sameB g v k n g' v' k' n') (selByB g v k n s g' v' k' n' s') b g v k n s g' v' k' n' s' = some true := by
    rintro b rfl
    exact j4_true K g v k n s g' v' k' n' s'
  rw [laws_FnIdEqual.j3.eq_2]
  have h1 : impl_IdEqual.f g v k n s g' v' k' n' s' = some (equalB g v k n s g' v' k' n' s', sameB g v k n g' v' k' n', selByB g v k n s g' v' k' n' s') := rfl
  simp only [h1, Option.bind_some]
  by_cases q0 : g.toList = g'.toList
  · rw [if_pos q0]
    by_cases q1 : v.toList = v'.toList
    · rw [if_pos q1]
      by_cases q2 : k.toList = k'.toList
      · rw [if_pos q2]
        exact key _ (same_of (x3 := n.toList == n'.toList) (beq_iff_eq.2 q0) (beq_iff_eq.2 q1) (beq_iff_eq.2 q2) rfl)
      · rw [if_neg q2]
        exact key _ (same_of (beq_iff_eq.2 q0) (beq_iff_eq.2 q1) (beq_eq_false_iff_ne.2 q2) rfl)
    · rw [if_neg q1]
      exact key _ (same_of (beq_iff_eq.2 q0) (beq_eq_false_iff_ne.2 q1) rfl rfl)
  · rw [if_neg q0]
    exact key _ (same_of (beq_eq_false_iff_ne.2 q0) rfl rfl rfl)

theorem j2_true (K : Nat) (g v k n s g' v' k' n' s' : ByteArray) : laws_FnIdEqual.j2 (K + 4) g v k n s g' v' k' n' s' = some true := by
  rw [laws_FnIdEqual.j2.eq_2]
  split <;> exact j3_true K _ _ _ _ _ _ _ _ _ _
theorem j1_true (K : Nat) (p : Int) (g v k n s g' v' k' n' s' : ByteArray) : laws_FnIdEqual.j1 (K + 5) p g v k n s g' v' k' n' s' = some true := by
  rw [laws_FnIdEqual.j1.eq_2]
  repeat' split
  all_goals exact j2_true K _ _ _ _ _ _ _ _ _ _
theorem j1_ev (p : Int) (g v k n s g' v' k' n' s' : ByteArray) : Ev (fun q => laws_FnIdEqual.j1 q p g v k n s g' v' k' n' s') true :=
  ⟨5, fun q hq => by obtain ⟨m, rfl⟩ : ∃ m, q = m + 5 := ⟨q - 5, by omega⟩; exact j1_true m p g v k n s g' v' k' n' s'⟩

theorem kyId_ev (a0 a1 a2 a3 a4 : ByteArray) (h : HEqLaw.fitsB a0 a1 a2 a3 a4 = true) : ∃ g v k n s, Ev (fun q => laws_kyId.f q a0 a1 a2 a3 a4) (g, v, k, n, s) := by
  simp only [HEqLaw.fitsB, Bool.and_eq_true, decide_eq_true_iff] at h
  obtain ⟨g, v, k, n, s, -, he⟩ := id_ev a0 a1 a2 a3 a4 h.1.1.1.1 h.1.1.1.2 h.1.1.2 h.1.2 h.2
  exact ⟨g, v, k, n, s, he⟩

theorem law_ev (a0 a1 a2 a3 a4 b0 b1 b2 b3 b4 : ByteArray) (p : Int) : ∃ k, laws_FnIdEqual.f k a0 a1 a2 a3 a4 b0 b1 b2 b3 b4 p = some true := by
  have h1 : ∀ g v k n s, laws_zzFits12.f g v k n s = some (HEqLaw.fitsB g v k n s) := fun _ _ _ _ _ => rfl
  have hno : ∃ k, laws_FnIdEqual.j0 k p true a0 a1 a2 a3 a4 b0 b1 b2 b3 b4 = some true := ⟨1, by rw [laws_FnIdEqual.j0.eq_2, if_pos rfl]⟩
  unfold laws_FnIdEqual.f
  simp only [h1, Option.bind_some]
  cases ha : HEqLaw.fitsB a0 a1 a2 a3 a4 with
  | false => simpa using hno
  | true =>
    cases hb : HEqLaw.fitsB b0 b1 b2 b3 b4 with
    | false => simpa using hno
    | true =>
      obtain ⟨g, v, k, n, s, he⟩ := kyId_ev a0 a1 a2 a3 a4 ha
      obtain ⟨g', v', k', n', s', he'⟩ := kyId_ev b0 b1 b2 b3 b4 hb
      have hev : Ev (fun q => laws_FnIdEqual.j0 q p false a0 a1 a2 a3 a4 b0 b1 b2 b3 b4) true := by
        refine Ev.step (fun q => laws_FnIdEqual.j0.eq_2 ..) (Ev.neg (by decide) ?_)
        refine Ev.bind (f := fun q bt105 => (laws_kyId.f q b0 b1 b2 b3 b4).bind fun bt110 => if (bt105 : ByteArray × ByteArray × ByteArray × ByteArray × ByteArray).2.2.1.toList = ([] : List UInt8) then _ else _) he ?_
        refine Ev.bind (f := fun q bt110 => if k.toList = ([] : List UInt8) then laws_FnIdEqual.j1 q p g v (⟨#[90, 122]⟩ : ByteArray) n s (bt110 : ByteArray × ByteArray × ByteArray × ByteArray × ByteArray).1 bt110.2.1 bt110.2.2.1 bt110.2.2.2.1 bt110.2.2.2.2 else laws_FnIdEqual.j1 q p g v k n s bt110.1 bt110.2.1 bt110.2.2.1 bt110.2.2.2.1 bt110.2.2.2.2) he' ?_
        by_cases hk : k.toList = ([] : List UInt8)
        · exact Ev.pos hk (j1_ev ..)
        · exact Ev.neg hk (j1_ev ..)
      obtain ⟨q, hq⟩ := hev.rounds
      exact ⟨q, by simpa using hq⟩

end Go.Proofs.Ytfdgbgjbncakfaa.QIdEqual
