/- What IdEqual, the law's own inner function and the reference's KySelected come to. -/
import Derived.Test.YtfdgbgjbncakfaaHIdSelBy
import Derived.Test.YtfdgbgjbncakfaaGIdEqualx2b
import Derived.Test.YtfdgbgjbncakfaaPzzFits12x1
namespace Go.Proofs.Ytfdgbgjbncakfaa.HEqLaw
open Go.RowKit Go.Proofs.YtfdgbgjbncakfaaW.PrintWords Go.Proofs.YtfdgbgjbncakfaaW.PrintLast Go.Proofs.YtfdgbgjbncakfaaW.PrintMore Go.Proofs.Ytfdgbgjbncakfaa.Plain Go.Proofs.Ytfdgbgjbncakfaa.HGvk Go.Proofs.Ytfdgbgjbncakfaa.HIdSel

def sameB (g v k n g' v' k' n' : ByteArray) : Bool := (g.toList == g'.toList) && ((v.toList == v'.toList) && ((k.toList == k'.toList) && (n.toList == n'.toList)))
theorem same_of {g v k n g' v' k' n' : ByteArray} {x0 x1 x2 x3 : Bool} (q0 : (g.toList == g'.toList) = x0) (q1 : (v.toList == v'.toList) = x1) (q2 : (k.toList == k'.toList) = x2) (q3 : (n.toList == n'.toList) = x3) : sameB g v k n g' v' k' n' = (x0 && (x1 && (x2 && x3))) := by
  unfold sameB; rw [q0, q1, q2, q3]
def equalB (g v k n s g' v' k' n' s' : ByteArray) : Bool := sameB g v k n g' v' k' n' && nsB s s'
theorem gvkn_f (g v k n s g' v' k' n' s' : ByteArray) : GIdEqual.resid_ResId_GvknEquals.f g v k false n s g' v' k' false n' s' = some (sameB g v k n g' v' k' n') := by
  unfold GIdEqual.resid_ResId_GvknEquals.f GIdEqual.resid_Gvk_Equals.f sameB
  by_cases h0 : n.toList = n'.toList
  · rw [if_pos h0]
    by_cases h1 : g.toList = g'.toList
    · rw [if_pos h1]
      by_cases h2 : v.toList = v'.toList
      · rw [if_pos h2]; simp [h0, h1, h2]
      · rw [if_neg h2]; simp [h1, h2]
    · rw [if_neg h1]; simp [h1]
  · rw [if_neg h0]; simp [h0]
theorem ideq_f (g v k n s g' v' k' n' s' : ByteArray) : GIdEqual.impl_IdEqual.f g v k n s g' v' k' n' s' = some (equalB g v k n s g' v' k' n' s', sameB g v k n g' v' k' n', selByB g v k n s g' v' k' n' s') := by
  unfold GIdEqual.impl_IdEqual.f
  have h1 : ∀ g v k n s, GIdEqual.impl_id.f g v k n s = some (g, v, k, false, n, s) := fun _ _ _ _ _ => rfl
  have h2 : GIdEqual.resid_ResId_IsNsEquals.f g v k false n s g' v' k' false n' s' = some (nsB s s') := rfl
  have h3 : GIdEqual.resid_ResId_IsSelectedBy.f g v k false n s g' v' k' false n' s' = some (selByB g v k n s g' v' k' n' s') := rfl
  have h4 : GIdEqual.resid_ResId_Equals.f g v k false n s g' v' k' false n' s' = some (equalB g v k n s g' v' k' n' s') := by
    unfold GIdEqual.resid_ResId_Equals.f equalB
    rw [h2, gvkn_f]
    cases nsB s s' <;> simp
  simp only [h1, Option.bind_some, h4, gvkn_f, h3]
theorem ideq_calls (g v k n s g' v' k' n' s' : ByteArray) (w : World) :
    Calls Try.prog 9 #[.agg #[.string g, .string v, .string k, .string n, .string s], .agg #[.string g', .string v', .string k', .string n', .string s']] w fun e w' => e = .returned (.tuple #[.bool (equalB g v k n s g' v' k' n' s'), .bool (sameB g v k n g' v' k' n'), .bool (selByB g v k n s g' v' k' n' s')]) ∧ Below w.heap.size w w' :=
  GIdEqual.impl_IdEqual.calls g v k n s g' v' k' n' s' _ _ _ w (ideq_f ..)

theorem let_eq (y x : ByteArray) : letB y x = if y.toList = [] then true else (y.toList == x.toList) := by
  rcases em_cases y with ⟨h, e⟩ | ⟨h, e⟩
  · rw [if_pos h]; simp [letB, e]
  · rw [if_neg (fun q => by rw [q] at h; cases h)]
    simp only [letB, e, decide_false, Bool.false_or]
    rw [Bool.eq_iff_iff, decide_eq_true_iff, beq_iff_eq]
    exact ⟨fun q => by rw [q], fun q => toList_inj.1 q⟩
theorem let3 (x y : ByteArray) : (y.toList = [] ∧ letB y x = true) ∨ (y.toList.isEmpty = false ∧ (y.toList == x.toList) = true ∧ letB y x = true) ∨ (y.toList.isEmpty = false ∧ (y.toList == x.toList) = false ∧ letB y x = false) := by
  rcases em_cases y with ⟨h, e⟩ | ⟨h, e⟩
  · exact .inl ⟨h, by simp [letB, e]⟩
  · have q := let_eq y x
    rw [if_neg (fun z => by rw [z] at h; cases h)] at q
    cases hq : (y.toList == x.toList) with
    | true => exact .inr (.inl ⟨h, rfl, q.trans hq⟩)
    | false => exact .inr (.inr ⟨h, rfl, q.trans hq⟩)
set_option maxHeartbeats 4000000 in
theorem kysel_calls (g v k n s g' v' k' n' s' : ByteArray) (w : World) :
    Calls Try.prog 10 #[.agg #[.string g, .string v, .string k, .string n, .string s], .agg #[.string g', .string v', .string k', .string n', .string s']] w fun e w' => e = .returned (.bool (selB g v k g' v' k')) ∧ Below w.heap.size w w' := by
  rcases let3 g g' with ⟨x0, y0⟩ | ⟨x0, z0, y0⟩ | ⟨x0, z0, y0⟩ <;> rcases let3 v v' with ⟨x1, y1⟩ | ⟨x1, z1, y1⟩ | ⟨x1, z1, y1⟩ <;> rcases let3 k k' with ⟨x2, y2⟩ | ⟨x2, z2, y2⟩ | ⟨x2, z2, y2⟩
  all_goals
    have HS := Aside0.mk (selB_of y0 y1 y2)
    clear y0 y1 y2
    go_enter Try.func10, Try.ntmps10
    go_wp2
    go_ret
    exact ⟨by rw [HS.out]; rfl, below_alloc (below_alloc (Below.refl _ _) _) _⟩

set_option maxHeartbeats 1000000 in
theorem space_calls (g v k n s : ByteArray) (w : World) :
    Calls Try.prog 8 #[.agg #[.string g, .string v, .string k, .string n, .string s]] w fun e w' => e = .returned (.string (orB s dflt)) ∧ Below w.heap.size w w' := by
  rcases or_cases s dflt with ⟨s1, s2⟩ | ⟨s1, s2⟩
  all_goals
    have S2 := Aside0.mk s2
    clear s2
    go_enter Try.func8, Try.ntmps8
    go_wp2
    go_ret
    exact ⟨by rw [S2.out]; rfl, below_alloc (Below.refl _ _) _⟩

def byB (g v k n s g' v' k' n' s' : ByteArray) : Bool := selB g v k g' v' k' && (letB n' n && (decide (s' = ByteArray.empty) || nsB s' s))
theorem by_sel (g v k n s g' v' k' n' s' : ByteArray) : selByB g v k n s g' v' k' n' s' = byB g v k n s g' v' k' n' s' := by
  unfold selByB byB
  cases selB g v k g' v' k' <;> cases letB n' n <;> cases (decide (s' = ByteArray.empty) || nsB s' s) <;> rfl

theorem by_of {g v k n s g' v' k' n' s' : ByteArray} {x y z : Bool} (h0 : selB g v k g' v' k' = x) (h1 : letB n' n = y) (h2 : (decide (s' = ByteArray.empty) || nsB s' s) = z) : selByB g v k n s g' v' k' n' s' = (x && (y && z)) := by
  rw [by_sel]; unfold byB; rw [h0, h1, h2]

def fitsB (a0 a1 a2 a3 a4 : ByteArray) : Bool := decide (a0.size ≤ 2147483647) && decide (a1.size ≤ 2147483647) && decide (a2.size ≤ 2147483647) && decide (a3.size ≤ 2147483647) && decide (a4.size ≤ 2147483647)
theorem fits_calls (a0 a1 a2 a3 a4 : ByteArray) (w : World) : Calls Try.prog 6 #[.agg #[.string a0, .string a1, .string a2, .string a3, .string a4]] w fun e w' => e = .returned (.bool (fitsB a0 a1 a2 a3 a4)) ∧ Below w.heap.size w w' := by
  refine PzzFits12.laws_zzFits12.calls a0 a1 a2 a3 a4 _ w ?_
  unfold PzzFits12.laws_zzFits12.f fitsB
  by_cases h0 : a0.size ≤ 2147483647
  · by_cases h1 : a1.size ≤ 2147483647
    · by_cases h2 : a2.size ≤ 2147483647
      · by_cases h3 : a3.size ≤ 2147483647
        · by_cases h4 : a4.size ≤ 2147483647
          · rw [if_neg (by omega), if_neg (by omega), if_neg (by omega), if_neg (by omega), if_neg (by omega)]; simp [h0, h1, h2, h3, h4]
          · rw [if_neg (by omega), if_neg (by omega), if_neg (by omega), if_neg (by omega), if_pos (by omega)]; simp [h4]
        · rw [if_neg (by omega), if_neg (by omega), if_neg (by omega), if_pos (by omega)]; simp [h3]
      · rw [if_neg (by omega), if_neg (by omega), if_pos (by omega)]; simp [h2]
    · rw [if_neg (by omega), if_pos (by omega)]; simp [h1]
  · rw [if_pos (by omega)]; simp [h0]


end Go.Proofs.Ytfdgbgjbncakfaa.HEqLaw
