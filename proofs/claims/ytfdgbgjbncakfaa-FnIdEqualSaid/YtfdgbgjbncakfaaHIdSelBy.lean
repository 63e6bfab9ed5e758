/- What ResId.IsSelectedBy comes to. -/
import Derived.Test.YtfdgbgjbncakfaaHIdSel
import Derived.Test.YtfdgbgjbncakfaaGIsNsEqualsx1
namespace Go.Proofs.Ytfdgbgjbncakfaa.HIdSel
open Go.RowKit Go.Proofs.YtfdgbgjbncakfaaW.PrintWords Go.Proofs.YtfdgbgjbncakfaaW.PrintLast Go.Proofs.YtfdgbgjbncakfaaW.PrintMore Go.Proofs.Ytfdgbgjbncakfaa.Plain Go.Proofs.Ytfdgbgjbncakfaa.HGvk

theorem em_cases (x : ByteArray) : (x.toList = [] ∧ x = ByteArray.empty) ∨ (x.toList.isEmpty = false ∧ x ≠ ByteArray.empty) := by
  by_cases h : x = ByteArray.empty
  · exact .inl ⟨by rw [h, ByteArray.toList_eq]; rfl, h⟩
  · exact .inr ⟨by rw [isEmpty_toList, decide_eq_false h], h⟩
theorem blk_second (w : World) (A B : Obj) : ((w.alloc A).alloc B).heap[w.heap.size + 1]? = some B := by
  have h := blk_new (w.alloc A) B
  rwa [World.size_alloc] at h
def nsB (s s' : ByteArray) : Bool := (orB s dflt).toList == (orB s' dflt).toList
theorem ns_calls (g v k n s g' v' k' n' s' : ByteArray) (w : World) :
    Calls Try.prog 28 #[.agg #[.string g, .string v, .string k, .bool false, .string n, .string s], .agg #[.string g', .string v', .string k', .bool false, .string n', .string s']] w fun e w' => e = .returned (.bool (nsB s s')) ∧ Below w.heap.size w w' :=
  GIsNsEquals.resid_ResId_IsNsEquals.calls g v k false n s g' v' k' false n' s' _ w rfl

def selByB (g v k n s g' v' k' n' s' : ByteArray) : Bool := letB n' n && (decide (s' = ByteArray.empty) || nsB s' s) && selB g v k g' v' k'
theorem byB_of {g v k n s g' v' k' n' s' : ByteArray} {x y z : Bool} (h0 : letB n' n = x) (h1 : (decide (s' = ByteArray.empty) || nsB s' s) = y) (h2 : selB g v k g' v' k' = z) : selByB g v k n s g' v' k' n' s' = (x && y && z) := by
  subst h0 h1 h2; rfl
def NWay (x y : ByteArray) : Prop := (y.toList = [] ∧ letB y x = true) ∨ (x.toList.isEmpty = false ∧ y = x ∧ letB y x = true) ∨ (y.toList.isEmpty = false ∧ (y.toList == x.toList) = false ∧ letB y x = false)
theorem nways (x y : ByteArray) : NWay x y := by
  rcases em_cases y with ⟨h, e⟩ | ⟨h, e⟩
  · exact .inl ⟨h, by simp [letB, e]⟩
  · by_cases q : y = x
    · exact .inr (.inl ⟨q ▸ h, q, by simp [letB, q]⟩)
    · exact .inr (.inr ⟨h, by rw [beq_eq_false_iff_ne]; exact fun h2 => q (toList_inj.1 h2), by simp [letB, e, q]⟩)
def SWay (s s' : ByteArray) : Prop := (s'.toList = [] ∧ (decide (s' = ByteArray.empty) || nsB s' s) = true) ∨ (s'.toList.isEmpty = false ∧ nsB s' s = true ∧ (decide (s' = ByteArray.empty) || nsB s' s) = true) ∨ (s'.toList.isEmpty = false ∧ nsB s' s = false ∧ (decide (s' = ByteArray.empty) || nsB s' s) = false)
theorem sways (s s' : ByteArray) : SWay s s' := by
  rcases em_cases s' with ⟨h, e⟩ | ⟨h, e⟩
  · exact .inl ⟨h, by simp [e]⟩
  · cases q : nsB s' s with
    | true => exact .inr (.inl ⟨h, q, by simp [q]⟩)
    | false => exact .inr (.inr ⟨h, q, by simp [e, q]⟩)

set_option maxHeartbeats 4000000 in
theorem selby_calls (g v k n s g' v' k' n' s' : ByteArray) (w : World) :
    Calls Try.prog 19 #[.agg #[.string g, .string v, .string k, .bool false, .string n, .string s], .agg #[.string g', .string v', .string k', .bool false, .string n', .string s']] w fun e w' => e = .returned (.bool (selByB g v k n s g' v' k' n' s')) ∧ Below w.heap.size w w' := by
  rcases nways n n' with ⟨x0, y0⟩ | ⟨x0, rfl, y0⟩ | ⟨x0, z0, y0⟩ <;> rcases sways s s' with ⟨x1, y1⟩ | ⟨x1, z1, y1⟩ | ⟨x1, z1, y1⟩
  all_goals
    have HS := Aside0.mk (byB_of y0 y1 (g := g) (v := v) (k := k) (g' := g') (v' := v') (k' := k') rfl)
    clear y0 y1
    try have HZ := Aside0.mk z1
    try clear z1
    have tok := Aside0.mk trivial
    go_enter Try.func19, Try.ntmps19
    go_wp2_with (first
      | (go_at_call 28; refine (ns_calls _ _ _ _ s' _ _ _ _ s _).mono ?_; rw [HZ.out]; rintro e w2 ⟨rfl, hb⟩; have HB := Aside0.mk (below_step (below_alloc (below_alloc (Below.refl _ _) _) _) hb); have BK := Aside0.mk (blk_below (blk_alloc (blk_new w _) _) hb); have BJ := Aside0.mk (blk_below (blk_second w _ _) hb); have c0 := (blk_cell BK.out 0).trans rfl; have c1 := (blk_cell BK.out 1).trans rfl; have c2 := (blk_cell BK.out 2).trans rfl; have c3 := (blk_cell BK.out 3).trans rfl; have d0 := (blk_cell BJ.out 0).trans rfl; have d1 := (blk_cell BJ.out 1).trans rfl; have d2 := (blk_cell BJ.out 2).trans rfl; clear hb)
      | (go_at_call 30; refine (sel_calls g v k g' v' k' false _ _ (Array.getElem?_eq_some_iff.1 BJ.out).1 d0 d1 d2).mono ?_; rintro e w3 ⟨rfl, hb⟩; have HB3 := Aside0.mk (below_step HB.out hb); clear hb)
      | (go_at_call 30; refine (sel_calls g v k g' v' k' false (w.heap.size + 1) _ (by simp) ((blk_cell (blk_second w _ _) 0).trans rfl) ((blk_cell (blk_second w _ _) 1).trans rfl) ((blk_cell (blk_second w _ _) 2).trans rfl)).mono ?_; rintro e w3 ⟨rfl, hb⟩; have HB3 := Aside0.mk (below_step (below_alloc (below_alloc (Below.refl _ _) _) _) hb); clear hb))
    go_ret
    refine ⟨by rw [HS.out]; simp, ?_⟩
    first | exact HB3.out | exact HB.out | exact below_alloc (below_alloc (Below.refl _ _) _) _

end Go.Proofs.Ytfdgbgjbncakfaa.HIdSel
