/- What Gvk.IsSelected comes to. -/
import Derived.Test.YtfdgbgjbncakfaaDoorHOrd
namespace Go.Proofs.YtfdgbgjbncakfaaDoor.HSel
open Go.RowKit Go.Proofs.YtfdgbgjbncakfaaDoorW.PrintWords Go.Proofs.YtfdgbgjbncakfaaDoorW.PrintLast Go.Proofs.YtfdgbgjbncakfaaDoorW.PrintMore Go.Proofs.YtfdgbgjbncakfaaDoor.Plain Go.Proofs.YtfdgbgjbncakfaaDoor.HOrd

/-- A part of a selector lets a text in. -/
def letB (by_ x : ByteArray) : Bool := decide (by_ = ByteArray.empty) || decide (by_ = x)
def selB (g v k g' v' k' : ByteArray) : Bool := letB g' g && letB v' v && letB k' k
/-- The three ways a part stands to a selector's, as the walk spells them. -/
def Way (x y : ByteArray) : Prop := (y.size = 0 ∧ letB y x = true) ∨ (0 < x.size ∧ y = x ∧ letB y x = true) ∨ (0 < y.size ∧ (x.toList == y.toList) = false ∧ (x.toList != y.toList) = true ∧ letB y x = false)
theorem size_pos {y : ByteArray} (h : y ≠ ByteArray.empty) : 0 < y.size := by
  rcases Nat.eq_zero_or_pos y.size with e | e
  · exact absurd (ByteArray.ext (Array.eq_empty_of_size_eq_zero e)) h
  · exact e
theorem ways (x y : ByteArray) : Way x y := by
  by_cases h : y = ByteArray.empty
  · exact .inl ⟨by rw [h]; rfl, by simp [letB, h]⟩
  · by_cases e : y = x
    · exact .inr (.inl ⟨e ▸ size_pos h, e, by simp [letB, e]⟩)
    · have q : (x.toList == y.toList) = false := by
        rw [beq_eq_false_iff_ne]
        exact fun h2 => e (toList_inj.1 h2.symm)
      exact .inr (.inr ⟨size_pos h, q, by simp [bne, q], by simp [letB, h, e]⟩)

theorem selB_of {g v k g' v' k' : ByteArray} {x y z : Bool} (h0 : letB g' g = x) (h1 : letB v' v = y) (h2 : letB k' k = z) : selB g v k g' v' k' = (x && y && z) := by
  subst h0 h1 h2; rfl
set_option maxHeartbeats 2000000 in
theorem sel_calls (g v k g' v' k' : ByteArray) (f : Bool) (b : Nat) (w : World) (hb : b < w.heap.size) (h0 : w.cell? ⟨b, 0, none⟩ = some (.string g')) (h1 : w.cell? ⟨b, 1, none⟩ = some (.string v')) (h2 : w.cell? ⟨b, 2, none⟩ = some (.string k')) :
    Calls Tryd.prog 11 #[.agg #[.string g, .string v, .string k, .bool f], .pointer (some ⟨b, 0, none⟩)] w fun e w' => e = .returned (.bool (selB g v k g' v' k')) ∧ Below w.heap.size w w' := by
  have n0 := World.new_ne w _ h0
  have n1 := World.new_ne w _ h1
  have n2 := World.new_ne w _ h2
  rcases ways g g' with ⟨x0, y0⟩ | ⟨x0, rfl, y0⟩ | ⟨x0, z0, u0, y0⟩ <;> rcases ways v v' with ⟨x1, y1⟩ | ⟨x1, rfl, y1⟩ | ⟨x1, z1, u1, y1⟩ <;> rcases ways k k' with ⟨x2, y2⟩ | ⟨x2, rfl, y2⟩ | ⟨x2, z2, u2, y2⟩
  all_goals
    have HS := Aside0.mk (selB_of y0 y1 y2)
    clear y0 y1 y2
  · go_enter Tryd.func11, Tryd.ntmps11
    go_wp2
    go_ret
    exact ⟨by rw [HS.out]; rfl, by repeat (first | exact below_alloc (Below.refl _ _) _ | apply pw_below_drewN)⟩
  · go_enter Tryd.func11, Tryd.ntmps11
    go_wp2
    go_quiet (fail)
    go_wp2
    go_ret
    exact ⟨by rw [HS.out]; rfl, by repeat (first | exact below_alloc (Below.refl _ _) _ | apply pw_below_drewN)⟩
  · go_enter Tryd.func11, Tryd.ntmps11
    go_wp2
    go_quiet (fail)
    go_wp2
    go_ret
    exact ⟨by rw [HS.out]; rfl, by repeat (first | exact below_alloc (Below.refl _ _) _ | apply pw_below_drewN)⟩
  · go_enter Tryd.func11, Tryd.ntmps11
    go_wp2
    go_quiet (fail)
    go_wp2
    go_ret
    exact ⟨by rw [HS.out]; rfl, by repeat (first | exact below_alloc (Below.refl _ _) _ | apply pw_below_drewN)⟩
  · go_enter Tryd.func11, Tryd.ntmps11
    go_wp2
    go_quiet (fail)
    go_wp2
    go_quiet (fail)
    go_wp2
    go_ret
    exact ⟨by rw [HS.out]; rfl, by repeat (first | exact below_alloc (Below.refl _ _) _ | apply pw_below_drewN)⟩
  · go_enter Tryd.func11, Tryd.ntmps11
    go_wp2
    go_quiet (fail)
    go_wp2
    go_quiet (fail)
    go_wp2
    go_ret
    exact ⟨by rw [HS.out]; rfl, by repeat (first | exact below_alloc (Below.refl _ _) _ | apply pw_below_drewN)⟩
  · go_enter Tryd.func11, Tryd.ntmps11
    go_wp2
    go_quiet (fail)
    go_wp2
    go_ret
    exact ⟨by rw [HS.out]; rfl, by repeat (first | exact below_alloc (Below.refl _ _) _ | apply pw_below_drewN)⟩
  · go_enter Tryd.func11, Tryd.ntmps11
    go_wp2
    go_quiet (fail)
    go_wp2
    go_ret
    exact ⟨by rw [HS.out]; rfl, by repeat (first | exact below_alloc (Below.refl _ _) _ | apply pw_below_drewN)⟩
  · go_enter Tryd.func11, Tryd.ntmps11
    go_wp2
    go_quiet (fail)
    go_wp2
    go_ret
    exact ⟨by rw [HS.out]; rfl, by repeat (first | exact below_alloc (Below.refl _ _) _ | apply pw_below_drewN)⟩
  · go_enter Tryd.func11, Tryd.ntmps11
    go_wp2
    go_quiet (fail)
    go_wp2
    go_ret
    exact ⟨by rw [HS.out]; rfl, by repeat (first | exact below_alloc (Below.refl _ _) _ | apply pw_below_drewN)⟩
  · go_enter Tryd.func11, Tryd.ntmps11
    go_wp2
    go_quiet (fail)
    go_wp2
    go_quiet (fail)
    go_wp2
    go_ret
    exact ⟨by rw [HS.out]; rfl, by repeat (first | exact below_alloc (Below.refl _ _) _ | apply pw_below_drewN)⟩
  · go_enter Tryd.func11, Tryd.ntmps11
    go_wp2
    go_quiet (fail)
    go_wp2
    go_quiet (fail)
    go_wp2
    go_ret
    exact ⟨by rw [HS.out]; rfl, by repeat (first | exact below_alloc (Below.refl _ _) _ | apply pw_below_drewN)⟩
  · go_enter Tryd.func11, Tryd.ntmps11
    go_wp2
    go_quiet (fail)
    go_wp2
    go_quiet (fail)
    go_wp2
    go_ret
    exact ⟨by rw [HS.out]; rfl, by repeat (first | exact below_alloc (Below.refl _ _) _ | apply pw_below_drewN)⟩
  · go_enter Tryd.func11, Tryd.ntmps11
    go_wp2
    go_quiet (fail)
    go_wp2
    go_quiet (fail)
    go_wp2
    go_quiet (fail)
    go_wp2
    go_ret
    exact ⟨by rw [HS.out]; rfl, by repeat (first | exact below_alloc (Below.refl _ _) _ | apply pw_below_drewN)⟩
  · go_enter Tryd.func11, Tryd.ntmps11
    go_wp2
    go_quiet (fail)
    go_wp2
    go_quiet (fail)
    go_wp2
    go_quiet (fail)
    go_wp2
    go_ret
    exact ⟨by rw [HS.out]; rfl, by repeat (first | exact below_alloc (Below.refl _ _) _ | apply pw_below_drewN)⟩
  · go_enter Tryd.func11, Tryd.ntmps11
    go_wp2
    go_quiet (fail)
    go_wp2
    go_quiet (fail)
    go_wp2
    go_ret
    exact ⟨by rw [HS.out]; rfl, by repeat (first | exact below_alloc (Below.refl _ _) _ | apply pw_below_drewN)⟩
  · go_enter Tryd.func11, Tryd.ntmps11
    go_wp2
    go_quiet (fail)
    go_wp2
    go_quiet (fail)
    go_wp2
    go_ret
    exact ⟨by rw [HS.out]; rfl, by repeat (first | exact below_alloc (Below.refl _ _) _ | apply pw_below_drewN)⟩
  · go_enter Tryd.func11, Tryd.ntmps11
    go_wp2
    go_quiet (fail)
    go_wp2
    go_quiet (fail)
    go_wp2
    go_ret
    exact ⟨by rw [HS.out]; rfl, by repeat (first | exact below_alloc (Below.refl _ _) _ | apply pw_below_drewN)⟩
  · go_enter Tryd.func11, Tryd.ntmps11
    go_wp2
    go_quiet (fail)
    go_wp2
    go_ret
    exact ⟨by rw [HS.out]; rfl, by repeat (first | exact below_alloc (Below.refl _ _) _ | apply pw_below_drewN)⟩
  · go_enter Tryd.func11, Tryd.ntmps11
    go_wp2
    go_quiet (fail)
    go_wp2
    go_ret
    exact ⟨by rw [HS.out]; rfl, by repeat (first | exact below_alloc (Below.refl _ _) _ | apply pw_below_drewN)⟩
  · go_enter Tryd.func11, Tryd.ntmps11
    go_wp2
    go_quiet (fail)
    go_wp2
    go_ret
    exact ⟨by rw [HS.out]; rfl, by repeat (first | exact below_alloc (Below.refl _ _) _ | apply pw_below_drewN)⟩
  · go_enter Tryd.func11, Tryd.ntmps11
    go_wp2
    go_quiet (fail)
    go_wp2
    go_ret
    exact ⟨by rw [HS.out]; rfl, by repeat (first | exact below_alloc (Below.refl _ _) _ | apply pw_below_drewN)⟩
  · go_enter Tryd.func11, Tryd.ntmps11
    go_wp2
    go_quiet (fail)
    go_wp2
    go_ret
    exact ⟨by rw [HS.out]; rfl, by repeat (first | exact below_alloc (Below.refl _ _) _ | apply pw_below_drewN)⟩
  · go_enter Tryd.func11, Tryd.ntmps11
    go_wp2
    go_quiet (fail)
    go_wp2
    go_ret
    exact ⟨by rw [HS.out]; rfl, by repeat (first | exact below_alloc (Below.refl _ _) _ | apply pw_below_drewN)⟩
  · go_enter Tryd.func11, Tryd.ntmps11
    go_wp2
    go_quiet (fail)
    go_wp2
    go_ret
    exact ⟨by rw [HS.out]; rfl, by repeat (first | exact below_alloc (Below.refl _ _) _ | apply pw_below_drewN)⟩
  · go_enter Tryd.func11, Tryd.ntmps11
    go_wp2
    go_quiet (fail)
    go_wp2
    go_ret
    exact ⟨by rw [HS.out]; rfl, by repeat (first | exact below_alloc (Below.refl _ _) _ | apply pw_below_drewN)⟩
  · go_enter Tryd.func11, Tryd.ntmps11
    go_wp2
    go_quiet (fail)
    go_wp2
    go_ret
    exact ⟨by rw [HS.out]; rfl, by repeat (first | exact below_alloc (Below.refl _ _) _ | apply pw_below_drewN)⟩

end Go.Proofs.YtfdgbgjbncakfaaDoor.HSel
