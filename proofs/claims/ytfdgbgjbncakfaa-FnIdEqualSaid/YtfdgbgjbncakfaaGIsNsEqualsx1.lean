-- Laid by a program of this session (stub.py)
import Derived.Test.YtfdgbgjbncakfaaGIsNsEqualsx0
namespace Go.Proofs.Ytfdgbgjbncakfaa.GIsNsEquals
open Go.RowKit Go.Proofs.YtfdgbgjbncakfaaW.PrintWords Go.Proofs.YtfdgbgjbncakfaaW.PrintLast Go.Proofs.YtfdgbgjbncakfaaW.PrintMore
attribute [local go_sem] max2_int min2_int max_two min_two max_three min_three max_four min_four   -- for this text's walks alone
set_option linter.unusedVariables false
set_option linter.unusedSimpArgs false

/-! ### resid_ResId_EffectiveNamespace: function 26: its contract by hand -/
def resid_ResId_EffectiveNamespace.f (a0_0 : ByteArray) (a0_1 : ByteArray) (a0_2 : ByteArray) (a0_3 : Bool) (a0_4 : ByteArray) (a0_5 : ByteArray) : Option (ByteArray) := if a0_3 = false then some (HGvk.orB a0_5 HGvk.dflt) else none
theorem resid_ResId_EffectiveNamespace.calls (a0_0 : ByteArray) (a0_1 : ByteArray) (a0_2 : ByteArray) (a0_3 : Bool) (a0_4 : ByteArray) (a0_5 : ByteArray) (r : ByteArray) (w : World) (h : resid_ResId_EffectiveNamespace.f a0_0 a0_1 a0_2 a0_3 a0_4 a0_5 = some r) :
    Calls Try.prog 26 #[.agg #[.string a0_0, .string a0_1, .string a0_2, .bool a0_3, .string a0_4, .string a0_5]] w fun e w' => e = .returned (.string r) ∧ Below w.heap.size w w' := by
  unfold resid_ResId_EffectiveNamespace.f at h
  split at h
  next h3 => subst h3; cases h; exact HGvk.eff_calls _ _ _ _ _ w
  next => cases h
/-! ### resid_ResId_IsNsEquals: function 28 -/
def resid_ResId_IsNsEquals.f (a0_0 : ByteArray) (a0_1 : ByteArray) (a0_2 : ByteArray) (a0_3 : Bool) (a0_4 : ByteArray) (a0_5 : ByteArray) (a1_0 : ByteArray) (a1_1 : ByteArray) (a1_2 : ByteArray) (a1_3 : Bool) (a1_4 : ByteArray) (a1_5 : ByteArray) : Option (Bool) := (resid_ResId_EffectiveNamespace.f a0_0 a0_1 a0_2 a0_3 a0_4 a0_5).bind fun t103 => ((resid_ResId_EffectiveNamespace.f a1_0 a1_1 a1_2 a1_3 a1_4 a1_5).bind fun t104 => (some (t103.toList == t104.toList)))
set_option maxHeartbeats 8000000 in
set_option maxRecDepth 100000 in
theorem resid_ResId_IsNsEquals.calls (a0_0 : ByteArray) (a0_1 : ByteArray) (a0_2 : ByteArray) (a0_3 : Bool) (a0_4 : ByteArray) (a0_5 : ByteArray) (a1_0 : ByteArray) (a1_1 : ByteArray) (a1_2 : ByteArray) (a1_3 : Bool) (a1_4 : ByteArray) (a1_5 : ByteArray) (r : Bool) (w : World) (h : resid_ResId_IsNsEquals.f a0_0 a0_1 a0_2 a0_3 a0_4 a0_5 a1_0 a1_1 a1_2 a1_3 a1_4 a1_5 = some r) :
    Calls Try.prog 28 #[.agg #[.string a0_0, .string a0_1, .string a0_2, .bool a0_3, .string a0_4, .string a0_5], .agg #[.string a1_0, .string a1_1, .string a1_2, .bool a1_3, .string a1_4, .string a1_5]] w fun e w' => e = .returned (.bool r) ∧ Below w.heap.size w w' := by
  have hu40 := Try.underlying40
  have HB := Aside0.mk (Below.refl w.heap.size w)
  have H : ((resid_ResId_EffectiveNamespace.f a0_0 a0_1 a0_2 a0_3 a0_4 a0_5).bind fun t103 => ((resid_ResId_EffectiveNamespace.f a1_0 a1_1 a1_2 a1_3 a1_4 a1_5).bind fun t104 => (some (t103.toList == t104.toList)))) = some r := h
  clear h
  replace H := Option.bind_eq_some_iff.mp H
  obtain ⟨t103, A30, H⟩ := H
  replace H : ((resid_ResId_EffectiveNamespace.f a1_0 a1_1 a1_2 a1_3 a1_4 a1_5).bind fun t104 => (some (t103.toList == t104.toList))) = some r := H
  have A3 := Aside0.mk A30
  clear A30
  replace H := Option.bind_eq_some_iff.mp H
  obtain ⟨t104, A40, H⟩ := H
  replace H : (some (t103.toList == t104.toList)) = some r := H
  have A4 := Aside0.mk A40
  clear A40
  obtain rfl := Option.some.inj H
  go_enter Try.func28, Try.ntmps28
  try go_wp2_with (first | ((with_reducible refine gate_dst (N := 2) rfl ?_); refine box_event ?hg (N := 2) ?hd (cs := #[.string a0_0, .string a0_1, .string a0_2, .bool a0_3, .string a0_4, .string a0_5]) (t := 40) ?hr ?_; (case hd => rfl); (case hg => rfl); (case hr => first | (go_simp; done) | (go_simp; rfl)); intro gb101 hg w5 hbox hb; have n0_ := Aside0.mk (below_step (by repeat (first | (with_reducible first | exact HB.out | apply below_alloc | apply pw_below_drewN | apply below_drew1) | exact HB.out)) hb); have n1_ := Aside0.mk (hbox); have n2_ := Aside0.mk ((by rw [hg]; exact (below_size (by repeat (first | (with_reducible first | exact HB.out | apply below_alloc | apply pw_below_drewN | apply below_drew1) | exact HB.out))) : w.heap.size ≤ gb101)); have n3_ := Aside0.mk ((by rw [hg]; exact (below_size (by repeat (first | (with_reducible first | exact HB.out | apply below_alloc | apply pw_below_drewN | apply below_drew1) | exact HB.out))) : w.heap.size ≤ gb101)); clear HB; have HB := n0_; have BK101 := n1_; have GW101 := n2_; have GE101 := n3_; clear n0_ n1_ n2_ n3_; clear hb hbox hg) | ((with_reducible refine gate_dst (N := 3) rfl ?_); refine box_event ?hg (N := 3) ?hd (cs := #[.string a1_0, .string a1_1, .string a1_2, .bool a1_3, .string a1_4, .string a1_5]) (t := 40) ?hr ?_; (case hd => rfl); (case hg => rfl); (case hr => first | (go_simp; done) | (go_simp; rfl)); intro gb102 hg w6 hbox hb; have n0_ := Aside0.mk (blk_below (g := gb101) (o := .cells #[.string a0_0, .string a0_1, .string a0_2, .bool a0_3, .string a0_4, .string a0_5] 40 (0, 0)) (by (with_reducible repeat (first | refine blk_drewN ?_ _ | refine blk_drew ?_ | refine blk_alloc ?_ _)); exact BK101.out) hb); have n1_ := Aside0.mk (below_step (by repeat (first | (with_reducible first | exact HB.out | apply below_alloc | apply pw_below_drewN | apply below_drew1 | refine below_set ?_ GE101.out) | exact HB.out)) hb); have n2_ := Aside0.mk (hbox); have n3_ := Aside0.mk ((by rw [hg]; exact (below_size (by repeat (first | (with_reducible first | exact HB.out | apply below_alloc | apply pw_below_drewN | apply below_drew1 | refine below_set ?_ GE101.out) | exact HB.out))) : w.heap.size ≤ gb102)); have n4_ := Aside0.mk ((by rw [hg]; exact (below_size (by repeat (first | (with_reducible first | exact HB.out | apply below_alloc | apply pw_below_drewN | apply below_drew1 | refine below_set ?_ GE101.out) | exact HB.out))) : w.heap.size ≤ gb102)); have n5_ := Aside0.mk ((by rw [hg]; exact Nat.ne_of_lt (blk_lt (g := gb101) (o := .cells #[.string a0_0, .string a0_1, .string a0_2, .bool a0_3, .string a0_4, .string a0_5] 40 (0, 0)) (by (with_reducible repeat (first | refine blk_drewN ?_ _ | refine blk_drew ?_ | refine blk_alloc ?_ _)); exact BK101.out)) : gb101 ≠ gb102)); have n6_ := Aside0.mk ((by rw [hg]; exact Nat.ne_of_gt (blk_lt (g := gb101) (o := .cells #[.string a0_0, .string a0_1, .string a0_2, .bool a0_3, .string a0_4, .string a0_5] 40 (0, 0)) (by (with_reducible repeat (first | refine blk_drewN ?_ _ | refine blk_drew ?_ | refine blk_alloc ?_ _)); exact BK101.out)) : gb102 ≠ gb101)); clear BK101; clear HB; have BK101 := n0_; have HB := n1_; have BK102 := n2_; have GW102 := n3_; have GE102 := n4_; have NB101_102 := n5_; have NB102_101 := n6_; clear n0_ n1_ n2_ n3_ n4_ n5_ n6_; clear hb hbox hg))
  have n0_ := Aside0.mk (blk_drew BK101.out)
  have n1_ := Aside0.mk (blk_drew BK102.out)
  have n2_ := Aside0.mk (below_drew1 HB.out)
  clear BK101
  clear BK102
  clear HB
  have BK101 := n0_
  have BK102 := n1_
  have HB := n2_
  clear n0_ n1_ n2_
  refine start_ (n := 6) (S := fun w' => w'.cell? ⟨gb101, 0, none⟩ = some (.string a0_0) ∧ w'.cell? ⟨gb101, 1, none⟩ = some (.string a0_1) ∧ w'.cell? ⟨gb101, 2, none⟩ = some (.string a0_2) ∧ w'.cell? ⟨gb101, 3, none⟩ = some (.bool a0_3) ∧ w'.cell? ⟨gb101, 4, none⟩ = some (.string a0_4) ∧ w'.cell? ⟨gb101, 5, none⟩ = some (.string a0_5) ∧ w'.cell? ⟨gb102, 0, none⟩ = some (.string a1_0) ∧ w'.cell? ⟨gb102, 1, none⟩ = some (.string a1_1) ∧ w'.cell? ⟨gb102, 2, none⟩ = some (.string a1_2) ∧ w'.cell? ⟨gb102, 3, none⟩ = some (.bool a1_3) ∧ w'.cell? ⟨gb102, 4, none⟩ = some (.string a1_4) ∧ w'.cell? ⟨gb102, 5, none⟩ = some (.string a1_5)) (ds := []) #[false, false, false, false, false, false] (by kernel_rfl) rfl rfl ⟨(blk_cell BK101.out 0).trans rfl, (blk_cell BK101.out 1).trans rfl, (blk_cell BK101.out 2).trans rfl, (blk_cell BK101.out 3).trans rfl, (blk_cell BK101.out 4).trans rfl, (blk_cell BK101.out 5).trans rfl, (blk_cell BK102.out 0).trans rfl, (blk_cell BK102.out 1).trans rfl, (blk_cell BK102.out 2).trans rfl, (blk_cell BK102.out 3).trans rfl, (blk_cell BK102.out 4).trans rfl, (blk_cell BK102.out 5).trans rfl⟩ (fun hHeld => ?_)
  generalize w6.drew = w7 at BK101 BK102 HB hHeld ⊢
  refine take_ (i := 0) (N := some 5) (v := ?_) (a' := ?_) #[true, false, false, false, false, false] rfl rfl (by kernel_rfl) (fun _ _ _ h => h) (Or.inl ⟨by rfl, ?_⟩) hHeld ?_ ?_
  rotate_left
  · rintro w' ⟨s0, s1, s2, s3, s4, s5, s6, s7, s8, s9, s10, s11⟩
    go_simp
    with_reducible rfl
  rotate_left
  · simp only [Act.put, List.setIfInBounds_toArray, List.set_cons_zero, List.set_cons_succ, i64_w, i32_w]
    rfl
  refine take_ (i := 2) (N := some 7) (v := ?_) (a' := ?_) #[true, false, true, false, false, false] rfl rfl (by kernel_rfl) (fun _ _ _ h => h) (Or.inl ⟨by rfl, ?_⟩) hHeld ?_ ?_
  rotate_left
  · rintro w' ⟨s0, s1, s2, s3, s4, s5, s6, s7, s8, s9, s10, s11⟩
    go_simp
    with_reducible rfl
  rotate_left
  · simp only [Act.put, List.setIfInBounds_toArray, List.set_cons_zero, List.set_cons_succ, i64_w, i32_w]
    rfl
  refine one_ (i := 1) (N := some 6) #[true, true, true, false, false, false] rfl rfl (by kernel_rfl) (by decide) (fun K hK => ?_)
  refine goes_ Try.func26 (by kernel_rfl) rfl #[.agg #[.string a0_0, .string a0_1, .string a0_2, .bool a0_3, .string a0_4, .string a0_5]] (by rfl) rfl rfl (by (try simp only [List.map_toArray, List.map_cons, List.map_nil]); first | done | rfl | (simp only [List.length_drop, List.length_take]; rfl)) ?_
  with_reducible refine (resid_ResId_EffectiveNamespace.calls a0_0 a0_1 a0_2 a0_3 a0_4 a0_5 t103 _ A3.out).mono ?_
  rintro e w8 ⟨rfl, hb⟩
  refine ⟨_, rfl, ?_⟩
  have n0_ := Aside0.mk (blk_below (g := gb101) (o := .cells #[.string a0_0, .string a0_1, .string a0_2, .bool a0_3, .string a0_4, .string a0_5] 40 (0, 0)) (by (with_reducible repeat (first | refine blk_drewN ?_ _ | refine blk_drew ?_ | refine blk_alloc ?_ _)); exact BK101.out) hb)
  have n1_ := Aside0.mk (blk_below (g := gb102) (o := .cells #[.string a1_0, .string a1_1, .string a1_2, .bool a1_3, .string a1_4, .string a1_5] 40 (0, 0)) (by (with_reducible repeat (first | refine blk_drewN ?_ _ | refine blk_drew ?_ | refine blk_alloc ?_ _)); exact BK102.out) hb)
  have n2_ := Aside0.mk (below_step (by repeat (first | (with_reducible first | exact HB.out | apply below_alloc | apply pw_below_drewN | apply below_drew1 | refine below_set ?_ GE101.out | refine below_set ?_ GE102.out) | exact HB.out)) hb)
  clear BK101
  clear BK102
  clear HB
  have BK101 := n0_
  have BK102 := n1_
  have HB := n2_
  clear n0_ n1_ n2_
  (try clear hb)
  (try clear hb2)
  (try clear hk)
  (try clear hi)
  refine hK.out _ _ ⟨(blk_cell BK101.out 0).trans rfl, (blk_cell BK101.out 1).trans rfl, (blk_cell BK101.out 2).trans rfl, (blk_cell BK101.out 3).trans rfl, (blk_cell BK101.out 4).trans rfl, (blk_cell BK101.out 5).trans rfl, (blk_cell BK102.out 0).trans rfl, (blk_cell BK102.out 1).trans rfl, (blk_cell BK102.out 2).trans rfl, (blk_cell BK102.out 3).trans rfl, (blk_cell BK102.out 4).trans rfl, (blk_cell BK102.out 5).trans rfl⟩ (fun hHeld => ?_)
  clear hK K
  refine norm_ (a' := ?_) ?_ ?_
  rotate_left
  · show Act.put _ (some 6) _ = _
    simp only [Act.put, List.setIfInBounds_toArray, List.set_cons_zero, List.set_cons_succ, i64_w, i32_w]
    rfl
  refine one_ (i := 3) (N := some 8) #[true, true, true, true, false, false] rfl rfl (by kernel_rfl) (by decide) (fun K hK => ?_)
  refine goes_ Try.func26 (by kernel_rfl) rfl #[.agg #[.string a1_0, .string a1_1, .string a1_2, .bool a1_3, .string a1_4, .string a1_5]] (by rfl) rfl rfl (by (try simp only [List.map_toArray, List.map_cons, List.map_nil]); first | done | rfl | (simp only [List.length_drop, List.length_take]; rfl)) ?_
  with_reducible refine (resid_ResId_EffectiveNamespace.calls a1_0 a1_1 a1_2 a1_3 a1_4 a1_5 t104 _ A4.out).mono ?_
  rintro e w9 ⟨rfl, hb⟩
  refine ⟨_, rfl, ?_⟩
  have n0_ := Aside0.mk (blk_below (g := gb101) (o := .cells #[.string a0_0, .string a0_1, .string a0_2, .bool a0_3, .string a0_4, .string a0_5] 40 (0, 0)) (by (with_reducible repeat (first | refine blk_drewN ?_ _ | refine blk_drew ?_ | refine blk_alloc ?_ _)); exact BK101.out) hb)
  have n1_ := Aside0.mk (blk_below (g := gb102) (o := .cells #[.string a1_0, .string a1_1, .string a1_2, .bool a1_3, .string a1_4, .string a1_5] 40 (0, 0)) (by (with_reducible repeat (first | refine blk_drewN ?_ _ | refine blk_drew ?_ | refine blk_alloc ?_ _)); exact BK102.out) hb)
  have n2_ := Aside0.mk (below_step (by repeat (first | (with_reducible first | exact HB.out | apply below_alloc | apply pw_below_drewN | apply below_drew1 | refine below_set ?_ GE101.out | refine below_set ?_ GE102.out) | exact HB.out)) hb)
  clear BK101
  clear BK102
  clear HB
  have BK101 := n0_
  have BK102 := n1_
  have HB := n2_
  clear n0_ n1_ n2_
  (try clear hb)
  (try clear hb2)
  (try clear hk)
  (try clear hi)
  refine hK.out _ _ ⟨(blk_cell BK101.out 0).trans rfl, (blk_cell BK101.out 1).trans rfl, (blk_cell BK101.out 2).trans rfl, (blk_cell BK101.out 3).trans rfl, (blk_cell BK101.out 4).trans rfl, (blk_cell BK101.out 5).trans rfl, (blk_cell BK102.out 0).trans rfl, (blk_cell BK102.out 1).trans rfl, (blk_cell BK102.out 2).trans rfl, (blk_cell BK102.out 3).trans rfl, (blk_cell BK102.out 4).trans rfl, (blk_cell BK102.out 5).trans rfl⟩ (fun hHeld => ?_)
  clear hK K
  refine norm_ (a' := ?_) ?_ ?_
  rotate_left
  · show Act.put _ (some 8) _ = _
    simp only [Act.put, List.setIfInBounds_toArray, List.set_cons_zero, List.set_cons_succ, i64_w, i32_w]
    rfl
  refine pure_ (i := 4) (N := some 9) (v := ?_) (a' := ?_) #[true, true, true, true, true, false] rfl rfl (by kernel_rfl) (fun _ _ _ h => h) (Or.inl ⟨by rfl, ?_⟩) ?_ ?_
  rotate_left
  · intro w'
    go_simp
    with_reducible rfl
  rotate_left
  · simp only [Act.put, List.setIfInBounds_toArray, List.set_cons_zero, List.set_cons_succ, i64_w, i32_w]
    rfl
  refine pure_ (i := 5) (N := some 4) (v := ?_) (a' := ?_) #[true, true, true, true, true, true] rfl rfl (by kernel_rfl) (fun _ _ _ h => h) (Or.inl ⟨by rfl, ?_⟩) ?_ ?_
  rotate_left
  · intro w'
    go_simp
    with_reducible rfl
  rotate_left
  · simp only [Act.put, List.setIfInBounds_toArray, List.set_cons_zero, List.set_cons_succ, i64_w, i32_w]
    rfl
  refine done_ (by kernel_rfl) ?_
  try go_wp2
  go_ret
  exact ⟨by first | rfl | (simp [errW_none, errW_some] <;> rfl) | (simp [*, errW_none, errW_some] <;> rfl), by repeat (first | (with_reducible first | exact HB.out | apply below_alloc | apply pw_below_drewN | apply below_drew1 | refine below_set ?_ GE101.out | refine below_set ?_ GE102.out) | exact HB.out)⟩

end Go.Proofs.Ytfdgbgjbncakfaa.GIsNsEquals
