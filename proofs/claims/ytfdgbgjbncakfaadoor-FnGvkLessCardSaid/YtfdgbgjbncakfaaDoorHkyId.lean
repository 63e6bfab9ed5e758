/- What kyId comes to: an id of letters, digits and dashes. (Began as a text of print.sh, which fell at one way; that way is mended here.) -/
import Derived.Test.YtfdgbgjbncakfaaDoorPkyIdx0
import Derived.Test.YtfdgbgjbncakfaaDoorPkyIdx1
namespace Go.Proofs.YtfdgbgjbncakfaaDoor.HkyId
open Go.Proofs.YtfdgbgjbncakfaaDoor.PkyId Go.RowKit Go.Proofs.YtfdgbgjbncakfaaDoorW.PrintWords Go.Proofs.YtfdgbgjbncakfaaDoorW.PrintLast Go.Proofs.YtfdgbgjbncakfaaDoorW.PrintMore
attribute [local go_sem] max2_int min2_int max_two min_two max_three min_three max_four min_four   -- for this text's walks alone
set_option linter.unusedVariables false
set_option linter.unusedSimpArgs false

/-! ### laws_kyId: function 7 -/
def laws_kyId.j0 : Nat → ByteArray → ByteArray → ByteArray → ByteArray → ByteArray → ByteArray → ByteArray → ByteArray → ByteArray → ByteArray → Option (ByteArray × ByteArray × ByteArray × ByteArray × ByteArray)
  | 0, _, _, _, _, _, _, _, _, _, _ => none
  | k + 1, x147000, x147001, x147002, x147003, x147004, x153000, x153001, x153002, x153003, x153004 => if (x147000.size : Int) > 3 then (if x153000.size + 3 ≤ 9223372036854775807 then (if (x147003.size : Int) > 3 then (if x153003.size + 2 ≤ 9223372036854775807 then (some (x153000 ++ (⟨#[46, 105, 111]⟩ : ByteArray), x153001, x153002, x153003 ++ (⟨#[46, 120]⟩ : ByteArray), x153004)) else (none)) else (some (x153000 ++ (⟨#[46, 105, 111]⟩ : ByteArray), x153001, x153002, x153003, x153004))) else (none)) else (if (x147003.size : Int) > 3 then (if x153003.size + 2 ≤ 9223372036854775807 then (some (x153000, x153001, x153002, x153003 ++ (⟨#[46, 120]⟩ : ByteArray), x153004)) else (none)) else (some (x153000, x153001, x153002, x153003, x153004)))
def laws_kyId.f (k : Nat) (a0_0 : ByteArray) (a0_1 : ByteArray) (a0_2 : ByteArray) (a0_3 : ByteArray) (a0_4 : ByteArray) : Option (ByteArray × ByteArray × ByteArray × ByteArray × ByteArray) := (laws_kyPlain.f k a0_0).bind fun t148 => ((laws_kyPlain.f k a0_1).bind fun t149 => ((laws_kyPlain.f k a0_3).bind fun t150 => ((laws_kyPlain.f k a0_4).bind fun t151 => (if a0_2.toList = ([] : List UInt8) then (laws_kyId.j0 k a0_0 a0_1 a0_2 a0_3 a0_4 t148 t149 (⟨#[]⟩ : ByteArray) t150 t151) else ((laws_kyPlain.f k a0_2).bind fun t153 => (if 2 + t153.size ≤ 9223372036854775807 then (laws_kyId.j0 k a0_0 a0_1 a0_2 a0_3 a0_4 t148 t149 ((⟨#[90, 122]⟩ : ByteArray) ++ t153) t150 t151) else (none)))))))
theorem laws_kyId.mono_l : ∀ k, (∀ y0 y1 y2 y3 y4 y5 y6 y7 y8 y9, LeO (laws_kyId.j0 k y0 y1 y2 y3 y4 y5 y6 y7 y8 y9) (laws_kyId.j0 (k + 1) y0 y1 y2 y3 y4 y5 y6 y7 y8 y9))
  | 0 => fun _ _ _ _ _ _ _ _ _ _ r h => by simp [laws_kyId.j0] at h
  | k + 1 => by
    have ih0 := laws_kyId.mono_l k
    · intro y0 y1 y2 y3 y4 y5 y6 y7 y8 y9
      unfold laws_kyId.j0
      repeat' first
      | (with_reducible exact ih0 _ _ _ _ _ _ _ _ _ _)
      | (with_reducible exact laws_kyPlain.mono _ _)
      | (with_reducible exact LeO.refl _)
      | (with_reducible exact LeO.none _)
      | (with_reducible refine LeO.ite ?_ ?_)
      | (with_reducible refine LeO.bind ?_ (fun _ => ?_))
      | exact ih0 _ _ _ _ _ _ _ _ _ _
      | exact laws_kyPlain.mono _ _
      | exact LeO.none _
      | refine LeO.ite ?_ ?_
      | refine LeO.bind ?_ (fun _ => ?_)
theorem laws_kyId.mono : ∀ a0 a1 a2 a3 a4 k, LeO (laws_kyId.f k a0 a1 a2 a3 a4) (laws_kyId.f (k + 1) a0 a1 a2 a3 a4) := by
  intro a0 a1 a2 a3 a4 k
  have ih0 := laws_kyId.mono_l k
  unfold laws_kyId.f
  repeat' first
      | (with_reducible exact ih0 _ _ _ _ _ _ _ _ _ _)
      | (with_reducible exact laws_kyPlain.mono _ _)
      | (with_reducible exact LeO.refl _)
      | (with_reducible exact LeO.none _)
      | (with_reducible refine LeO.ite ?_ ?_)
      | (with_reducible refine LeO.bind ?_ (fun _ => ?_))
      | exact ih0 _ _ _ _ _ _ _ _ _ _
      | exact laws_kyPlain.mono _ _
      | exact LeO.none _
      | refine LeO.ite ?_ ?_
      | refine LeO.bind ?_ (fun _ => ?_)
def laws_kyId.T1 : Bool × List (List Nat × List Nat) := (true, [([], []), ([0], [0]), ([1], [1]), ([], []), ([3], [3]), ([4, 2], [4]), ([], []), ([6], [6]), ([7, 5], [7]), ([], []), ([9], [9]), ([10, 8], [10]), ([2, 5, 8, 11], [2, 5, 8, 11]), ([], []), ([13, 12, 11, 0, 1, 2, 3, 4, 5, 6, 7, 8, 9, 10, 11, 12, 13], [12, 13])])
def laws_kyId.B1 : List Nat := [0, 1, 3, 0, 8, 31, 0, 64, 255, 0, 512, 2047, 4095, 0, 16383]
theorem laws_kyId.tab1 : rtab .any (opsOf Tryd.f5 1) = laws_kyId.T1 := by kernel_rfl
theorem laws_kyId.bits1 : waitsOk laws_kyId.T1.2 laws_kyId.B1 = true := by kernel_rfl
set_option maxHeartbeats 8000000 in
set_option maxRecDepth 100000 in
theorem laws_kyId.calls (k : Nat) (a0_0 : ByteArray) (a0_1 : ByteArray) (a0_2 : ByteArray) (a0_3 : ByteArray) (a0_4 : ByteArray) (r1 : ByteArray) (r2 : ByteArray) (r3 : ByteArray) (r4 : ByteArray) (r5 : ByteArray) (w : World) (h : laws_kyId.f k a0_0 a0_1 a0_2 a0_3 a0_4 = some (r1, r2, r3, r4, r5)) :
    Calls Tryd.prog 5 #[.agg #[.string a0_0, .string a0_1, .string a0_2, .string a0_3, .string a0_4]] w fun e w' => e = .returned (.agg #[.string r1, .string r2, .string r3, .string r4, .string r5]) ∧ Below w.heap.size w w' := by
  have hu23 := Tryd.underlying23
  have HB := Aside0.mk (Below.refl w.heap.size w)
  have H : ((laws_kyPlain.f k a0_0).bind fun t148 => ((laws_kyPlain.f k a0_1).bind fun t149 => ((laws_kyPlain.f k a0_3).bind fun t150 => ((laws_kyPlain.f k a0_4).bind fun t151 => (if a0_2.toList = ([] : List UInt8) then (laws_kyId.j0 k a0_0 a0_1 a0_2 a0_3 a0_4 t148 t149 (⟨#[]⟩ : ByteArray) t150 t151) else ((laws_kyPlain.f k a0_2).bind fun t153 => (if 2 + t153.size ≤ 9223372036854775807 then (laws_kyId.j0 k a0_0 a0_1 a0_2 a0_3 a0_4 t148 t149 ((⟨#[90, 122]⟩ : ByteArray) ++ t153) t150 t151) else (none)))))))) = some (r1, r2, r3, r4, r5) := h
  clear h
  replace H := Option.bind_eq_some_iff.mp H
  obtain ⟨t148, A20, H⟩ := H
  replace H : ((laws_kyPlain.f k a0_1).bind fun t149 => ((laws_kyPlain.f k a0_3).bind fun t150 => ((laws_kyPlain.f k a0_4).bind fun t151 => (if a0_2.toList = ([] : List UInt8) then (laws_kyId.j0 k a0_0 a0_1 a0_2 a0_3 a0_4 t148 t149 (⟨#[]⟩ : ByteArray) t150 t151) else ((laws_kyPlain.f k a0_2).bind fun t153 => (if 2 + t153.size ≤ 9223372036854775807 then (laws_kyId.j0 k a0_0 a0_1 a0_2 a0_3 a0_4 t148 t149 ((⟨#[90, 122]⟩ : ByteArray) ++ t153) t150 t151) else (none))))))) = some (r1, r2, r3, r4, r5) := H
  have A2 := Aside0.mk A20
  clear A20
  replace H := Option.bind_eq_some_iff.mp H
  obtain ⟨t149, A30, H⟩ := H
  replace H : ((laws_kyPlain.f k a0_3).bind fun t150 => ((laws_kyPlain.f k a0_4).bind fun t151 => (if a0_2.toList = ([] : List UInt8) then (laws_kyId.j0 k a0_0 a0_1 a0_2 a0_3 a0_4 t148 t149 (⟨#[]⟩ : ByteArray) t150 t151) else ((laws_kyPlain.f k a0_2).bind fun t153 => (if 2 + t153.size ≤ 9223372036854775807 then (laws_kyId.j0 k a0_0 a0_1 a0_2 a0_3 a0_4 t148 t149 ((⟨#[90, 122]⟩ : ByteArray) ++ t153) t150 t151) else (none)))))) = some (r1, r2, r3, r4, r5) := H
  have A3 := Aside0.mk A30
  clear A30
  replace H := Option.bind_eq_some_iff.mp H
  obtain ⟨t150, A40, H⟩ := H
  replace H : ((laws_kyPlain.f k a0_4).bind fun t151 => (if a0_2.toList = ([] : List UInt8) then (laws_kyId.j0 k a0_0 a0_1 a0_2 a0_3 a0_4 t148 t149 (⟨#[]⟩ : ByteArray) t150 t151) else ((laws_kyPlain.f k a0_2).bind fun t153 => (if 2 + t153.size ≤ 9223372036854775807 then (laws_kyId.j0 k a0_0 a0_1 a0_2 a0_3 a0_4 t148 t149 ((⟨#[90, 122]⟩ : ByteArray) ++ t153) t150 t151) else (none))))) = some (r1, r2, r3, r4, r5) := H
  have A4 := Aside0.mk A40
  clear A40
  replace H := Option.bind_eq_some_iff.mp H
  obtain ⟨t151, A50, H⟩ := H
  replace H : (if a0_2.toList = ([] : List UInt8) then (laws_kyId.j0 k a0_0 a0_1 a0_2 a0_3 a0_4 t148 t149 (⟨#[]⟩ : ByteArray) t150 t151) else ((laws_kyPlain.f k a0_2).bind fun t153 => (if 2 + t153.size ≤ 9223372036854775807 then (laws_kyId.j0 k a0_0 a0_1 a0_2 a0_3 a0_4 t148 t149 ((⟨#[90, 122]⟩ : ByteArray) ++ t153) t150 t151) else (none)))) = some (r1, r2, r3, r4, r5) := H
  have A5 := Aside0.mk A50
  clear A50
  have HC6 := Aside0.mk H
  clear H
  go_enter Tryd.func5, Tryd.ntmps5
  try go_wp2_with (first | ((with_reducible refine gate_dst (N := 1) rfl ?_); refine box_event ?hg (N := 1) ?hd (cs := #[.string a0_0, .string a0_1, .string a0_2, .string a0_3, .string a0_4]) (t := 23) ?hr ?_; (case hd => rfl); (case hg => rfl); (case hr => first | (go_simp; done) | (go_simp; rfl)); intro gb146 hg w7 hbox hb; have n0_ := Aside0.mk (below_step (by repeat (first | (with_reducible first | exact HB.out | apply below_alloc | apply pw_below_drewN | apply below_drew1) | exact HB.out)) hb); have n1_ := Aside0.mk (hbox); have n2_ := Aside0.mk ((by rw [hg]; exact (below_size (by repeat (first | (with_reducible first | exact HB.out | apply below_alloc | apply pw_below_drewN | apply below_drew1) | exact HB.out))) : w.heap.size ≤ gb146)); have n3_ := Aside0.mk ((by rw [hg]; exact (below_size (by repeat (first | (with_reducible first | exact HB.out | apply below_alloc | apply pw_below_drewN | apply below_drew1) | exact HB.out))) : w.heap.size ≤ gb146)); clear HB; have HB := n0_; have BK146 := n1_; have GW146 := n2_; have GE146 := n3_; clear n0_ n1_ n2_ n3_; clear hb hbox hg) | ((with_reducible refine gate_dst (N := 2) rfl ?_); refine box_event ?hg (N := 2) ?hd (cs := #[.string (⟨#[]⟩ : ByteArray), .string (⟨#[]⟩ : ByteArray), .string (⟨#[]⟩ : ByteArray), .string (⟨#[]⟩ : ByteArray), .string (⟨#[]⟩ : ByteArray)]) (t := 23) ?hr ?_; (case hd => rfl); (case hg => rfl); (case hr => first | (go_simp; done) | (go_simp; rfl)); intro gb147 hg w8 hbox hb; have n0_ := Aside0.mk (blk_below (g := gb146) (o := .cells #[.string a0_0, .string a0_1, .string a0_2, .string a0_3, .string a0_4] 23 (0, 0)) (by (with_reducible repeat (first | refine blk_drewN ?_ _ | refine blk_drew ?_ | refine blk_alloc ?_ _)); exact BK146.out) hb); have n1_ := Aside0.mk (below_step (by repeat (first | (with_reducible first | exact HB.out | apply below_alloc | apply pw_below_drewN | apply below_drew1 | refine below_set ?_ GE146.out) | exact HB.out)) hb); have n2_ := Aside0.mk (hbox); have n3_ := Aside0.mk ((by rw [hg]; exact (below_size (by repeat (first | (with_reducible first | exact HB.out | apply below_alloc | apply pw_below_drewN | apply below_drew1 | refine below_set ?_ GE146.out) | exact HB.out))) : w.heap.size ≤ gb147)); have n4_ := Aside0.mk ((by rw [hg]; exact (below_size (by repeat (first | (with_reducible first | exact HB.out | apply below_alloc | apply pw_below_drewN | apply below_drew1 | refine below_set ?_ GE146.out) | exact HB.out))) : w.heap.size ≤ gb147)); have n5_ := Aside0.mk ((by rw [hg]; exact Nat.ne_of_lt (blk_lt (g := gb146) (o := .cells #[.string a0_0, .string a0_1, .string a0_2, .string a0_3, .string a0_4] 23 (0, 0)) (by (with_reducible repeat (first | refine blk_drewN ?_ _ | refine blk_drew ?_ | refine blk_alloc ?_ _)); exact BK146.out)) : gb146 ≠ gb147)); have n6_ := Aside0.mk ((by rw [hg]; exact Nat.ne_of_gt (blk_lt (g := gb146) (o := .cells #[.string a0_0, .string a0_1, .string a0_2, .string a0_3, .string a0_4] 23 (0, 0)) (by (with_reducible repeat (first | refine blk_drewN ?_ _ | refine blk_drew ?_ | refine blk_alloc ?_ _)); exact BK146.out)) : gb147 ≠ gb146)); clear BK146; clear HB; have BK146 := n0_; have HB := n1_; have BK147 := n2_; have GW147 := n3_; have GE147 := n4_; have NB146_147 := n5_; have NB147_146 := n6_; clear n0_ n1_ n2_ n3_ n4_ n5_ n6_; clear hb hbox hg))
  have n0_ := Aside0.mk (blk_drew BK146.out)
  have n1_ := Aside0.mk (blk_drew BK147.out)
  have n2_ := Aside0.mk (below_drew1 HB.out)
  clear BK146
  clear BK147
  clear HB
  have BK146 := n0_
  have BK147 := n1_
  have HB := n2_
  clear n0_ n1_ n2_
  refine start_ (n := 15) (S := fun w' => w'.cell? ⟨gb146, 0, none⟩ = some (.string a0_0) ∧ w'.cell? ⟨gb146, 1, none⟩ = some (.string a0_1) ∧ w'.cell? ⟨gb146, 2, none⟩ = some (.string a0_2) ∧ w'.cell? ⟨gb146, 3, none⟩ = some (.string a0_3) ∧ w'.cell? ⟨gb146, 4, none⟩ = some (.string a0_4)) (ds := []) #[false, false, false, false, false, false, false, false, false, false, false, false, false, false, false] (by kernel_rfl) rfl rfl ⟨(blk_cell BK146.out 0).trans rfl, (blk_cell BK146.out 1).trans rfl, (blk_cell BK146.out 2).trans rfl, (blk_cell BK146.out 3).trans rfl, (blk_cell BK146.out 4).trans rfl⟩ (fun hHeld => ?_); refine with_tabW laws_kyId.tab1 laws_kyId.bits1 (fun HT_ HW_ => ?_)
  generalize w8.drew = w9 at BK146 BK147 HB hHeld ⊢
  refine pure_ (i := 0) (N := some 4) (v := ?_) (a' := ?_) #[true, false, false, false, false, false, false, false, false, false, false, false, false, false, false] rfl rfl (any_of HT_.out (by kernel_rfl)) (fun _ _ _ h => h) (Or.inl ⟨by rfl, ?_⟩) ?_ ?_
  rotate_left
  · intro w'
    go_simp
    with_reducible rfl
  rotate_left
  · simp only [Act.put, List.setIfInBounds_toArray, List.set_cons_zero, List.set_cons_succ, i64_w, i32_w]
    rfl
  refine pure_ (i := 3) (N := some 7) (v := ?_) (a' := ?_) #[true, false, false, true, false, false, false, false, false, false, false, false, false, false, false] rfl rfl (any_of HT_.out (by kernel_rfl)) (fun _ _ _ h => h) (Or.inl ⟨by rfl, ?_⟩) ?_ ?_
  rotate_left
  · intro w'
    go_simp
    with_reducible rfl
  rotate_left
  · simp only [Act.put, List.setIfInBounds_toArray, List.set_cons_zero, List.set_cons_succ, i64_w, i32_w]
    rfl
  refine pure_ (i := 6) (N := some 10) (v := ?_) (a' := ?_) #[true, false, false, true, false, false, true, false, false, false, false, false, false, false, false] rfl rfl (any_of HT_.out (by kernel_rfl)) (fun _ _ _ h => h) (Or.inl ⟨by rfl, ?_⟩) ?_ ?_
  rotate_left
  · intro w'
    go_simp
    with_reducible rfl
  rotate_left
  · simp only [Act.put, List.setIfInBounds_toArray, List.set_cons_zero, List.set_cons_succ, i64_w, i32_w]
    rfl
  refine pure_ (i := 9) (N := some 13) (v := ?_) (a' := ?_) #[true, false, false, true, false, false, true, false, false, true, false, false, false, false, false] rfl rfl (any_of HT_.out (by kernel_rfl)) (fun _ _ _ h => h) (Or.inl ⟨by rfl, ?_⟩) ?_ ?_
  rotate_left
  · intro w'
    go_simp
    with_reducible rfl
  rotate_left
  · simp only [Act.put, List.setIfInBounds_toArray, List.set_cons_zero, List.set_cons_succ, i64_w, i32_w]
    rfl
  refine take_ (i := 1) (N := some 5) (v := ?_) (a' := ?_) #[true, true, false, true, false, false, true, false, false, true, false, false, false, false, false] rfl rfl (take_ofW HT_.out HW_.out (by kernel_rfl)) (fun _ _ _ h => h) (Or.inl ⟨by rfl, ?_⟩) hHeld ?_ ?_
  rotate_left
  · rintro w' ⟨s0, s1, s2, s3, s4⟩
    go_simp
    with_reducible rfl
  rotate_left
  · simp only [Act.put, List.setIfInBounds_toArray, List.set_cons_zero, List.set_cons_succ, i64_w, i32_w]
    rfl
  refine take_ (i := 4) (N := some 8) (v := ?_) (a' := ?_) #[true, true, false, true, true, false, true, false, false, true, false, false, false, false, false] rfl rfl (take_ofW HT_.out HW_.out (by kernel_rfl)) (fun _ _ _ h => h) (Or.inl ⟨by rfl, ?_⟩) hHeld ?_ ?_
  rotate_left
  · rintro w' ⟨s0, s1, s2, s3, s4⟩
    go_simp
    with_reducible rfl
  rotate_left
  · simp only [Act.put, List.setIfInBounds_toArray, List.set_cons_zero, List.set_cons_succ, i64_w, i32_w]
    rfl
  refine take_ (i := 7) (N := some 11) (v := ?_) (a' := ?_) #[true, true, false, true, true, false, true, true, false, true, false, false, false, false, false] rfl rfl (take_ofW HT_.out HW_.out (by kernel_rfl)) (fun _ _ _ h => h) (Or.inl ⟨by rfl, ?_⟩) hHeld ?_ ?_
  rotate_left
  · rintro w' ⟨s0, s1, s2, s3, s4⟩
    go_simp
    with_reducible rfl
  rotate_left
  · simp only [Act.put, List.setIfInBounds_toArray, List.set_cons_zero, List.set_cons_succ, i64_w, i32_w]
    rfl
  refine take_ (i := 10) (N := some 14) (v := ?_) (a' := ?_) #[true, true, false, true, true, false, true, true, false, true, true, false, false, false, false] rfl rfl (take_ofW HT_.out HW_.out (by kernel_rfl)) (fun _ _ _ h => h) (Or.inl ⟨by rfl, ?_⟩) hHeld ?_ ?_
  rotate_left
  · rintro w' ⟨s0, s1, s2, s3, s4⟩
    go_simp
    with_reducible rfl
  rotate_left
  · simp only [Act.put, List.setIfInBounds_toArray, List.set_cons_zero, List.set_cons_succ, i64_w, i32_w]
    rfl
  refine join_ (σ := Nat) 1 #[true, true, true, true, true, true, true, true, true, true, true, true, true, true, false] (fun s_ => [(6, .string t148), (9, .string t149), (12, .string t150), (15, .string t151), (3, .pointer (some ⟨s_, 0, none⟩)), (16, .agg #[.string t148, .string t149, .string (⟨#[]⟩ : ByteArray), .string t150, .string t151])]) (fun s_ w' => (w'.cell? ⟨gb146, 0, none⟩ = some (.string a0_0) ∧ w'.cell? ⟨gb146, 1, none⟩ = some (.string a0_1) ∧ w'.cell? ⟨gb146, 2, none⟩ = some (.string a0_2) ∧ w'.cell? ⟨gb146, 3, none⟩ = some (.string a0_3) ∧ w'.cell? ⟨gb146, 4, none⟩ = some (.string a0_4)) ∧ (w'.heap[gb146]? = some (.cells #[.string a0_0, .string a0_1, .string a0_2, .string a0_3, .string a0_4] 23 (0, 0))) ∧ (w'.heap[gb147]? = some (.cells #[.string (⟨#[]⟩ : ByteArray), .string (⟨#[]⟩ : ByteArray), .string (⟨#[]⟩ : ByteArray), .string (⟨#[]⟩ : ByteArray), .string (⟨#[]⟩ : ByteArray)] 23 (0, 0))) ∧ (w'.heap[s_]? = some (.cells #[.string (⟨#[]⟩ : ByteArray), .string (⟨#[]⟩ : ByteArray), .string (⟨#[]⟩ : ByteArray), .string (⟨#[]⟩ : ByteArray), .string (⟨#[]⟩ : ByteArray)] 23 (0, 0))) ∧ (w.heap.size ≤ s_) ∧ (w.heap.size ≤ s_) ∧ (gb146 ≠ s_) ∧ (s_ ≠ gb146) ∧ (gb147 ≠ s_) ∧ (s_ ≠ gb147) ∧ (Below w.heap.size w w')) ?_ ?_
  rotate_left
  · intro hJ2_5_8_11_13
    refine join_ (σ := Unit) 2 #[true, true, true, true, true, true, true, true, true, true, true, true, true, false, false] (fun s_ => [(6, .string t148), (9, .string t149), (12, .string t150), (15, .string t151), (16, .agg #[.string t148, .string t149, .string (⟨#[]⟩ : ByteArray), .string t150, .string t151])]) (fun s_ w' => (w'.cell? ⟨gb146, 0, none⟩ = some (.string a0_0) ∧ w'.cell? ⟨gb146, 1, none⟩ = some (.string a0_1) ∧ w'.cell? ⟨gb146, 2, none⟩ = some (.string a0_2) ∧ w'.cell? ⟨gb146, 3, none⟩ = some (.string a0_3) ∧ w'.cell? ⟨gb146, 4, none⟩ = some (.string a0_4)) ∧ (w'.heap[gb146]? = some (.cells #[.string a0_0, .string a0_1, .string a0_2, .string a0_3, .string a0_4] 23 (0, 0))) ∧ (w'.heap[gb147]? = some (.cells #[.string (⟨#[]⟩ : ByteArray), .string (⟨#[]⟩ : ByteArray), .string (⟨#[]⟩ : ByteArray), .string (⟨#[]⟩ : ByteArray), .string (⟨#[]⟩ : ByteArray)] 23 (0, 0))) ∧ (Below w.heap.size w w')) ?_ ?_
    rotate_left
    · intro hJ2_5_8_11
      refine join_ (σ := Nat) 3 #[true, true, true, true, true, true, true, true, true, true, true, false, false, true, false] (fun s_ => [(6, .string t148), (9, .string t149), (12, .string t150), (3, .pointer (some ⟨s_, 0, none⟩))]) (fun s_ w' => (w'.cell? ⟨gb146, 0, none⟩ = some (.string a0_0) ∧ w'.cell? ⟨gb146, 1, none⟩ = some (.string a0_1) ∧ w'.cell? ⟨gb146, 2, none⟩ = some (.string a0_2) ∧ w'.cell? ⟨gb146, 3, none⟩ = some (.string a0_3) ∧ w'.cell? ⟨gb146, 4, none⟩ = some (.string a0_4)) ∧ (w'.heap[gb146]? = some (.cells #[.string a0_0, .string a0_1, .string a0_2, .string a0_3, .string a0_4] 23 (0, 0))) ∧ (w'.heap[gb147]? = some (.cells #[.string (⟨#[]⟩ : ByteArray), .string (⟨#[]⟩ : ByteArray), .string (⟨#[]⟩ : ByteArray), .string (⟨#[]⟩ : ByteArray), .string (⟨#[]⟩ : ByteArray)] 23 (0, 0))) ∧ (w'.heap[s_]? = some (.cells #[.string (⟨#[]⟩ : ByteArray), .string (⟨#[]⟩ : ByteArray), .string (⟨#[]⟩ : ByteArray), .string (⟨#[]⟩ : ByteArray), .string (⟨#[]⟩ : ByteArray)] 23 (0, 0))) ∧ (w.heap.size ≤ s_) ∧ (w.heap.size ≤ s_) ∧ (gb146 ≠ s_) ∧ (s_ ≠ gb146) ∧ (gb147 ≠ s_) ∧ (s_ ≠ gb147) ∧ (Below w.heap.size w w')) ?_ ?_
      rotate_left
      · intro hJ2_5_8_13
        refine join_ (σ := Unit) 4 #[true, true, true, true, true, true, true, true, true, true, true, false, false, false, false] (fun s_ => [(6, .string t148), (9, .string t149), (12, .string t150)]) (fun s_ w' => (w'.cell? ⟨gb146, 0, none⟩ = some (.string a0_0) ∧ w'.cell? ⟨gb146, 1, none⟩ = some (.string a0_1) ∧ w'.cell? ⟨gb146, 2, none⟩ = some (.string a0_2) ∧ w'.cell? ⟨gb146, 3, none⟩ = some (.string a0_3) ∧ w'.cell? ⟨gb146, 4, none⟩ = some (.string a0_4)) ∧ (w'.heap[gb146]? = some (.cells #[.string a0_0, .string a0_1, .string a0_2, .string a0_3, .string a0_4] 23 (0, 0))) ∧ (w'.heap[gb147]? = some (.cells #[.string (⟨#[]⟩ : ByteArray), .string (⟨#[]⟩ : ByteArray), .string (⟨#[]⟩ : ByteArray), .string (⟨#[]⟩ : ByteArray), .string (⟨#[]⟩ : ByteArray)] 23 (0, 0))) ∧ (Below w.heap.size w w')) ?_ ?_
        rotate_left
        · intro hJ2_5_8
          refine join_ (σ := Nat) 4 #[true, true, true, true, true, true, true, true, false, true, true, false, false, true, false] (fun s_ => [(6, .string t148), (9, .string t149), (3, .pointer (some ⟨s_, 0, none⟩))]) (fun s_ w' => (w'.cell? ⟨gb146, 0, none⟩ = some (.string a0_0) ∧ w'.cell? ⟨gb146, 1, none⟩ = some (.string a0_1) ∧ w'.cell? ⟨gb146, 2, none⟩ = some (.string a0_2) ∧ w'.cell? ⟨gb146, 3, none⟩ = some (.string a0_3) ∧ w'.cell? ⟨gb146, 4, none⟩ = some (.string a0_4)) ∧ (w'.heap[gb146]? = some (.cells #[.string a0_0, .string a0_1, .string a0_2, .string a0_3, .string a0_4] 23 (0, 0))) ∧ (w'.heap[gb147]? = some (.cells #[.string (⟨#[]⟩ : ByteArray), .string (⟨#[]⟩ : ByteArray), .string (⟨#[]⟩ : ByteArray), .string (⟨#[]⟩ : ByteArray), .string (⟨#[]⟩ : ByteArray)] 23 (0, 0))) ∧ (w'.heap[s_]? = some (.cells #[.string (⟨#[]⟩ : ByteArray), .string (⟨#[]⟩ : ByteArray), .string (⟨#[]⟩ : ByteArray), .string (⟨#[]⟩ : ByteArray), .string (⟨#[]⟩ : ByteArray)] 23 (0, 0))) ∧ (w.heap.size ≤ s_) ∧ (w.heap.size ≤ s_) ∧ (gb146 ≠ s_) ∧ (s_ ≠ gb146) ∧ (gb147 ≠ s_) ∧ (s_ ≠ gb147) ∧ (Below w.heap.size w w')) ?_ ?_
          rotate_left
          · intro hJ2_5_13
            refine join_ (σ := Unit) 5 #[true, true, true, true, true, true, true, true, false, true, true, false, false, false, false] (fun s_ => [(6, .string t148), (9, .string t149)]) (fun s_ w' => (w'.cell? ⟨gb146, 0, none⟩ = some (.string a0_0) ∧ w'.cell? ⟨gb146, 1, none⟩ = some (.string a0_1) ∧ w'.cell? ⟨gb146, 2, none⟩ = some (.string a0_2) ∧ w'.cell? ⟨gb146, 3, none⟩ = some (.string a0_3) ∧ w'.cell? ⟨gb146, 4, none⟩ = some (.string a0_4)) ∧ (w'.heap[gb146]? = some (.cells #[.string a0_0, .string a0_1, .string a0_2, .string a0_3, .string a0_4] 23 (0, 0))) ∧ (w'.heap[gb147]? = some (.cells #[.string (⟨#[]⟩ : ByteArray), .string (⟨#[]⟩ : ByteArray), .string (⟨#[]⟩ : ByteArray), .string (⟨#[]⟩ : ByteArray), .string (⟨#[]⟩ : ByteArray)] 23 (0, 0))) ∧ (Below w.heap.size w w')) ?_ ?_
            rotate_left
            · intro hJ2_5
              refine join_ (σ := Nat) 5 #[true, true, true, true, true, false, true, true, false, true, true, false, false, true, false] (fun s_ => [(6, .string t148), (3, .pointer (some ⟨s_, 0, none⟩))]) (fun s_ w' => (w'.cell? ⟨gb146, 0, none⟩ = some (.string a0_0) ∧ w'.cell? ⟨gb146, 1, none⟩ = some (.string a0_1) ∧ w'.cell? ⟨gb146, 2, none⟩ = some (.string a0_2) ∧ w'.cell? ⟨gb146, 3, none⟩ = some (.string a0_3) ∧ w'.cell? ⟨gb146, 4, none⟩ = some (.string a0_4)) ∧ (w'.heap[gb146]? = some (.cells #[.string a0_0, .string a0_1, .string a0_2, .string a0_3, .string a0_4] 23 (0, 0))) ∧ (w'.heap[gb147]? = some (.cells #[.string (⟨#[]⟩ : ByteArray), .string (⟨#[]⟩ : ByteArray), .string (⟨#[]⟩ : ByteArray), .string (⟨#[]⟩ : ByteArray), .string (⟨#[]⟩ : ByteArray)] 23 (0, 0))) ∧ (w'.heap[s_]? = some (.cells #[.string (⟨#[]⟩ : ByteArray), .string (⟨#[]⟩ : ByteArray), .string (⟨#[]⟩ : ByteArray), .string (⟨#[]⟩ : ByteArray), .string (⟨#[]⟩ : ByteArray)] 23 (0, 0))) ∧ (w.heap.size ≤ s_) ∧ (w.heap.size ≤ s_) ∧ (gb146 ≠ s_) ∧ (s_ ≠ gb146) ∧ (gb147 ≠ s_) ∧ (s_ ≠ gb147) ∧ (Below w.heap.size w w')) ?_ ?_
              rotate_left
              · intro hJ2_13
                refine join_ (σ := Unit) 6 #[true, true, true, true, true, false, true, true, false, true, true, false, false, false, false] (fun s_ => [(6, .string t148)]) (fun s_ w' => (w'.cell? ⟨gb146, 0, none⟩ = some (.string a0_0) ∧ w'.cell? ⟨gb146, 1, none⟩ = some (.string a0_1) ∧ w'.cell? ⟨gb146, 2, none⟩ = some (.string a0_2) ∧ w'.cell? ⟨gb146, 3, none⟩ = some (.string a0_3) ∧ w'.cell? ⟨gb146, 4, none⟩ = some (.string a0_4)) ∧ (w'.heap[gb146]? = some (.cells #[.string a0_0, .string a0_1, .string a0_2, .string a0_3, .string a0_4] 23 (0, 0))) ∧ (w'.heap[gb147]? = some (.cells #[.string (⟨#[]⟩ : ByteArray), .string (⟨#[]⟩ : ByteArray), .string (⟨#[]⟩ : ByteArray), .string (⟨#[]⟩ : ByteArray), .string (⟨#[]⟩ : ByteArray)] 23 (0, 0))) ∧ (Below w.heap.size w w')) ?_ ?_
                rotate_left
                · intro hJ2
                  refine join_ (σ := Nat) 6 #[true, true, false, true, true, false, true, true, false, true, true, false, false, true, false] (fun s_ => [(3, .pointer (some ⟨s_, 0, none⟩))]) (fun s_ w' => (w'.cell? ⟨gb146, 0, none⟩ = some (.string a0_0) ∧ w'.cell? ⟨gb146, 1, none⟩ = some (.string a0_1) ∧ w'.cell? ⟨gb146, 2, none⟩ = some (.string a0_2) ∧ w'.cell? ⟨gb146, 3, none⟩ = some (.string a0_3) ∧ w'.cell? ⟨gb146, 4, none⟩ = some (.string a0_4)) ∧ (w'.heap[gb146]? = some (.cells #[.string a0_0, .string a0_1, .string a0_2, .string a0_3, .string a0_4] 23 (0, 0))) ∧ (w'.heap[gb147]? = some (.cells #[.string (⟨#[]⟩ : ByteArray), .string (⟨#[]⟩ : ByteArray), .string (⟨#[]⟩ : ByteArray), .string (⟨#[]⟩ : ByteArray), .string (⟨#[]⟩ : ByteArray)] 23 (0, 0))) ∧ (w'.heap[s_]? = some (.cells #[.string (⟨#[]⟩ : ByteArray), .string (⟨#[]⟩ : ByteArray), .string (⟨#[]⟩ : ByteArray), .string (⟨#[]⟩ : ByteArray), .string (⟨#[]⟩ : ByteArray)] 23 (0, 0))) ∧ (w.heap.size ≤ s_) ∧ (w.heap.size ≤ s_) ∧ (gb146 ≠ s_) ∧ (s_ ≠ gb146) ∧ (gb147 ≠ s_) ∧ (s_ ≠ gb147) ∧ (Below w.heap.size w w')) ?_ ?_
                  rotate_left
                  · intro hJ13
                    refine two_ (i := 2) (j := 13) (Ni := some 6) (Nj := some 3) #[true, true, true, true, true, false, true, true, false, true, true, false, false, false, false] #[true, true, false, true, true, false, true, true, false, true, true, false, false, true, false] rfl rfl rfl rfl (two_of HT_.out (by kernel_rfl)) (by decide) (by decide) (fun K hK => ?_) (fun K hK => ?_)
                    · skip
                      refine goes_ Tryd.func7 (by kernel_rfl) rfl #[.string a0_0] (by rfl) rfl rfl (by (try simp only [List.map_toArray, List.map_cons, List.map_nil]); first | done | rfl | (simp only [List.length_drop, List.length_take]; rfl)) ?_
                      with_reducible refine (laws_kyPlain.calls k a0_0 t148 _ A2.out).mono ?_
                      rintro e w10 ⟨rfl, hb⟩
                      refine ⟨_, rfl, ?_⟩
                      have n0_ := Aside0.mk (blk_below (g := gb146) (o := .cells #[.string a0_0, .string a0_1, .string a0_2, .string a0_3, .string a0_4] 23 (0, 0)) (by (with_reducible repeat (first | refine blk_drewN ?_ _ | refine blk_drew ?_ | refine blk_alloc ?_ _)); exact BK146.out) hb)
                      have n1_ := Aside0.mk (blk_below (g := gb147) (o := .cells #[.string (⟨#[]⟩ : ByteArray), .string (⟨#[]⟩ : ByteArray), .string (⟨#[]⟩ : ByteArray), .string (⟨#[]⟩ : ByteArray), .string (⟨#[]⟩ : ByteArray)] 23 (0, 0)) (by (with_reducible repeat (first | refine blk_drewN ?_ _ | refine blk_drew ?_ | refine blk_alloc ?_ _)); exact BK147.out) hb)
                      have n2_ := Aside0.mk (below_step (by repeat (first | (with_reducible first | exact HB.out | apply below_alloc | apply pw_below_drewN | apply below_drew1 | refine below_set ?_ GE146.out | refine below_set ?_ GE147.out) | exact HB.out)) hb)
                      clear BK146
                      clear BK147
                      clear HB
                      have BK146 := n0_
                      have BK147 := n1_
                      have HB := n2_
                      clear n0_ n1_ n2_
                      (try clear hb)
                      (try clear hb2)
                      (try clear hk)
                      (try clear hi)
                      refine hK.out _ _ ⟨(blk_cell BK146.out 0).trans rfl, (blk_cell BK146.out 1).trans rfl, (blk_cell BK146.out 2).trans rfl, (blk_cell BK146.out 3).trans rfl, (blk_cell BK146.out 4).trans rfl⟩ (fun hHeld => ?_)
                      clear hK K
                      refine norm_ (a' := ?_) ?_ ?_
                      rotate_left
                      · show Act.put _ (some 6) _ = _
                        simp only [Act.put, List.setIfInBounds_toArray, List.set_cons_zero, List.set_cons_succ, i64_w, i32_w]
                        rfl
                      exact norm_ (by first | (simp only [putAll, Act.put, List.setIfInBounds_toArray, List.set_cons_zero, List.set_cons_succ]; done) | (simp only [putAll, Act.put, List.setIfInBounds_toArray, List.set_cons_zero, List.set_cons_succ]; rfl)) (hJ2 () _ ⟨hHeld, (by (with_reducible repeat (first | refine blk_drewN ?_ _ | refine blk_drew ?_ | refine blk_alloc ?_ _)); exact BK146.out), (by (with_reducible repeat (first | refine blk_drewN ?_ _ | refine blk_drew ?_ | refine blk_alloc ?_ _)); exact BK147.out), (by repeat (first | (with_reducible first | exact HB.out | apply below_alloc | apply pw_below_drewN | apply below_drew1 | refine below_set ?_ GE146.out | refine below_set ?_ GE147.out) | exact HB.out))⟩)
                    · skip
                      refine box_step ?hg (N := 3) ?hd (cs := #[.string (⟨#[]⟩ : ByteArray), .string (⟨#[]⟩ : ByteArray), .string (⟨#[]⟩ : ByteArray), .string (⟨#[]⟩ : ByteArray), .string (⟨#[]⟩ : ByteArray)]) (t := 23) ?hr ?_; (case hd => rfl); (case hg => rfl); (case hr => first | (go_simp; done) | (go_simp; rfl))
                      intro gb152 hg w10 hbox hb
                      have n0_ := Aside0.mk (blk_below (g := gb146) (o := .cells #[.string a0_0, .string a0_1, .string a0_2, .string a0_3, .string a0_4] 23 (0, 0)) (by (with_reducible repeat (first | refine blk_drewN ?_ _ | refine blk_drew ?_ | refine blk_alloc ?_ _)); exact BK146.out) hb)
                      have n1_ := Aside0.mk (blk_below (g := gb147) (o := .cells #[.string (⟨#[]⟩ : ByteArray), .string (⟨#[]⟩ : ByteArray), .string (⟨#[]⟩ : ByteArray), .string (⟨#[]⟩ : ByteArray), .string (⟨#[]⟩ : ByteArray)] 23 (0, 0)) (by (with_reducible repeat (first | refine blk_drewN ?_ _ | refine blk_drew ?_ | refine blk_alloc ?_ _)); exact BK147.out) hb)
                      have n2_ := Aside0.mk (below_step (by repeat (first | (with_reducible first | exact HB.out | apply below_alloc | apply pw_below_drewN | apply below_drew1 | refine below_set ?_ GE146.out | refine below_set ?_ GE147.out) | exact HB.out)) hb)
                      have n3_ := Aside0.mk (hbox)
                      have n4_ := Aside0.mk ((by rw [hg]; exact (below_size (by repeat (first | (with_reducible first | exact HB.out | apply below_alloc | apply pw_below_drewN | apply below_drew1 | refine below_set ?_ GE146.out | refine below_set ?_ GE147.out) | exact HB.out))) : w.heap.size ≤ gb152))
                      have n5_ := Aside0.mk ((by rw [hg]; exact (below_size (by repeat (first | (with_reducible first | exact HB.out | apply below_alloc | apply pw_below_drewN | apply below_drew1 | refine below_set ?_ GE146.out | refine below_set ?_ GE147.out) | exact HB.out))) : w.heap.size ≤ gb152))
                      have n6_ := Aside0.mk ((by rw [hg]; exact Nat.ne_of_lt (blk_lt (g := gb146) (o := .cells #[.string a0_0, .string a0_1, .string a0_2, .string a0_3, .string a0_4] 23 (0, 0)) (by (with_reducible repeat (first | refine blk_drewN ?_ _ | refine blk_drew ?_ | refine blk_alloc ?_ _)); exact BK146.out)) : gb146 ≠ gb152))
                      have n7_ := Aside0.mk ((by rw [hg]; exact Nat.ne_of_gt (blk_lt (g := gb146) (o := .cells #[.string a0_0, .string a0_1, .string a0_2, .string a0_3, .string a0_4] 23 (0, 0)) (by (with_reducible repeat (first | refine blk_drewN ?_ _ | refine blk_drew ?_ | refine blk_alloc ?_ _)); exact BK146.out)) : gb152 ≠ gb146))
                      have n8_ := Aside0.mk ((by rw [hg]; exact Nat.ne_of_lt (blk_lt (g := gb147) (o := .cells #[.string (⟨#[]⟩ : ByteArray), .string (⟨#[]⟩ : ByteArray), .string (⟨#[]⟩ : ByteArray), .string (⟨#[]⟩ : ByteArray), .string (⟨#[]⟩ : ByteArray)] 23 (0, 0)) (by (with_reducible repeat (first | refine blk_drewN ?_ _ | refine blk_drew ?_ | refine blk_alloc ?_ _)); exact BK147.out)) : gb147 ≠ gb152))
                      have n9_ := Aside0.mk ((by rw [hg]; exact Nat.ne_of_gt (blk_lt (g := gb147) (o := .cells #[.string (⟨#[]⟩ : ByteArray), .string (⟨#[]⟩ : ByteArray), .string (⟨#[]⟩ : ByteArray), .string (⟨#[]⟩ : ByteArray), .string (⟨#[]⟩ : ByteArray)] 23 (0, 0)) (by (with_reducible repeat (first | refine blk_drewN ?_ _ | refine blk_drew ?_ | refine blk_alloc ?_ _)); exact BK147.out)) : gb152 ≠ gb147))
                      clear BK146
                      clear BK147
                      clear HB
                      have BK146 := n0_
                      have BK147 := n1_
                      have HB := n2_
                      have BK152 := n3_
                      have GW152 := n4_
                      have GE152 := n5_
                      have NB146_152 := n6_
                      have NB152_146 := n7_
                      have NB147_152 := n8_
                      have NB152_147 := n9_
                      clear n0_ n1_ n2_ n3_ n4_ n5_ n6_ n7_ n8_ n9_
                      clear hb hbox hg
                      refine hK.out _ _ ⟨(blk_cell BK146.out 0).trans rfl, (blk_cell BK146.out 1).trans rfl, (blk_cell BK146.out 2).trans rfl, (blk_cell BK146.out 3).trans rfl, (blk_cell BK146.out 4).trans rfl⟩ (fun hHeld => ?_)
                      clear hK K
                      refine norm_ (a' := ?_) ?_ ?_
                      rotate_left
                      · show Act.put _ (some 3) _ = _
                        simp only [Act.put, List.setIfInBounds_toArray, List.set_cons_zero, List.set_cons_succ, i64_w, i32_w]
                        rfl
                      exact norm_ (by first | (simp only [putAll, Act.put, List.setIfInBounds_toArray, List.set_cons_zero, List.set_cons_succ]; done) | (simp only [putAll, Act.put, List.setIfInBounds_toArray, List.set_cons_zero, List.set_cons_succ]; rfl)) (hJ13 (gb152) _ ⟨hHeld, (by (with_reducible repeat (first | refine blk_drewN ?_ _ | refine blk_drew ?_ | refine blk_alloc ?_ _)); exact BK146.out), (by (with_reducible repeat (first | refine blk_drewN ?_ _ | refine blk_drew ?_ | refine blk_alloc ?_ _)); exact BK147.out), (by (with_reducible repeat (first | refine blk_drewN ?_ _ | refine blk_drew ?_ | refine blk_alloc ?_ _)); exact BK152.out), GW152.out, GE152.out, NB146_152.out, NB152_146.out, NB147_152.out, NB152_147.out, (by repeat (first | (with_reducible first | exact HB.out | apply below_alloc | apply pw_below_drewN | apply below_drew1 | refine below_set ?_ GE146.out | refine below_set ?_ GE147.out | refine below_set ?_ GE152.out) | exact HB.out))⟩)
                  · skip
                    rintro gb152 w11 ⟨hS_, h0_, h1_, h2_, h3_, h4_, h5_, h6_, h7_, h8_, h9_⟩
                    have n0_ : Aside0 (w11.heap[gb146]? = some (.cells #[.string a0_0, .string a0_1, .string a0_2, .string a0_3, .string a0_4] 23 (0, 0))) := ⟨h0_⟩
                    have n1_ : Aside0 (w11.heap[gb147]? = some (.cells #[.string (⟨#[]⟩ : ByteArray), .string (⟨#[]⟩ : ByteArray), .string (⟨#[]⟩ : ByteArray), .string (⟨#[]⟩ : ByteArray), .string (⟨#[]⟩ : ByteArray)] 23 (0, 0))) := ⟨h1_⟩
                    have n2_ : Aside0 (w11.heap[gb152]? = some (.cells #[.string (⟨#[]⟩ : ByteArray), .string (⟨#[]⟩ : ByteArray), .string (⟨#[]⟩ : ByteArray), .string (⟨#[]⟩ : ByteArray), .string (⟨#[]⟩ : ByteArray)] 23 (0, 0))) := ⟨h2_⟩
                    have n3_ : Aside0 (w.heap.size ≤ gb152) := ⟨h3_⟩
                    have n4_ : Aside0 (w.heap.size ≤ gb152) := ⟨h4_⟩
                    have n5_ : Aside0 (gb146 ≠ gb152) := ⟨h5_⟩
                    have n6_ : Aside0 (gb152 ≠ gb146) := ⟨h6_⟩
                    have n7_ : Aside0 (gb147 ≠ gb152) := ⟨h7_⟩
                    have n8_ : Aside0 (gb152 ≠ gb147) := ⟨h8_⟩
                    have n9_ : Aside0 (Below w.heap.size w w11) := ⟨h9_⟩
                    clear BK146
                    clear BK147
                    clear HB
                    clear h0_ h1_ h2_ h3_ h4_ h5_ h6_ h7_ h8_ h9_
                    have BK146 := n0_
                    have BK147 := n1_
                    have BK152 := n2_
                    have GW152 := n3_
                    have GE152 := n4_
                    have NB146_152 := n5_
                    have NB152_146 := n6_
                    have NB147_152 := n7_
                    have NB152_147 := n8_
                    have HB := n9_
                    clear n0_ n1_ n2_ n3_ n4_ n5_ n6_ n7_ n8_ n9_
                    have hHeld : w11.cell? ⟨gb146, 0, none⟩ = some (.string a0_0) ∧ w11.cell? ⟨gb146, 1, none⟩ = some (.string a0_1) ∧ w11.cell? ⟨gb146, 2, none⟩ = some (.string a0_2) ∧ w11.cell? ⟨gb146, 3, none⟩ = some (.string a0_3) ∧ w11.cell? ⟨gb146, 4, none⟩ = some (.string a0_4) := hS_
                    refine norm_ (a' := ?_) ?_ ?_
                    rotate_left
                    · simp only [putAll, Act.put, List.setIfInBounds_toArray, List.set_cons_zero, List.set_cons_succ]
                      rfl
                    refine one_ (i := 2) (N := some 6) #[true, true, true, true, true, false, true, true, false, true, true, false, false, true, false] rfl rfl (one_of HT_.out (by kernel_rfl)) (by decide) (fun K hK => ?_)
                    refine goes_ Tryd.func7 (by kernel_rfl) rfl #[.string a0_0] (by rfl) rfl rfl (by (try simp only [List.map_toArray, List.map_cons, List.map_nil]); first | done | rfl | (simp only [List.length_drop, List.length_take]; rfl)) ?_
                    with_reducible refine (laws_kyPlain.calls k a0_0 t148 _ A2.out).mono ?_
                    rintro e w12 ⟨rfl, hb⟩
                    refine ⟨_, rfl, ?_⟩
                    have n0_ := Aside0.mk (blk_below (g := gb146) (o := .cells #[.string a0_0, .string a0_1, .string a0_2, .string a0_3, .string a0_4] 23 (0, 0)) (by (with_reducible repeat (first | refine blk_drewN ?_ _ | refine blk_drew ?_ | refine blk_alloc ?_ _)); exact BK146.out) hb)
                    have n1_ := Aside0.mk (blk_below (g := gb147) (o := .cells #[.string (⟨#[]⟩ : ByteArray), .string (⟨#[]⟩ : ByteArray), .string (⟨#[]⟩ : ByteArray), .string (⟨#[]⟩ : ByteArray), .string (⟨#[]⟩ : ByteArray)] 23 (0, 0)) (by (with_reducible repeat (first | refine blk_drewN ?_ _ | refine blk_drew ?_ | refine blk_alloc ?_ _)); exact BK147.out) hb)
                    have n2_ := Aside0.mk (blk_below (g := gb152) (o := .cells #[.string (⟨#[]⟩ : ByteArray), .string (⟨#[]⟩ : ByteArray), .string (⟨#[]⟩ : ByteArray), .string (⟨#[]⟩ : ByteArray), .string (⟨#[]⟩ : ByteArray)] 23 (0, 0)) (by (with_reducible repeat (first | refine blk_drewN ?_ _ | refine blk_drew ?_ | refine blk_alloc ?_ _)); exact BK152.out) hb)
                    have n3_ := Aside0.mk (below_step (by repeat (first | (with_reducible first | exact HB.out | apply below_alloc | apply pw_below_drewN | apply below_drew1 | refine below_set ?_ GE146.out | refine below_set ?_ GE147.out | refine below_set ?_ GE152.out) | exact HB.out)) hb)
                    clear BK146
                    clear BK147
                    clear BK152
                    clear HB
                    have BK146 := n0_
                    have BK147 := n1_
                    have BK152 := n2_
                    have HB := n3_
                    clear n0_ n1_ n2_ n3_
                    (try clear hb)
                    (try clear hb2)
                    (try clear hk)
                    (try clear hi)
                    refine hK.out _ _ ⟨(blk_cell BK146.out 0).trans rfl, (blk_cell BK146.out 1).trans rfl, (blk_cell BK146.out 2).trans rfl, (blk_cell BK146.out 3).trans rfl, (blk_cell BK146.out 4).trans rfl⟩ (fun hHeld => ?_)
                    clear hK K
                    refine norm_ (a' := ?_) ?_ ?_
                    rotate_left
                    · show Act.put _ (some 6) _ = _
                      simp only [Act.put, List.setIfInBounds_toArray, List.set_cons_zero, List.set_cons_succ, i64_w, i32_w]
                      rfl
                    exact norm_ (by first | (simp only [putAll, Act.put, List.setIfInBounds_toArray, List.set_cons_zero, List.set_cons_succ]; done) | (simp only [putAll, Act.put, List.setIfInBounds_toArray, List.set_cons_zero, List.set_cons_succ]; rfl)) (hJ2_13 (gb152) _ ⟨hHeld, (by (with_reducible repeat (first | refine blk_drewN ?_ _ | refine blk_drew ?_ | refine blk_alloc ?_ _)); exact BK146.out), (by (with_reducible repeat (first | refine blk_drewN ?_ _ | refine blk_drew ?_ | refine blk_alloc ?_ _)); exact BK147.out), (by (with_reducible repeat (first | refine blk_drewN ?_ _ | refine blk_drew ?_ | refine blk_alloc ?_ _)); exact BK152.out), GW152.out, GE152.out, NB146_152.out, NB152_146.out, NB147_152.out, NB152_147.out, (by repeat (first | (with_reducible first | exact HB.out | apply below_alloc | apply pw_below_drewN | apply below_drew1 | refine below_set ?_ GE146.out | refine below_set ?_ GE147.out | refine below_set ?_ GE152.out) | exact HB.out))⟩)
                · skip
                  rintro _ w11 ⟨hS_, h0_, h1_, h2_⟩
                  have n0_ : Aside0 (w11.heap[gb146]? = some (.cells #[.string a0_0, .string a0_1, .string a0_2, .string a0_3, .string a0_4] 23 (0, 0))) := ⟨h0_⟩
                  have n1_ : Aside0 (w11.heap[gb147]? = some (.cells #[.string (⟨#[]⟩ : ByteArray), .string (⟨#[]⟩ : ByteArray), .string (⟨#[]⟩ : ByteArray), .string (⟨#[]⟩ : ByteArray), .string (⟨#[]⟩ : ByteArray)] 23 (0, 0))) := ⟨h1_⟩
                  have n2_ : Aside0 (Below w.heap.size w w11) := ⟨h2_⟩
                  clear BK146
                  clear BK147
                  clear HB
                  clear h0_ h1_ h2_
                  have BK146 := n0_
                  have BK147 := n1_
                  have HB := n2_
                  clear n0_ n1_ n2_
                  have hHeld : w11.cell? ⟨gb146, 0, none⟩ = some (.string a0_0) ∧ w11.cell? ⟨gb146, 1, none⟩ = some (.string a0_1) ∧ w11.cell? ⟨gb146, 2, none⟩ = some (.string a0_2) ∧ w11.cell? ⟨gb146, 3, none⟩ = some (.string a0_3) ∧ w11.cell? ⟨gb146, 4, none⟩ = some (.string a0_4) := hS_
                  refine norm_ (a' := ?_) ?_ ?_
                  rotate_left
                  · simp only [putAll, Act.put, List.setIfInBounds_toArray, List.set_cons_zero, List.set_cons_succ]
                    rfl
                  refine two_ (i := 5) (j := 13) (Ni := some 9) (Nj := some 3) #[true, true, true, true, true, true, true, true, false, true, true, false, false, false, false] #[true, true, true, true, true, false, true, true, false, true, true, false, false, true, false] rfl rfl rfl rfl (two_of HT_.out (by kernel_rfl)) (by decide) (by decide) (fun K hK => ?_) (fun K hK => ?_)
                  · skip
                    refine goes_ Tryd.func7 (by kernel_rfl) rfl #[.string a0_1] (by rfl) rfl rfl (by (try simp only [List.map_toArray, List.map_cons, List.map_nil]); first | done | rfl | (simp only [List.length_drop, List.length_take]; rfl)) ?_
                    with_reducible refine (laws_kyPlain.calls k a0_1 t149 _ A3.out).mono ?_
                    rintro e w12 ⟨rfl, hb⟩
                    refine ⟨_, rfl, ?_⟩
                    have n0_ := Aside0.mk (blk_below (g := gb146) (o := .cells #[.string a0_0, .string a0_1, .string a0_2, .string a0_3, .string a0_4] 23 (0, 0)) (by (with_reducible repeat (first | refine blk_drewN ?_ _ | refine blk_drew ?_ | refine blk_alloc ?_ _)); exact BK146.out) hb)
                    have n1_ := Aside0.mk (blk_below (g := gb147) (o := .cells #[.string (⟨#[]⟩ : ByteArray), .string (⟨#[]⟩ : ByteArray), .string (⟨#[]⟩ : ByteArray), .string (⟨#[]⟩ : ByteArray), .string (⟨#[]⟩ : ByteArray)] 23 (0, 0)) (by (with_reducible repeat (first | refine blk_drewN ?_ _ | refine blk_drew ?_ | refine blk_alloc ?_ _)); exact BK147.out) hb)
                    have n2_ := Aside0.mk (below_step (by repeat (first | (with_reducible first | exact HB.out | apply below_alloc | apply pw_below_drewN | apply below_drew1 | refine below_set ?_ GE146.out | refine below_set ?_ GE147.out) | exact HB.out)) hb)
                    clear BK146
                    clear BK147
                    clear HB
                    have BK146 := n0_
                    have BK147 := n1_
                    have HB := n2_
                    clear n0_ n1_ n2_
                    (try clear hb)
                    (try clear hb2)
                    (try clear hk)
                    (try clear hi)
                    refine hK.out _ _ ⟨(blk_cell BK146.out 0).trans rfl, (blk_cell BK146.out 1).trans rfl, (blk_cell BK146.out 2).trans rfl, (blk_cell BK146.out 3).trans rfl, (blk_cell BK146.out 4).trans rfl⟩ (fun hHeld => ?_)
                    clear hK K
                    refine norm_ (a' := ?_) ?_ ?_
                    rotate_left
                    · show Act.put _ (some 9) _ = _
                      simp only [Act.put, List.setIfInBounds_toArray, List.set_cons_zero, List.set_cons_succ, i64_w, i32_w]
                      rfl
                    exact norm_ (by first | (simp only [putAll, Act.put, List.setIfInBounds_toArray, List.set_cons_zero, List.set_cons_succ]; done) | (simp only [putAll, Act.put, List.setIfInBounds_toArray, List.set_cons_zero, List.set_cons_succ]; rfl)) (hJ2_5 () _ ⟨hHeld, (by (with_reducible repeat (first | refine blk_drewN ?_ _ | refine blk_drew ?_ | refine blk_alloc ?_ _)); exact BK146.out), (by (with_reducible repeat (first | refine blk_drewN ?_ _ | refine blk_drew ?_ | refine blk_alloc ?_ _)); exact BK147.out), (by repeat (first | (with_reducible first | exact HB.out | apply below_alloc | apply pw_below_drewN | apply below_drew1 | refine below_set ?_ GE146.out | refine below_set ?_ GE147.out) | exact HB.out))⟩)
                  · skip
                    refine box_step ?hg (N := 3) ?hd (cs := #[.string (⟨#[]⟩ : ByteArray), .string (⟨#[]⟩ : ByteArray), .string (⟨#[]⟩ : ByteArray), .string (⟨#[]⟩ : ByteArray), .string (⟨#[]⟩ : ByteArray)]) (t := 23) ?hr ?_; (case hd => rfl); (case hg => rfl); (case hr => first | (go_simp; done) | (go_simp; rfl))
                    intro gb152 hg w12 hbox hb
                    have n0_ := Aside0.mk (blk_below (g := gb146) (o := .cells #[.string a0_0, .string a0_1, .string a0_2, .string a0_3, .string a0_4] 23 (0, 0)) (by (with_reducible repeat (first | refine blk_drewN ?_ _ | refine blk_drew ?_ | refine blk_alloc ?_ _)); exact BK146.out) hb)
                    have n1_ := Aside0.mk (blk_below (g := gb147) (o := .cells #[.string (⟨#[]⟩ : ByteArray), .string (⟨#[]⟩ : ByteArray), .string (⟨#[]⟩ : ByteArray), .string (⟨#[]⟩ : ByteArray), .string (⟨#[]⟩ : ByteArray)] 23 (0, 0)) (by (with_reducible repeat (first | refine blk_drewN ?_ _ | refine blk_drew ?_ | refine blk_alloc ?_ _)); exact BK147.out) hb)
                    have n2_ := Aside0.mk (below_step (by repeat (first | (with_reducible first | exact HB.out | apply below_alloc | apply pw_below_drewN | apply below_drew1 | refine below_set ?_ GE146.out | refine below_set ?_ GE147.out) | exact HB.out)) hb)
                    have n3_ := Aside0.mk (hbox)
                    have n4_ := Aside0.mk ((by rw [hg]; exact (below_size (by repeat (first | (with_reducible first | exact HB.out | apply below_alloc | apply pw_below_drewN | apply below_drew1 | refine below_set ?_ GE146.out | refine below_set ?_ GE147.out) | exact HB.out))) : w.heap.size ≤ gb152))
                    have n5_ := Aside0.mk ((by rw [hg]; exact (below_size (by repeat (first | (with_reducible first | exact HB.out | apply below_alloc | apply pw_below_drewN | apply below_drew1 | refine below_set ?_ GE146.out | refine below_set ?_ GE147.out) | exact HB.out))) : w.heap.size ≤ gb152))
                    have n6_ := Aside0.mk ((by rw [hg]; exact Nat.ne_of_lt (blk_lt (g := gb146) (o := .cells #[.string a0_0, .string a0_1, .string a0_2, .string a0_3, .string a0_4] 23 (0, 0)) (by (with_reducible repeat (first | refine blk_drewN ?_ _ | refine blk_drew ?_ | refine blk_alloc ?_ _)); exact BK146.out)) : gb146 ≠ gb152))
                    have n7_ := Aside0.mk ((by rw [hg]; exact Nat.ne_of_gt (blk_lt (g := gb146) (o := .cells #[.string a0_0, .string a0_1, .string a0_2, .string a0_3, .string a0_4] 23 (0, 0)) (by (with_reducible repeat (first | refine blk_drewN ?_ _ | refine blk_drew ?_ | refine blk_alloc ?_ _)); exact BK146.out)) : gb152 ≠ gb146))
                    have n8_ := Aside0.mk ((by rw [hg]; exact Nat.ne_of_lt (blk_lt (g := gb147) (o := .cells #[.string (⟨#[]⟩ : ByteArray), .string (⟨#[]⟩ : ByteArray), .string (⟨#[]⟩ : ByteArray), .string (⟨#[]⟩ : ByteArray), .string (⟨#[]⟩ : ByteArray)] 23 (0, 0)) (by (with_reducible repeat (first | refine blk_drewN ?_ _ | refine blk_drew ?_ | refine blk_alloc ?_ _)); exact BK147.out)) : gb147 ≠ gb152))
                    have n9_ := Aside0.mk ((by rw [hg]; exact Nat.ne_of_gt (blk_lt (g := gb147) (o := .cells #[.string (⟨#[]⟩ : ByteArray), .string (⟨#[]⟩ : ByteArray), .string (⟨#[]⟩ : ByteArray), .string (⟨#[]⟩ : ByteArray), .string (⟨#[]⟩ : ByteArray)] 23 (0, 0)) (by (with_reducible repeat (first | refine blk_drewN ?_ _ | refine blk_drew ?_ | refine blk_alloc ?_ _)); exact BK147.out)) : gb152 ≠ gb147))
                    clear BK146
                    clear BK147
                    clear HB
                    have BK146 := n0_
                    have BK147 := n1_
                    have HB := n2_
                    have BK152 := n3_
                    have GW152 := n4_
                    have GE152 := n5_
                    have NB146_152 := n6_
                    have NB152_146 := n7_
                    have NB147_152 := n8_
                    have NB152_147 := n9_
                    clear n0_ n1_ n2_ n3_ n4_ n5_ n6_ n7_ n8_ n9_
                    clear hb hbox hg
                    refine hK.out _ _ ⟨(blk_cell BK146.out 0).trans rfl, (blk_cell BK146.out 1).trans rfl, (blk_cell BK146.out 2).trans rfl, (blk_cell BK146.out 3).trans rfl, (blk_cell BK146.out 4).trans rfl⟩ (fun hHeld => ?_)
                    clear hK K
                    refine norm_ (a' := ?_) ?_ ?_
                    rotate_left
                    · show Act.put _ (some 3) _ = _
                      simp only [Act.put, List.setIfInBounds_toArray, List.set_cons_zero, List.set_cons_succ, i64_w, i32_w]
                      rfl
                    exact norm_ (by first | (simp only [putAll, Act.put, List.setIfInBounds_toArray, List.set_cons_zero, List.set_cons_succ]; done) | (simp only [putAll, Act.put, List.setIfInBounds_toArray, List.set_cons_zero, List.set_cons_succ]; rfl)) (hJ2_13 (gb152) _ ⟨hHeld, (by (with_reducible repeat (first | refine blk_drewN ?_ _ | refine blk_drew ?_ | refine blk_alloc ?_ _)); exact BK146.out), (by (with_reducible repeat (first | refine blk_drewN ?_ _ | refine blk_drew ?_ | refine blk_alloc ?_ _)); exact BK147.out), (by (with_reducible repeat (first | refine blk_drewN ?_ _ | refine blk_drew ?_ | refine blk_alloc ?_ _)); exact BK152.out), GW152.out, GE152.out, NB146_152.out, NB152_146.out, NB147_152.out, NB152_147.out, (by repeat (first | (with_reducible first | exact HB.out | apply below_alloc | apply pw_below_drewN | apply below_drew1 | refine below_set ?_ GE146.out | refine below_set ?_ GE147.out | refine below_set ?_ GE152.out) | exact HB.out))⟩)
              · skip
                rintro gb152 w12 ⟨hS_, h0_, h1_, h2_, h3_, h4_, h5_, h6_, h7_, h8_, h9_⟩
                have n0_ : Aside0 (w12.heap[gb146]? = some (.cells #[.string a0_0, .string a0_1, .string a0_2, .string a0_3, .string a0_4] 23 (0, 0))) := ⟨h0_⟩
                have n1_ : Aside0 (w12.heap[gb147]? = some (.cells #[.string (⟨#[]⟩ : ByteArray), .string (⟨#[]⟩ : ByteArray), .string (⟨#[]⟩ : ByteArray), .string (⟨#[]⟩ : ByteArray), .string (⟨#[]⟩ : ByteArray)] 23 (0, 0))) := ⟨h1_⟩
                have n2_ : Aside0 (w12.heap[gb152]? = some (.cells #[.string (⟨#[]⟩ : ByteArray), .string (⟨#[]⟩ : ByteArray), .string (⟨#[]⟩ : ByteArray), .string (⟨#[]⟩ : ByteArray), .string (⟨#[]⟩ : ByteArray)] 23 (0, 0))) := ⟨h2_⟩
                have n3_ : Aside0 (w.heap.size ≤ gb152) := ⟨h3_⟩
                have n4_ : Aside0 (w.heap.size ≤ gb152) := ⟨h4_⟩
                have n5_ : Aside0 (gb146 ≠ gb152) := ⟨h5_⟩
                have n6_ : Aside0 (gb152 ≠ gb146) := ⟨h6_⟩
                have n7_ : Aside0 (gb147 ≠ gb152) := ⟨h7_⟩
                have n8_ : Aside0 (gb152 ≠ gb147) := ⟨h8_⟩
                have n9_ : Aside0 (Below w.heap.size w w12) := ⟨h9_⟩
                clear BK146
                clear BK147
                clear HB
                clear h0_ h1_ h2_ h3_ h4_ h5_ h6_ h7_ h8_ h9_
                have BK146 := n0_
                have BK147 := n1_
                have BK152 := n2_
                have GW152 := n3_
                have GE152 := n4_
                have NB146_152 := n5_
                have NB152_146 := n6_
                have NB147_152 := n7_
                have NB152_147 := n8_
                have HB := n9_
                clear n0_ n1_ n2_ n3_ n4_ n5_ n6_ n7_ n8_ n9_
                have hHeld : w12.cell? ⟨gb146, 0, none⟩ = some (.string a0_0) ∧ w12.cell? ⟨gb146, 1, none⟩ = some (.string a0_1) ∧ w12.cell? ⟨gb146, 2, none⟩ = some (.string a0_2) ∧ w12.cell? ⟨gb146, 3, none⟩ = some (.string a0_3) ∧ w12.cell? ⟨gb146, 4, none⟩ = some (.string a0_4) := hS_
                refine norm_ (a' := ?_) ?_ ?_
                rotate_left
                · simp only [putAll, Act.put, List.setIfInBounds_toArray, List.set_cons_zero, List.set_cons_succ]
                  rfl
                refine one_ (i := 5) (N := some 9) #[true, true, true, true, true, true, true, true, false, true, true, false, false, true, false] rfl rfl (one_of HT_.out (by kernel_rfl)) (by decide) (fun K hK => ?_)
                refine goes_ Tryd.func7 (by kernel_rfl) rfl #[.string a0_1] (by rfl) rfl rfl (by (try simp only [List.map_toArray, List.map_cons, List.map_nil]); first | done | rfl | (simp only [List.length_drop, List.length_take]; rfl)) ?_
                with_reducible refine (laws_kyPlain.calls k a0_1 t149 _ A3.out).mono ?_
                rintro e w13 ⟨rfl, hb⟩
                refine ⟨_, rfl, ?_⟩
                have n0_ := Aside0.mk (blk_below (g := gb146) (o := .cells #[.string a0_0, .string a0_1, .string a0_2, .string a0_3, .string a0_4] 23 (0, 0)) (by (with_reducible repeat (first | refine blk_drewN ?_ _ | refine blk_drew ?_ | refine blk_alloc ?_ _)); exact BK146.out) hb)
                have n1_ := Aside0.mk (blk_below (g := gb147) (o := .cells #[.string (⟨#[]⟩ : ByteArray), .string (⟨#[]⟩ : ByteArray), .string (⟨#[]⟩ : ByteArray), .string (⟨#[]⟩ : ByteArray), .string (⟨#[]⟩ : ByteArray)] 23 (0, 0)) (by (with_reducible repeat (first | refine blk_drewN ?_ _ | refine blk_drew ?_ | refine blk_alloc ?_ _)); exact BK147.out) hb)
                have n2_ := Aside0.mk (blk_below (g := gb152) (o := .cells #[.string (⟨#[]⟩ : ByteArray), .string (⟨#[]⟩ : ByteArray), .string (⟨#[]⟩ : ByteArray), .string (⟨#[]⟩ : ByteArray), .string (⟨#[]⟩ : ByteArray)] 23 (0, 0)) (by (with_reducible repeat (first | refine blk_drewN ?_ _ | refine blk_drew ?_ | refine blk_alloc ?_ _)); exact BK152.out) hb)
                have n3_ := Aside0.mk (below_step (by repeat (first | (with_reducible first | exact HB.out | apply below_alloc | apply pw_below_drewN | apply below_drew1 | refine below_set ?_ GE146.out | refine below_set ?_ GE147.out | refine below_set ?_ GE152.out) | exact HB.out)) hb)
                clear BK146
                clear BK147
                clear BK152
                clear HB
                have BK146 := n0_
                have BK147 := n1_
                have BK152 := n2_
                have HB := n3_
                clear n0_ n1_ n2_ n3_
                (try clear hb)
                (try clear hb2)
                (try clear hk)
                (try clear hi)
                refine hK.out _ _ ⟨(blk_cell BK146.out 0).trans rfl, (blk_cell BK146.out 1).trans rfl, (blk_cell BK146.out 2).trans rfl, (blk_cell BK146.out 3).trans rfl, (blk_cell BK146.out 4).trans rfl⟩ (fun hHeld => ?_)
                clear hK K
                refine norm_ (a' := ?_) ?_ ?_
                rotate_left
                · show Act.put _ (some 9) _ = _
                  simp only [Act.put, List.setIfInBounds_toArray, List.set_cons_zero, List.set_cons_succ, i64_w, i32_w]
                  rfl
                exact norm_ (by first | (simp only [putAll, Act.put, List.setIfInBounds_toArray, List.set_cons_zero, List.set_cons_succ]; done) | (simp only [putAll, Act.put, List.setIfInBounds_toArray, List.set_cons_zero, List.set_cons_succ]; rfl)) (hJ2_5_13 (gb152) _ ⟨hHeld, (by (with_reducible repeat (first | refine blk_drewN ?_ _ | refine blk_drew ?_ | refine blk_alloc ?_ _)); exact BK146.out), (by (with_reducible repeat (first | refine blk_drewN ?_ _ | refine blk_drew ?_ | refine blk_alloc ?_ _)); exact BK147.out), (by (with_reducible repeat (first | refine blk_drewN ?_ _ | refine blk_drew ?_ | refine blk_alloc ?_ _)); exact BK152.out), GW152.out, GE152.out, NB146_152.out, NB152_146.out, NB147_152.out, NB152_147.out, (by repeat (first | (with_reducible first | exact HB.out | apply below_alloc | apply pw_below_drewN | apply below_drew1 | refine below_set ?_ GE146.out | refine below_set ?_ GE147.out | refine below_set ?_ GE152.out) | exact HB.out))⟩)
            · skip
              rintro _ w12 ⟨hS_, h0_, h1_, h2_⟩
              have n0_ : Aside0 (w12.heap[gb146]? = some (.cells #[.string a0_0, .string a0_1, .string a0_2, .string a0_3, .string a0_4] 23 (0, 0))) := ⟨h0_⟩
              have n1_ : Aside0 (w12.heap[gb147]? = some (.cells #[.string (⟨#[]⟩ : ByteArray), .string (⟨#[]⟩ : ByteArray), .string (⟨#[]⟩ : ByteArray), .string (⟨#[]⟩ : ByteArray), .string (⟨#[]⟩ : ByteArray)] 23 (0, 0))) := ⟨h1_⟩
              have n2_ : Aside0 (Below w.heap.size w w12) := ⟨h2_⟩
              clear BK146
              clear BK147
              clear HB
              clear h0_ h1_ h2_
              have BK146 := n0_
              have BK147 := n1_
              have HB := n2_
              clear n0_ n1_ n2_
              have hHeld : w12.cell? ⟨gb146, 0, none⟩ = some (.string a0_0) ∧ w12.cell? ⟨gb146, 1, none⟩ = some (.string a0_1) ∧ w12.cell? ⟨gb146, 2, none⟩ = some (.string a0_2) ∧ w12.cell? ⟨gb146, 3, none⟩ = some (.string a0_3) ∧ w12.cell? ⟨gb146, 4, none⟩ = some (.string a0_4) := hS_
              refine norm_ (a' := ?_) ?_ ?_
              rotate_left
              · simp only [putAll, Act.put, List.setIfInBounds_toArray, List.set_cons_zero, List.set_cons_succ]
                rfl
              refine two_ (i := 8) (j := 13) (Ni := some 12) (Nj := some 3) #[true, true, true, true, true, true, true, true, true, true, true, false, false, false, false] #[true, true, true, true, true, true, true, true, false, true, true, false, false, true, false] rfl rfl rfl rfl (two_of HT_.out (by kernel_rfl)) (by decide) (by decide) (fun K hK => ?_) (fun K hK => ?_)
              · skip
                refine goes_ Tryd.func7 (by kernel_rfl) rfl #[.string a0_3] (by rfl) rfl rfl (by (try simp only [List.map_toArray, List.map_cons, List.map_nil]); first | done | rfl | (simp only [List.length_drop, List.length_take]; rfl)) ?_
                with_reducible refine (laws_kyPlain.calls k a0_3 t150 _ A4.out).mono ?_
                rintro e w13 ⟨rfl, hb⟩
                refine ⟨_, rfl, ?_⟩
                have n0_ := Aside0.mk (blk_below (g := gb146) (o := .cells #[.string a0_0, .string a0_1, .string a0_2, .string a0_3, .string a0_4] 23 (0, 0)) (by (with_reducible repeat (first | refine blk_drewN ?_ _ | refine blk_drew ?_ | refine blk_alloc ?_ _)); exact BK146.out) hb)
                have n1_ := Aside0.mk (blk_below (g := gb147) (o := .cells #[.string (⟨#[]⟩ : ByteArray), .string (⟨#[]⟩ : ByteArray), .string (⟨#[]⟩ : ByteArray), .string (⟨#[]⟩ : ByteArray), .string (⟨#[]⟩ : ByteArray)] 23 (0, 0)) (by (with_reducible repeat (first | refine blk_drewN ?_ _ | refine blk_drew ?_ | refine blk_alloc ?_ _)); exact BK147.out) hb)
                have n2_ := Aside0.mk (below_step (by repeat (first | (with_reducible first | exact HB.out | apply below_alloc | apply pw_below_drewN | apply below_drew1 | refine below_set ?_ GE146.out | refine below_set ?_ GE147.out) | exact HB.out)) hb)
                clear BK146
                clear BK147
                clear HB
                have BK146 := n0_
                have BK147 := n1_
                have HB := n2_
                clear n0_ n1_ n2_
                (try clear hb)
                (try clear hb2)
                (try clear hk)
                (try clear hi)
                refine hK.out _ _ ⟨(blk_cell BK146.out 0).trans rfl, (blk_cell BK146.out 1).trans rfl, (blk_cell BK146.out 2).trans rfl, (blk_cell BK146.out 3).trans rfl, (blk_cell BK146.out 4).trans rfl⟩ (fun hHeld => ?_)
                clear hK K
                refine norm_ (a' := ?_) ?_ ?_
                rotate_left
                · show Act.put _ (some 12) _ = _
                  simp only [Act.put, List.setIfInBounds_toArray, List.set_cons_zero, List.set_cons_succ, i64_w, i32_w]
                  rfl
                exact norm_ (by first | (simp only [putAll, Act.put, List.setIfInBounds_toArray, List.set_cons_zero, List.set_cons_succ]; done) | (simp only [putAll, Act.put, List.setIfInBounds_toArray, List.set_cons_zero, List.set_cons_succ]; rfl)) (hJ2_5_8 () _ ⟨hHeld, (by (with_reducible repeat (first | refine blk_drewN ?_ _ | refine blk_drew ?_ | refine blk_alloc ?_ _)); exact BK146.out), (by (with_reducible repeat (first | refine blk_drewN ?_ _ | refine blk_drew ?_ | refine blk_alloc ?_ _)); exact BK147.out), (by repeat (first | (with_reducible first | exact HB.out | apply below_alloc | apply pw_below_drewN | apply below_drew1 | refine below_set ?_ GE146.out | refine below_set ?_ GE147.out) | exact HB.out))⟩)
              · skip
                refine box_step ?hg (N := 3) ?hd (cs := #[.string (⟨#[]⟩ : ByteArray), .string (⟨#[]⟩ : ByteArray), .string (⟨#[]⟩ : ByteArray), .string (⟨#[]⟩ : ByteArray), .string (⟨#[]⟩ : ByteArray)]) (t := 23) ?hr ?_; (case hd => rfl); (case hg => rfl); (case hr => first | (go_simp; done) | (go_simp; rfl))
                intro gb152 hg w13 hbox hb
                have n0_ := Aside0.mk (blk_below (g := gb146) (o := .cells #[.string a0_0, .string a0_1, .string a0_2, .string a0_3, .string a0_4] 23 (0, 0)) (by (with_reducible repeat (first | refine blk_drewN ?_ _ | refine blk_drew ?_ | refine blk_alloc ?_ _)); exact BK146.out) hb)
                have n1_ := Aside0.mk (blk_below (g := gb147) (o := .cells #[.string (⟨#[]⟩ : ByteArray), .string (⟨#[]⟩ : ByteArray), .string (⟨#[]⟩ : ByteArray), .string (⟨#[]⟩ : ByteArray), .string (⟨#[]⟩ : ByteArray)] 23 (0, 0)) (by (with_reducible repeat (first | refine blk_drewN ?_ _ | refine blk_drew ?_ | refine blk_alloc ?_ _)); exact BK147.out) hb)
                have n2_ := Aside0.mk (below_step (by repeat (first | (with_reducible first | exact HB.out | apply below_alloc | apply pw_below_drewN | apply below_drew1 | refine below_set ?_ GE146.out | refine below_set ?_ GE147.out) | exact HB.out)) hb)
                have n3_ := Aside0.mk (hbox)
                have n4_ := Aside0.mk ((by rw [hg]; exact (below_size (by repeat (first | (with_reducible first | exact HB.out | apply below_alloc | apply pw_below_drewN | apply below_drew1 | refine below_set ?_ GE146.out | refine below_set ?_ GE147.out) | exact HB.out))) : w.heap.size ≤ gb152))
                have n5_ := Aside0.mk ((by rw [hg]; exact (below_size (by repeat (first | (with_reducible first | exact HB.out | apply below_alloc | apply pw_below_drewN | apply below_drew1 | refine below_set ?_ GE146.out | refine below_set ?_ GE147.out) | exact HB.out))) : w.heap.size ≤ gb152))
                have n6_ := Aside0.mk ((by rw [hg]; exact Nat.ne_of_lt (blk_lt (g := gb146) (o := .cells #[.string a0_0, .string a0_1, .string a0_2, .string a0_3, .string a0_4] 23 (0, 0)) (by (with_reducible repeat (first | refine blk_drewN ?_ _ | refine blk_drew ?_ | refine blk_alloc ?_ _)); exact BK146.out)) : gb146 ≠ gb152))
                have n7_ := Aside0.mk ((by rw [hg]; exact Nat.ne_of_gt (blk_lt (g := gb146) (o := .cells #[.string a0_0, .string a0_1, .string a0_2, .string a0_3, .string a0_4] 23 (0, 0)) (by (with_reducible repeat (first | refine blk_drewN ?_ _ | refine blk_drew ?_ | refine blk_alloc ?_ _)); exact BK146.out)) : gb152 ≠ gb146))
                have n8_ := Aside0.mk ((by rw [hg]; exact Nat.ne_of_lt (blk_lt (g := gb147) (o := .cells #[.string (⟨#[]⟩ : ByteArray), .string (⟨#[]⟩ : ByteArray), .string (⟨#[]⟩ : ByteArray), .string (⟨#[]⟩ : ByteArray), .string (⟨#[]⟩ : ByteArray)] 23 (0, 0)) (by (with_reducible repeat (first | refine blk_drewN ?_ _ | refine blk_drew ?_ | refine blk_alloc ?_ _)); exact BK147.out)) : gb147 ≠ gb152))
                have n9_ := Aside0.mk ((by rw [hg]; exact Nat.ne_of_gt (blk_lt (g := gb147) (o := .cells #[.string (⟨#[]⟩ : ByteArray), .string (⟨#[]⟩ : ByteArray), .string (⟨#[]⟩ : ByteArray), .string (⟨#[]⟩ : ByteArray), .string (⟨#[]⟩ : ByteArray)] 23 (0, 0)) (by (with_reducible repeat (first | refine blk_drewN ?_ _ | refine blk_drew ?_ | refine blk_alloc ?_ _)); exact BK147.out)) : gb152 ≠ gb147))
                clear BK146
                clear BK147
                clear HB
                have BK146 := n0_
                have BK147 := n1_
                have HB := n2_
                have BK152 := n3_
                have GW152 := n4_
                have GE152 := n5_
                have NB146_152 := n6_
                have NB152_146 := n7_
                have NB147_152 := n8_
                have NB152_147 := n9_
                clear n0_ n1_ n2_ n3_ n4_ n5_ n6_ n7_ n8_ n9_
                clear hb hbox hg
                refine hK.out _ _ ⟨(blk_cell BK146.out 0).trans rfl, (blk_cell BK146.out 1).trans rfl, (blk_cell BK146.out 2).trans rfl, (blk_cell BK146.out 3).trans rfl, (blk_cell BK146.out 4).trans rfl⟩ (fun hHeld => ?_)
                clear hK K
                refine norm_ (a' := ?_) ?_ ?_
                rotate_left
                · show Act.put _ (some 3) _ = _
                  simp only [Act.put, List.setIfInBounds_toArray, List.set_cons_zero, List.set_cons_succ, i64_w, i32_w]
                  rfl
                exact norm_ (by first | (simp only [putAll, Act.put, List.setIfInBounds_toArray, List.set_cons_zero, List.set_cons_succ]; done) | (simp only [putAll, Act.put, List.setIfInBounds_toArray, List.set_cons_zero, List.set_cons_succ]; rfl)) (hJ2_5_13 (gb152) _ ⟨hHeld, (by (with_reducible repeat (first | refine blk_drewN ?_ _ | refine blk_drew ?_ | refine blk_alloc ?_ _)); exact BK146.out), (by (with_reducible repeat (first | refine blk_drewN ?_ _ | refine blk_drew ?_ | refine blk_alloc ?_ _)); exact BK147.out), (by (with_reducible repeat (first | refine blk_drewN ?_ _ | refine blk_drew ?_ | refine blk_alloc ?_ _)); exact BK152.out), GW152.out, GE152.out, NB146_152.out, NB152_146.out, NB147_152.out, NB152_147.out, (by repeat (first | (with_reducible first | exact HB.out | apply below_alloc | apply pw_below_drewN | apply below_drew1 | refine below_set ?_ GE146.out | refine below_set ?_ GE147.out | refine below_set ?_ GE152.out) | exact HB.out))⟩)
          · skip
            rintro gb152 w13 ⟨hS_, h0_, h1_, h2_, h3_, h4_, h5_, h6_, h7_, h8_, h9_⟩
            have n0_ : Aside0 (w13.heap[gb146]? = some (.cells #[.string a0_0, .string a0_1, .string a0_2, .string a0_3, .string a0_4] 23 (0, 0))) := ⟨h0_⟩
            have n1_ : Aside0 (w13.heap[gb147]? = some (.cells #[.string (⟨#[]⟩ : ByteArray), .string (⟨#[]⟩ : ByteArray), .string (⟨#[]⟩ : ByteArray), .string (⟨#[]⟩ : ByteArray), .string (⟨#[]⟩ : ByteArray)] 23 (0, 0))) := ⟨h1_⟩
            have n2_ : Aside0 (w13.heap[gb152]? = some (.cells #[.string (⟨#[]⟩ : ByteArray), .string (⟨#[]⟩ : ByteArray), .string (⟨#[]⟩ : ByteArray), .string (⟨#[]⟩ : ByteArray), .string (⟨#[]⟩ : ByteArray)] 23 (0, 0))) := ⟨h2_⟩
            have n3_ : Aside0 (w.heap.size ≤ gb152) := ⟨h3_⟩
            have n4_ : Aside0 (w.heap.size ≤ gb152) := ⟨h4_⟩
            have n5_ : Aside0 (gb146 ≠ gb152) := ⟨h5_⟩
            have n6_ : Aside0 (gb152 ≠ gb146) := ⟨h6_⟩
            have n7_ : Aside0 (gb147 ≠ gb152) := ⟨h7_⟩
            have n8_ : Aside0 (gb152 ≠ gb147) := ⟨h8_⟩
            have n9_ : Aside0 (Below w.heap.size w w13) := ⟨h9_⟩
            clear BK146
            clear BK147
            clear HB
            clear h0_ h1_ h2_ h3_ h4_ h5_ h6_ h7_ h8_ h9_
            have BK146 := n0_
            have BK147 := n1_
            have BK152 := n2_
            have GW152 := n3_
            have GE152 := n4_
            have NB146_152 := n5_
            have NB152_146 := n6_
            have NB147_152 := n7_
            have NB152_147 := n8_
            have HB := n9_
            clear n0_ n1_ n2_ n3_ n4_ n5_ n6_ n7_ n8_ n9_
            have hHeld : w13.cell? ⟨gb146, 0, none⟩ = some (.string a0_0) ∧ w13.cell? ⟨gb146, 1, none⟩ = some (.string a0_1) ∧ w13.cell? ⟨gb146, 2, none⟩ = some (.string a0_2) ∧ w13.cell? ⟨gb146, 3, none⟩ = some (.string a0_3) ∧ w13.cell? ⟨gb146, 4, none⟩ = some (.string a0_4) := hS_
            refine norm_ (a' := ?_) ?_ ?_
            rotate_left
            · simp only [putAll, Act.put, List.setIfInBounds_toArray, List.set_cons_zero, List.set_cons_succ]
              rfl
            refine one_ (i := 8) (N := some 12) #[true, true, true, true, true, true, true, true, true, true, true, false, false, true, false] rfl rfl (one_of HT_.out (by kernel_rfl)) (by decide) (fun K hK => ?_)
            refine goes_ Tryd.func7 (by kernel_rfl) rfl #[.string a0_3] (by rfl) rfl rfl (by (try simp only [List.map_toArray, List.map_cons, List.map_nil]); first | done | rfl | (simp only [List.length_drop, List.length_take]; rfl)) ?_
            with_reducible refine (laws_kyPlain.calls k a0_3 t150 _ A4.out).mono ?_
            rintro e w14 ⟨rfl, hb⟩
            refine ⟨_, rfl, ?_⟩
            have n0_ := Aside0.mk (blk_below (g := gb146) (o := .cells #[.string a0_0, .string a0_1, .string a0_2, .string a0_3, .string a0_4] 23 (0, 0)) (by (with_reducible repeat (first | refine blk_drewN ?_ _ | refine blk_drew ?_ | refine blk_alloc ?_ _)); exact BK146.out) hb)
            have n1_ := Aside0.mk (blk_below (g := gb147) (o := .cells #[.string (⟨#[]⟩ : ByteArray), .string (⟨#[]⟩ : ByteArray), .string (⟨#[]⟩ : ByteArray), .string (⟨#[]⟩ : ByteArray), .string (⟨#[]⟩ : ByteArray)] 23 (0, 0)) (by (with_reducible repeat (first | refine blk_drewN ?_ _ | refine blk_drew ?_ | refine blk_alloc ?_ _)); exact BK147.out) hb)
            have n2_ := Aside0.mk (blk_below (g := gb152) (o := .cells #[.string (⟨#[]⟩ : ByteArray), .string (⟨#[]⟩ : ByteArray), .string (⟨#[]⟩ : ByteArray), .string (⟨#[]⟩ : ByteArray), .string (⟨#[]⟩ : ByteArray)] 23 (0, 0)) (by (with_reducible repeat (first | refine blk_drewN ?_ _ | refine blk_drew ?_ | refine blk_alloc ?_ _)); exact BK152.out) hb)
            have n3_ := Aside0.mk (below_step (by repeat (first | (with_reducible first | exact HB.out | apply below_alloc | apply pw_below_drewN | apply below_drew1 | refine below_set ?_ GE146.out | refine below_set ?_ GE147.out | refine below_set ?_ GE152.out) | exact HB.out)) hb)
            clear BK146
            clear BK147
            clear BK152
            clear HB
            have BK146 := n0_
            have BK147 := n1_
            have BK152 := n2_
            have HB := n3_
            clear n0_ n1_ n2_ n3_
            (try clear hb)
            (try clear hb2)
            (try clear hk)
            (try clear hi)
            refine hK.out _ _ ⟨(blk_cell BK146.out 0).trans rfl, (blk_cell BK146.out 1).trans rfl, (blk_cell BK146.out 2).trans rfl, (blk_cell BK146.out 3).trans rfl, (blk_cell BK146.out 4).trans rfl⟩ (fun hHeld => ?_)
            clear hK K
            refine norm_ (a' := ?_) ?_ ?_
            rotate_left
            · show Act.put _ (some 12) _ = _
              simp only [Act.put, List.setIfInBounds_toArray, List.set_cons_zero, List.set_cons_succ, i64_w, i32_w]
              rfl
            exact norm_ (by first | (simp only [putAll, Act.put, List.setIfInBounds_toArray, List.set_cons_zero, List.set_cons_succ]; done) | (simp only [putAll, Act.put, List.setIfInBounds_toArray, List.set_cons_zero, List.set_cons_succ]; rfl)) (hJ2_5_8_13 (gb152) _ ⟨hHeld, (by (with_reducible repeat (first | refine blk_drewN ?_ _ | refine blk_drew ?_ | refine blk_alloc ?_ _)); exact BK146.out), (by (with_reducible repeat (first | refine blk_drewN ?_ _ | refine blk_drew ?_ | refine blk_alloc ?_ _)); exact BK147.out), (by (with_reducible repeat (first | refine blk_drewN ?_ _ | refine blk_drew ?_ | refine blk_alloc ?_ _)); exact BK152.out), GW152.out, GE152.out, NB146_152.out, NB152_146.out, NB147_152.out, NB152_147.out, (by repeat (first | (with_reducible first | exact HB.out | apply below_alloc | apply pw_below_drewN | apply below_drew1 | refine below_set ?_ GE146.out | refine below_set ?_ GE147.out | refine below_set ?_ GE152.out) | exact HB.out))⟩)
        · skip
          rintro _ w13 ⟨hS_, h0_, h1_, h2_⟩
          have n0_ : Aside0 (w13.heap[gb146]? = some (.cells #[.string a0_0, .string a0_1, .string a0_2, .string a0_3, .string a0_4] 23 (0, 0))) := ⟨h0_⟩
          have n1_ : Aside0 (w13.heap[gb147]? = some (.cells #[.string (⟨#[]⟩ : ByteArray), .string (⟨#[]⟩ : ByteArray), .string (⟨#[]⟩ : ByteArray), .string (⟨#[]⟩ : ByteArray), .string (⟨#[]⟩ : ByteArray)] 23 (0, 0))) := ⟨h1_⟩
          have n2_ : Aside0 (Below w.heap.size w w13) := ⟨h2_⟩
          clear BK146
          clear BK147
          clear HB
          clear h0_ h1_ h2_
          have BK146 := n0_
          have BK147 := n1_
          have HB := n2_
          clear n0_ n1_ n2_
          have hHeld : w13.cell? ⟨gb146, 0, none⟩ = some (.string a0_0) ∧ w13.cell? ⟨gb146, 1, none⟩ = some (.string a0_1) ∧ w13.cell? ⟨gb146, 2, none⟩ = some (.string a0_2) ∧ w13.cell? ⟨gb146, 3, none⟩ = some (.string a0_3) ∧ w13.cell? ⟨gb146, 4, none⟩ = some (.string a0_4) := hS_
          refine norm_ (a' := ?_) ?_ ?_
          rotate_left
          · simp only [putAll, Act.put, List.setIfInBounds_toArray, List.set_cons_zero, List.set_cons_succ]
            rfl
          refine two_ (i := 11) (j := 13) (Ni := some 15) (Nj := some 3) #[true, true, true, true, true, true, true, true, true, true, true, true, false, false, false] #[true, true, true, true, true, true, true, true, true, true, true, false, false, true, false] rfl rfl rfl rfl (two_of HT_.out (by kernel_rfl)) (by decide) (by decide) (fun K hK => ?_) (fun K hK => ?_)
          · skip
            refine goes_ Tryd.func7 (by kernel_rfl) rfl #[.string a0_4] (by rfl) rfl rfl (by (try simp only [List.map_toArray, List.map_cons, List.map_nil]); first | done | rfl | (simp only [List.length_drop, List.length_take]; rfl)) ?_
            with_reducible refine (laws_kyPlain.calls k a0_4 t151 _ A5.out).mono ?_
            rintro e w14 ⟨rfl, hb⟩
            refine ⟨_, rfl, ?_⟩
            have n0_ := Aside0.mk (blk_below (g := gb146) (o := .cells #[.string a0_0, .string a0_1, .string a0_2, .string a0_3, .string a0_4] 23 (0, 0)) (by (with_reducible repeat (first | refine blk_drewN ?_ _ | refine blk_drew ?_ | refine blk_alloc ?_ _)); exact BK146.out) hb)
            have n1_ := Aside0.mk (blk_below (g := gb147) (o := .cells #[.string (⟨#[]⟩ : ByteArray), .string (⟨#[]⟩ : ByteArray), .string (⟨#[]⟩ : ByteArray), .string (⟨#[]⟩ : ByteArray), .string (⟨#[]⟩ : ByteArray)] 23 (0, 0)) (by (with_reducible repeat (first | refine blk_drewN ?_ _ | refine blk_drew ?_ | refine blk_alloc ?_ _)); exact BK147.out) hb)
            have n2_ := Aside0.mk (below_step (by repeat (first | (with_reducible first | exact HB.out | apply below_alloc | apply pw_below_drewN | apply below_drew1 | refine below_set ?_ GE146.out | refine below_set ?_ GE147.out) | exact HB.out)) hb)
            clear BK146
            clear BK147
            clear HB
            have BK146 := n0_
            have BK147 := n1_
            have HB := n2_
            clear n0_ n1_ n2_
            (try clear hb)
            (try clear hb2)
            (try clear hk)
            (try clear hi)
            refine hK.out _ _ ⟨(blk_cell BK146.out 0).trans rfl, (blk_cell BK146.out 1).trans rfl, (blk_cell BK146.out 2).trans rfl, (blk_cell BK146.out 3).trans rfl, (blk_cell BK146.out 4).trans rfl⟩ (fun hHeld => ?_)
            clear hK K
            refine norm_ (a' := ?_) ?_ ?_
            rotate_left
            · show Act.put _ (some 15) _ = _
              simp only [Act.put, List.setIfInBounds_toArray, List.set_cons_zero, List.set_cons_succ, i64_w, i32_w]
              rfl
            refine pure_ (i := 12) (N := some 16) (v := ?_) (a' := ?_) #[true, true, true, true, true, true, true, true, true, true, true, true, true, false, false] rfl rfl (any_of HT_.out (by kernel_rfl)) (fun _ _ _ h => h) (Or.inl ⟨by rfl, ?_⟩) ?_ ?_
            rotate_left
            · intro w'
              go_simp
              with_reducible rfl
            rotate_left
            · simp only [Act.put, List.setIfInBounds_toArray, List.set_cons_zero, List.set_cons_succ, i64_w, i32_w]
              rfl
            exact norm_ (by first | (simp only [putAll, Act.put, List.setIfInBounds_toArray, List.set_cons_zero, List.set_cons_succ]; done) | (simp only [putAll, Act.put, List.setIfInBounds_toArray, List.set_cons_zero, List.set_cons_succ]; rfl)) (hJ2_5_8_11 () _ ⟨hHeld, (by (with_reducible repeat (first | refine blk_drewN ?_ _ | refine blk_drew ?_ | refine blk_alloc ?_ _)); exact BK146.out), (by (with_reducible repeat (first | refine blk_drewN ?_ _ | refine blk_drew ?_ | refine blk_alloc ?_ _)); exact BK147.out), (by repeat (first | (with_reducible first | exact HB.out | apply below_alloc | apply pw_below_drewN | apply below_drew1 | refine below_set ?_ GE146.out | refine below_set ?_ GE147.out) | exact HB.out))⟩)
          · skip
            refine box_step ?hg (N := 3) ?hd (cs := #[.string (⟨#[]⟩ : ByteArray), .string (⟨#[]⟩ : ByteArray), .string (⟨#[]⟩ : ByteArray), .string (⟨#[]⟩ : ByteArray), .string (⟨#[]⟩ : ByteArray)]) (t := 23) ?hr ?_; (case hd => rfl); (case hg => rfl); (case hr => first | (go_simp; done) | (go_simp; rfl))
            intro gb152 hg w14 hbox hb
            have n0_ := Aside0.mk (blk_below (g := gb146) (o := .cells #[.string a0_0, .string a0_1, .string a0_2, .string a0_3, .string a0_4] 23 (0, 0)) (by (with_reducible repeat (first | refine blk_drewN ?_ _ | refine blk_drew ?_ | refine blk_alloc ?_ _)); exact BK146.out) hb)
            have n1_ := Aside0.mk (blk_below (g := gb147) (o := .cells #[.string (⟨#[]⟩ : ByteArray), .string (⟨#[]⟩ : ByteArray), .string (⟨#[]⟩ : ByteArray), .string (⟨#[]⟩ : ByteArray), .string (⟨#[]⟩ : ByteArray)] 23 (0, 0)) (by (with_reducible repeat (first | refine blk_drewN ?_ _ | refine blk_drew ?_ | refine blk_alloc ?_ _)); exact BK147.out) hb)
            have n2_ := Aside0.mk (below_step (by repeat (first | (with_reducible first | exact HB.out | apply below_alloc | apply pw_below_drewN | apply below_drew1 | refine below_set ?_ GE146.out | refine below_set ?_ GE147.out) | exact HB.out)) hb)
            have n3_ := Aside0.mk (hbox)
            have n4_ := Aside0.mk ((by rw [hg]; exact (below_size (by repeat (first | (with_reducible first | exact HB.out | apply below_alloc | apply pw_below_drewN | apply below_drew1 | refine below_set ?_ GE146.out | refine below_set ?_ GE147.out) | exact HB.out))) : w.heap.size ≤ gb152))
            have n5_ := Aside0.mk ((by rw [hg]; exact (below_size (by repeat (first | (with_reducible first | exact HB.out | apply below_alloc | apply pw_below_drewN | apply below_drew1 | refine below_set ?_ GE146.out | refine below_set ?_ GE147.out) | exact HB.out))) : w.heap.size ≤ gb152))
            have n6_ := Aside0.mk ((by rw [hg]; exact Nat.ne_of_lt (blk_lt (g := gb146) (o := .cells #[.string a0_0, .string a0_1, .string a0_2, .string a0_3, .string a0_4] 23 (0, 0)) (by (with_reducible repeat (first | refine blk_drewN ?_ _ | refine blk_drew ?_ | refine blk_alloc ?_ _)); exact BK146.out)) : gb146 ≠ gb152))
            have n7_ := Aside0.mk ((by rw [hg]; exact Nat.ne_of_gt (blk_lt (g := gb146) (o := .cells #[.string a0_0, .string a0_1, .string a0_2, .string a0_3, .string a0_4] 23 (0, 0)) (by (with_reducible repeat (first | refine blk_drewN ?_ _ | refine blk_drew ?_ | refine blk_alloc ?_ _)); exact BK146.out)) : gb152 ≠ gb146))
            have n8_ := Aside0.mk ((by rw [hg]; exact Nat.ne_of_lt (blk_lt (g := gb147) (o := .cells #[.string (⟨#[]⟩ : ByteArray), .string (⟨#[]⟩ : ByteArray), .string (⟨#[]⟩ : ByteArray), .string (⟨#[]⟩ : ByteArray), .string (⟨#[]⟩ : ByteArray)] 23 (0, 0)) (by (with_reducible repeat (first | refine blk_drewN ?_ _ | refine blk_drew ?_ | refine blk_alloc ?_ _)); exact BK147.out)) : gb147 ≠ gb152))
            have n9_ := Aside0.mk ((by rw [hg]; exact Nat.ne_of_gt (blk_lt (g := gb147) (o := .cells #[.string (⟨#[]⟩ : ByteArray), .string (⟨#[]⟩ : ByteArray), .string (⟨#[]⟩ : ByteArray), .string (⟨#[]⟩ : ByteArray), .string (⟨#[]⟩ : ByteArray)] 23 (0, 0)) (by (with_reducible repeat (first | refine blk_drewN ?_ _ | refine blk_drew ?_ | refine blk_alloc ?_ _)); exact BK147.out)) : gb152 ≠ gb147))
            clear BK146
            clear BK147
            clear HB
            have BK146 := n0_
            have BK147 := n1_
            have HB := n2_
            have BK152 := n3_
            have GW152 := n4_
            have GE152 := n5_
            have NB146_152 := n6_
            have NB152_146 := n7_
            have NB147_152 := n8_
            have NB152_147 := n9_
            clear n0_ n1_ n2_ n3_ n4_ n5_ n6_ n7_ n8_ n9_
            clear hb hbox hg
            refine hK.out _ _ ⟨(blk_cell BK146.out 0).trans rfl, (blk_cell BK146.out 1).trans rfl, (blk_cell BK146.out 2).trans rfl, (blk_cell BK146.out 3).trans rfl, (blk_cell BK146.out 4).trans rfl⟩ (fun hHeld => ?_)
            clear hK K
            refine norm_ (a' := ?_) ?_ ?_
            rotate_left
            · show Act.put _ (some 3) _ = _
              simp only [Act.put, List.setIfInBounds_toArray, List.set_cons_zero, List.set_cons_succ, i64_w, i32_w]
              rfl
            exact norm_ (by first | (simp only [putAll, Act.put, List.setIfInBounds_toArray, List.set_cons_zero, List.set_cons_succ]; done) | (simp only [putAll, Act.put, List.setIfInBounds_toArray, List.set_cons_zero, List.set_cons_succ]; rfl)) (hJ2_5_8_13 (gb152) _ ⟨hHeld, (by (with_reducible repeat (first | refine blk_drewN ?_ _ | refine blk_drew ?_ | refine blk_alloc ?_ _)); exact BK146.out), (by (with_reducible repeat (first | refine blk_drewN ?_ _ | refine blk_drew ?_ | refine blk_alloc ?_ _)); exact BK147.out), (by (with_reducible repeat (first | refine blk_drewN ?_ _ | refine blk_drew ?_ | refine blk_alloc ?_ _)); exact BK152.out), GW152.out, GE152.out, NB146_152.out, NB152_146.out, NB147_152.out, NB152_147.out, (by repeat (first | (with_reducible first | exact HB.out | apply below_alloc | apply pw_below_drewN | apply below_drew1 | refine below_set ?_ GE146.out | refine below_set ?_ GE147.out | refine below_set ?_ GE152.out) | exact HB.out))⟩)
      · skip
        rintro gb152 w14 ⟨hS_, h0_, h1_, h2_, h3_, h4_, h5_, h6_, h7_, h8_, h9_⟩
        have n0_ : Aside0 (w14.heap[gb146]? = some (.cells #[.string a0_0, .string a0_1, .string a0_2, .string a0_3, .string a0_4] 23 (0, 0))) := ⟨h0_⟩
        have n1_ : Aside0 (w14.heap[gb147]? = some (.cells #[.string (⟨#[]⟩ : ByteArray), .string (⟨#[]⟩ : ByteArray), .string (⟨#[]⟩ : ByteArray), .string (⟨#[]⟩ : ByteArray), .string (⟨#[]⟩ : ByteArray)] 23 (0, 0))) := ⟨h1_⟩
        have n2_ : Aside0 (w14.heap[gb152]? = some (.cells #[.string (⟨#[]⟩ : ByteArray), .string (⟨#[]⟩ : ByteArray), .string (⟨#[]⟩ : ByteArray), .string (⟨#[]⟩ : ByteArray), .string (⟨#[]⟩ : ByteArray)] 23 (0, 0))) := ⟨h2_⟩
        have n3_ : Aside0 (w.heap.size ≤ gb152) := ⟨h3_⟩
        have n4_ : Aside0 (w.heap.size ≤ gb152) := ⟨h4_⟩
        have n5_ : Aside0 (gb146 ≠ gb152) := ⟨h5_⟩
        have n6_ : Aside0 (gb152 ≠ gb146) := ⟨h6_⟩
        have n7_ : Aside0 (gb147 ≠ gb152) := ⟨h7_⟩
        have n8_ : Aside0 (gb152 ≠ gb147) := ⟨h8_⟩
        have n9_ : Aside0 (Below w.heap.size w w14) := ⟨h9_⟩
        clear BK146
        clear BK147
        clear HB
        clear h0_ h1_ h2_ h3_ h4_ h5_ h6_ h7_ h8_ h9_
        have BK146 := n0_
        have BK147 := n1_
        have BK152 := n2_
        have GW152 := n3_
        have GE152 := n4_
        have NB146_152 := n5_
        have NB152_146 := n6_
        have NB147_152 := n7_
        have NB152_147 := n8_
        have HB := n9_
        clear n0_ n1_ n2_ n3_ n4_ n5_ n6_ n7_ n8_ n9_
        have hHeld : w14.cell? ⟨gb146, 0, none⟩ = some (.string a0_0) ∧ w14.cell? ⟨gb146, 1, none⟩ = some (.string a0_1) ∧ w14.cell? ⟨gb146, 2, none⟩ = some (.string a0_2) ∧ w14.cell? ⟨gb146, 3, none⟩ = some (.string a0_3) ∧ w14.cell? ⟨gb146, 4, none⟩ = some (.string a0_4) := hS_
        refine norm_ (a' := ?_) ?_ ?_
        rotate_left
        · simp only [putAll, Act.put, List.setIfInBounds_toArray, List.set_cons_zero, List.set_cons_succ]
          rfl
        refine one_ (i := 11) (N := some 15) #[true, true, true, true, true, true, true, true, true, true, true, true, false, true, false] rfl rfl (one_of HT_.out (by kernel_rfl)) (by decide) (fun K hK => ?_)
        refine goes_ Tryd.func7 (by kernel_rfl) rfl #[.string a0_4] (by rfl) rfl rfl (by (try simp only [List.map_toArray, List.map_cons, List.map_nil]); first | done | rfl | (simp only [List.length_drop, List.length_take]; rfl)) ?_
        with_reducible refine (laws_kyPlain.calls k a0_4 t151 _ A5.out).mono ?_
        rintro e w15 ⟨rfl, hb⟩
        refine ⟨_, rfl, ?_⟩
        have n0_ := Aside0.mk (blk_below (g := gb146) (o := .cells #[.string a0_0, .string a0_1, .string a0_2, .string a0_3, .string a0_4] 23 (0, 0)) (by (with_reducible repeat (first | refine blk_drewN ?_ _ | refine blk_drew ?_ | refine blk_alloc ?_ _)); exact BK146.out) hb)
        have n1_ := Aside0.mk (blk_below (g := gb147) (o := .cells #[.string (⟨#[]⟩ : ByteArray), .string (⟨#[]⟩ : ByteArray), .string (⟨#[]⟩ : ByteArray), .string (⟨#[]⟩ : ByteArray), .string (⟨#[]⟩ : ByteArray)] 23 (0, 0)) (by (with_reducible repeat (first | refine blk_drewN ?_ _ | refine blk_drew ?_ | refine blk_alloc ?_ _)); exact BK147.out) hb)
        have n2_ := Aside0.mk (blk_below (g := gb152) (o := .cells #[.string (⟨#[]⟩ : ByteArray), .string (⟨#[]⟩ : ByteArray), .string (⟨#[]⟩ : ByteArray), .string (⟨#[]⟩ : ByteArray), .string (⟨#[]⟩ : ByteArray)] 23 (0, 0)) (by (with_reducible repeat (first | refine blk_drewN ?_ _ | refine blk_drew ?_ | refine blk_alloc ?_ _)); exact BK152.out) hb)
        have n3_ := Aside0.mk (below_step (by repeat (first | (with_reducible first | exact HB.out | apply below_alloc | apply pw_below_drewN | apply below_drew1 | refine below_set ?_ GE146.out | refine below_set ?_ GE147.out | refine below_set ?_ GE152.out) | exact HB.out)) hb)
        clear BK146
        clear BK147
        clear BK152
        clear HB
        have BK146 := n0_
        have BK147 := n1_
        have BK152 := n2_
        have HB := n3_
        clear n0_ n1_ n2_ n3_
        (try clear hb)
        (try clear hb2)
        (try clear hk)
        (try clear hi)
        refine hK.out _ _ ⟨(blk_cell BK146.out 0).trans rfl, (blk_cell BK146.out 1).trans rfl, (blk_cell BK146.out 2).trans rfl, (blk_cell BK146.out 3).trans rfl, (blk_cell BK146.out 4).trans rfl⟩ (fun hHeld => ?_)
        clear hK K
        refine norm_ (a' := ?_) ?_ ?_
        rotate_left
        · show Act.put _ (some 15) _ = _
          simp only [Act.put, List.setIfInBounds_toArray, List.set_cons_zero, List.set_cons_succ, i64_w, i32_w]
          rfl
        refine pure_ (i := 12) (N := some 16) (v := ?_) (a' := ?_) #[true, true, true, true, true, true, true, true, true, true, true, true, true, true, false] rfl rfl (any_of HT_.out (by kernel_rfl)) (fun _ _ _ h => h) (Or.inl ⟨by rfl, ?_⟩) ?_ ?_
        rotate_left
        · intro w'
          go_simp
          with_reducible rfl
        rotate_left
        · simp only [Act.put, List.setIfInBounds_toArray, List.set_cons_zero, List.set_cons_succ, i64_w, i32_w]
          rfl
        exact norm_ (by first | (simp only [putAll, Act.put, List.setIfInBounds_toArray, List.set_cons_zero, List.set_cons_succ]; done) | (simp only [putAll, Act.put, List.setIfInBounds_toArray, List.set_cons_zero, List.set_cons_succ]; rfl)) (hJ2_5_8_11_13 (gb152) _ ⟨hHeld, (by (with_reducible repeat (first | refine blk_drewN ?_ _ | refine blk_drew ?_ | refine blk_alloc ?_ _)); exact BK146.out), (by (with_reducible repeat (first | refine blk_drewN ?_ _ | refine blk_drew ?_ | refine blk_alloc ?_ _)); exact BK147.out), (by (with_reducible repeat (first | refine blk_drewN ?_ _ | refine blk_drew ?_ | refine blk_alloc ?_ _)); exact BK152.out), GW152.out, GE152.out, NB146_152.out, NB152_146.out, NB147_152.out, NB152_147.out, (by repeat (first | (with_reducible first | exact HB.out | apply below_alloc | apply pw_below_drewN | apply below_drew1 | refine below_set ?_ GE146.out | refine below_set ?_ GE147.out | refine below_set ?_ GE152.out) | exact HB.out))⟩)
    · skip
      rintro _ w14 ⟨hS_, h0_, h1_, h2_⟩
      have n0_ : Aside0 (w14.heap[gb146]? = some (.cells #[.string a0_0, .string a0_1, .string a0_2, .string a0_3, .string a0_4] 23 (0, 0))) := ⟨h0_⟩
      have n1_ : Aside0 (w14.heap[gb147]? = some (.cells #[.string (⟨#[]⟩ : ByteArray), .string (⟨#[]⟩ : ByteArray), .string (⟨#[]⟩ : ByteArray), .string (⟨#[]⟩ : ByteArray), .string (⟨#[]⟩ : ByteArray)] 23 (0, 0))) := ⟨h1_⟩
      have n2_ : Aside0 (Below w.heap.size w w14) := ⟨h2_⟩
      clear BK146
      clear BK147
      clear HB
      clear h0_ h1_ h2_
      have BK146 := n0_
      have BK147 := n1_
      have HB := n2_
      clear n0_ n1_ n2_
      have hHeld : w14.cell? ⟨gb146, 0, none⟩ = some (.string a0_0) ∧ w14.cell? ⟨gb146, 1, none⟩ = some (.string a0_1) ∧ w14.cell? ⟨gb146, 2, none⟩ = some (.string a0_2) ∧ w14.cell? ⟨gb146, 3, none⟩ = some (.string a0_3) ∧ w14.cell? ⟨gb146, 4, none⟩ = some (.string a0_4) := hS_
      refine norm_ (a' := ?_) ?_ ?_
      rotate_left
      · simp only [putAll, Act.put, List.setIfInBounds_toArray, List.set_cons_zero, List.set_cons_succ]
        rfl
      refine one_ (i := 13) (N := some 3) #[true, true, true, true, true, true, true, true, true, true, true, true, true, true, false] rfl rfl (one_of HT_.out (by kernel_rfl)) (by decide) (fun K hK => ?_)
      refine box_step ?hg (N := 3) ?hd (cs := #[.string (⟨#[]⟩ : ByteArray), .string (⟨#[]⟩ : ByteArray), .string (⟨#[]⟩ : ByteArray), .string (⟨#[]⟩ : ByteArray), .string (⟨#[]⟩ : ByteArray)]) (t := 23) ?hr ?_; (case hd => rfl); (case hg => rfl); (case hr => first | (go_simp; done) | (go_simp; rfl))
      intro gb152 hg w15 hbox hb
      have n0_ := Aside0.mk (blk_below (g := gb146) (o := .cells #[.string a0_0, .string a0_1, .string a0_2, .string a0_3, .string a0_4] 23 (0, 0)) (by (with_reducible repeat (first | refine blk_drewN ?_ _ | refine blk_drew ?_ | refine blk_alloc ?_ _)); exact BK146.out) hb)
      have n1_ := Aside0.mk (blk_below (g := gb147) (o := .cells #[.string (⟨#[]⟩ : ByteArray), .string (⟨#[]⟩ : ByteArray), .string (⟨#[]⟩ : ByteArray), .string (⟨#[]⟩ : ByteArray), .string (⟨#[]⟩ : ByteArray)] 23 (0, 0)) (by (with_reducible repeat (first | refine blk_drewN ?_ _ | refine blk_drew ?_ | refine blk_alloc ?_ _)); exact BK147.out) hb)
      have n2_ := Aside0.mk (below_step (by repeat (first | (with_reducible first | exact HB.out | apply below_alloc | apply pw_below_drewN | apply below_drew1 | refine below_set ?_ GE146.out | refine below_set ?_ GE147.out) | exact HB.out)) hb)
      have n3_ := Aside0.mk (hbox)
      have n4_ := Aside0.mk ((by rw [hg]; exact (below_size (by repeat (first | (with_reducible first | exact HB.out | apply below_alloc | apply pw_below_drewN | apply below_drew1 | refine below_set ?_ GE146.out | refine below_set ?_ GE147.out) | exact HB.out))) : w.heap.size ≤ gb152))
      have n5_ := Aside0.mk ((by rw [hg]; exact (below_size (by repeat (first | (with_reducible first | exact HB.out | apply below_alloc | apply pw_below_drewN | apply below_drew1 | refine below_set ?_ GE146.out | refine below_set ?_ GE147.out) | exact HB.out))) : w.heap.size ≤ gb152))
      have n6_ := Aside0.mk ((by rw [hg]; exact Nat.ne_of_lt (blk_lt (g := gb146) (o := .cells #[.string a0_0, .string a0_1, .string a0_2, .string a0_3, .string a0_4] 23 (0, 0)) (by (with_reducible repeat (first | refine blk_drewN ?_ _ | refine blk_drew ?_ | refine blk_alloc ?_ _)); exact BK146.out)) : gb146 ≠ gb152))
      have n7_ := Aside0.mk ((by rw [hg]; exact Nat.ne_of_gt (blk_lt (g := gb146) (o := .cells #[.string a0_0, .string a0_1, .string a0_2, .string a0_3, .string a0_4] 23 (0, 0)) (by (with_reducible repeat (first | refine blk_drewN ?_ _ | refine blk_drew ?_ | refine blk_alloc ?_ _)); exact BK146.out)) : gb152 ≠ gb146))
      have n8_ := Aside0.mk ((by rw [hg]; exact Nat.ne_of_lt (blk_lt (g := gb147) (o := .cells #[.string (⟨#[]⟩ : ByteArray), .string (⟨#[]⟩ : ByteArray), .string (⟨#[]⟩ : ByteArray), .string (⟨#[]⟩ : ByteArray), .string (⟨#[]⟩ : ByteArray)] 23 (0, 0)) (by (with_reducible repeat (first | refine blk_drewN ?_ _ | refine blk_drew ?_ | refine blk_alloc ?_ _)); exact BK147.out)) : gb147 ≠ gb152))
      have n9_ := Aside0.mk ((by rw [hg]; exact Nat.ne_of_gt (blk_lt (g := gb147) (o := .cells #[.string (⟨#[]⟩ : ByteArray), .string (⟨#[]⟩ : ByteArray), .string (⟨#[]⟩ : ByteArray), .string (⟨#[]⟩ : ByteArray), .string (⟨#[]⟩ : ByteArray)] 23 (0, 0)) (by (with_reducible repeat (first | refine blk_drewN ?_ _ | refine blk_drew ?_ | refine blk_alloc ?_ _)); exact BK147.out)) : gb152 ≠ gb147))
      clear BK146
      clear BK147
      clear HB
      have BK146 := n0_
      have BK147 := n1_
      have HB := n2_
      have BK152 := n3_
      have GW152 := n4_
      have GE152 := n5_
      have NB146_152 := n6_
      have NB152_146 := n7_
      have NB147_152 := n8_
      have NB152_147 := n9_
      clear n0_ n1_ n2_ n3_ n4_ n5_ n6_ n7_ n8_ n9_
      clear hb hbox hg
      refine hK.out _ _ ⟨(blk_cell BK146.out 0).trans rfl, (blk_cell BK146.out 1).trans rfl, (blk_cell BK146.out 2).trans rfl, (blk_cell BK146.out 3).trans rfl, (blk_cell BK146.out 4).trans rfl⟩ (fun hHeld => ?_)
      clear hK K
      refine norm_ (a' := ?_) ?_ ?_
      rotate_left
      · show Act.put _ (some 3) _ = _
        simp only [Act.put, List.setIfInBounds_toArray, List.set_cons_zero, List.set_cons_succ, i64_w, i32_w]
        rfl
      exact norm_ (by first | (simp only [putAll, Act.put, List.setIfInBounds_toArray, List.set_cons_zero, List.set_cons_succ]; done) | (simp only [putAll, Act.put, List.setIfInBounds_toArray, List.set_cons_zero, List.set_cons_succ]; rfl)) (hJ2_5_8_11_13 (gb152) _ ⟨hHeld, (by (with_reducible repeat (first | refine blk_drewN ?_ _ | refine blk_drew ?_ | refine blk_alloc ?_ _)); exact BK146.out), (by (with_reducible repeat (first | refine blk_drewN ?_ _ | refine blk_drew ?_ | refine blk_alloc ?_ _)); exact BK147.out), (by (with_reducible repeat (first | refine blk_drewN ?_ _ | refine blk_drew ?_ | refine blk_alloc ?_ _)); exact BK152.out), GW152.out, GE152.out, NB146_152.out, NB152_146.out, NB147_152.out, NB152_147.out, (by repeat (first | (with_reducible first | exact HB.out | apply below_alloc | apply pw_below_drewN | apply below_drew1 | refine below_set ?_ GE146.out | refine below_set ?_ GE147.out | refine below_set ?_ GE152.out) | exact HB.out))⟩)
  rintro gb152 w15 ⟨hS_, h0_, h1_, h2_, h3_, h4_, h5_, h6_, h7_, h8_, h9_⟩
  have n0_ : Aside0 (w15.heap[gb146]? = some (.cells #[.string a0_0, .string a0_1, .string a0_2, .string a0_3, .string a0_4] 23 (0, 0))) := ⟨h0_⟩
  have n1_ : Aside0 (w15.heap[gb147]? = some (.cells #[.string (⟨#[]⟩ : ByteArray), .string (⟨#[]⟩ : ByteArray), .string (⟨#[]⟩ : ByteArray), .string (⟨#[]⟩ : ByteArray), .string (⟨#[]⟩ : ByteArray)] 23 (0, 0))) := ⟨h1_⟩
  have n2_ : Aside0 (w15.heap[gb152]? = some (.cells #[.string (⟨#[]⟩ : ByteArray), .string (⟨#[]⟩ : ByteArray), .string (⟨#[]⟩ : ByteArray), .string (⟨#[]⟩ : ByteArray), .string (⟨#[]⟩ : ByteArray)] 23 (0, 0))) := ⟨h2_⟩
  have n3_ : Aside0 (w.heap.size ≤ gb152) := ⟨h3_⟩
  have n4_ : Aside0 (w.heap.size ≤ gb152) := ⟨h4_⟩
  have n5_ : Aside0 (gb146 ≠ gb152) := ⟨h5_⟩
  have n6_ : Aside0 (gb152 ≠ gb146) := ⟨h6_⟩
  have n7_ : Aside0 (gb147 ≠ gb152) := ⟨h7_⟩
  have n8_ : Aside0 (gb152 ≠ gb147) := ⟨h8_⟩
  have n9_ : Aside0 (Below w.heap.size w w15) := ⟨h9_⟩
  clear BK146
  clear BK147
  clear HB
  clear h0_ h1_ h2_ h3_ h4_ h5_ h6_ h7_ h8_ h9_
  have BK146 := n0_
  have BK147 := n1_
  have BK152 := n2_
  have GW152 := n3_
  have GE152 := n4_
  have NB146_152 := n5_
  have NB152_146 := n6_
  have NB147_152 := n7_
  have NB152_147 := n8_
  have HB := n9_
  clear n0_ n1_ n2_ n3_ n4_ n5_ n6_ n7_ n8_ n9_
  have hHeld : w15.cell? ⟨gb146, 0, none⟩ = some (.string a0_0) ∧ w15.cell? ⟨gb146, 1, none⟩ = some (.string a0_1) ∧ w15.cell? ⟨gb146, 2, none⟩ = some (.string a0_2) ∧ w15.cell? ⟨gb146, 3, none⟩ = some (.string a0_3) ∧ w15.cell? ⟨gb146, 4, none⟩ = some (.string a0_4) := hS_
  refine norm_ (a' := ?_) ?_ ?_
  rotate_left
  · simp only [putAll, Act.put, List.setIfInBounds_toArray, List.set_cons_zero, List.set_cons_succ]
    rfl
  refine one_ (i := 14) (N := none) #[true, true, true, true, true, true, true, true, true, true, true, true, true, true, true] rfl rfl (one_of HT_.out (by kernel_rfl)) (by decide) (fun K hK => ?_)
  have hs16 : w15.cell? ⟨gb152, 0, none⟩ = some (.string (⟨#[]⟩ : ByteArray)) := (blk_cell BK152.out 0).trans rfl
  have hfs16 := blk_frozen BK152.out 0
  have hns16_0 := NB146_152.out
  have hns16_1 := NB147_152.out
  have hms16_0 := NB152_146.out
  have hms16_1 := NB152_147.out
  have hs17 : w15.cell? ⟨gb152, 1, none⟩ = some (.string (⟨#[]⟩ : ByteArray)) := (blk_cell BK152.out 1).trans rfl
  have hfs17 := blk_frozen BK152.out 1
  have hns17_0 := NB146_152.out
  have hns17_1 := NB147_152.out
  have hms17_0 := NB152_146.out
  have hms17_1 := NB152_147.out
  have hs18 : w15.cell? ⟨gb152, 2, none⟩ = some (.string (⟨#[]⟩ : ByteArray)) := (blk_cell BK152.out 2).trans rfl
  have hfs18 := blk_frozen BK152.out 2
  have hns18_0 := NB146_152.out
  have hns18_1 := NB147_152.out
  have hms18_0 := NB152_146.out
  have hms18_1 := NB152_147.out
  have hs19 : w15.cell? ⟨gb152, 3, none⟩ = some (.string (⟨#[]⟩ : ByteArray)) := (blk_cell BK152.out 3).trans rfl
  have hfs19 := blk_frozen BK152.out 3
  have hns19_0 := NB146_152.out
  have hns19_1 := NB147_152.out
  have hms19_0 := NB152_146.out
  have hms19_1 := NB152_147.out
  have hs20 : w15.cell? ⟨gb152, 4, none⟩ = some (.string (⟨#[]⟩ : ByteArray)) := (blk_cell BK152.out 4).trans rfl
  have hfs20 := blk_frozen BK152.out 4
  have hns20_0 := NB146_152.out
  have hns20_1 := NB147_152.out
  have hms20_0 := NB152_146.out
  have hms20_1 := NB152_147.out
  refine skip_ (w1 := ?_) (by rfl) rfl ?_ ?_
  rotate_left
  · go_simp
    rfl
  refine hK.out _ _ ⟨((cell_far (p := ⟨gb152, _, none⟩) NB146_152.out _).trans (((cell_far (p := ⟨gb152, _, none⟩) NB146_152.out _).trans (((cell_far (p := ⟨gb152, _, none⟩) NB146_152.out _).trans (((cell_far (p := ⟨gb152, _, none⟩) NB146_152.out _).trans (((cell_far (p := ⟨gb152, _, none⟩) NB146_152.out _).trans (hHeld.1)))))))))), ((cell_far (p := ⟨gb152, _, none⟩) NB146_152.out _).trans (((cell_far (p := ⟨gb152, _, none⟩) NB146_152.out _).trans (((cell_far (p := ⟨gb152, _, none⟩) NB146_152.out _).trans (((cell_far (p := ⟨gb152, _, none⟩) NB146_152.out _).trans (((cell_far (p := ⟨gb152, _, none⟩) NB146_152.out _).trans (hHeld.2.1)))))))))), ((cell_far (p := ⟨gb152, _, none⟩) NB146_152.out _).trans (((cell_far (p := ⟨gb152, _, none⟩) NB146_152.out _).trans (((cell_far (p := ⟨gb152, _, none⟩) NB146_152.out _).trans (((cell_far (p := ⟨gb152, _, none⟩) NB146_152.out _).trans (((cell_far (p := ⟨gb152, _, none⟩) NB146_152.out _).trans (hHeld.2.2.1)))))))))), ((cell_far (p := ⟨gb152, _, none⟩) NB146_152.out _).trans (((cell_far (p := ⟨gb152, _, none⟩) NB146_152.out _).trans (((cell_far (p := ⟨gb152, _, none⟩) NB146_152.out _).trans (((cell_far (p := ⟨gb152, _, none⟩) NB146_152.out _).trans (((cell_far (p := ⟨gb152, _, none⟩) NB146_152.out _).trans (hHeld.2.2.2.1)))))))))), ((cell_far (p := ⟨gb152, _, none⟩) NB146_152.out _).trans (((cell_far (p := ⟨gb152, _, none⟩) NB146_152.out _).trans (((cell_far (p := ⟨gb152, _, none⟩) NB146_152.out _).trans (((cell_far (p := ⟨gb152, _, none⟩) NB146_152.out _).trans (((cell_far (p := ⟨gb152, _, none⟩) NB146_152.out _).trans (hHeld.2.2.2.2))))))))))⟩ (fun hHeld => ?_)
  clear hK K
  refine done_ (done_of HT_.out (by kernel_rfl)) ?_
  have hnb21 := NB146_147.out
  have hnc21 := NB147_146.out
  have hnb22 := NB146_152.out
  have hnc22 := NB152_146.out
  have hcz23_0 : w15.cell? ⟨gb146, 0, none⟩ = some (.string a0_0) := (blk_cell BK146.out 0).trans rfl
  have hcz23_1 : w15.cell? ⟨gb146, 1, none⟩ = some (.string a0_1) := (blk_cell BK146.out 1).trans rfl
  have hcz23_2 : w15.cell? ⟨gb146, 2, none⟩ = some (.string a0_2) := (blk_cell BK146.out 2).trans rfl
  have hcz23_3 : w15.cell? ⟨gb146, 3, none⟩ = some (.string a0_3) := (blk_cell BK146.out 3).trans rfl
  have hcz23_4 : w15.cell? ⟨gb146, 4, none⟩ = some (.string a0_4) := (blk_cell BK146.out 4).trans rfl
  have hfz23_0 := blk_frozen BK146.out 0
  have hfz23_1 := blk_frozen BK146.out 1
  have hfz23_2 := blk_frozen BK146.out 2
  have hfz23_3 := blk_frozen BK146.out 3
  have hfz23_4 := blk_frozen BK146.out 4
  go_upto_if 19 with (fail)
  go_cut [] (fun wc => ∃ (kq : Nat) (x153002_5 : ByteArray), Aside0 (laws_kyId.j0 kq a0_0 a0_1 a0_2 a0_3 a0_4 t148 t149 x153002_5 t150 t151 = some (r1, r2, r3, r4, r5)) ∧ Aside0 (kq ≤ k) ∧ Aside0 (wc.heap[gb146]? = some (.cells #[.string a0_0, .string a0_1, .string a0_2, .string a0_3, .string a0_4] 23 (0, 0))) ∧ Aside0 (wc.heap[gb147]? = some (.cells #[.string (⟨#[]⟩ : ByteArray), .string (⟨#[]⟩ : ByteArray), .string (⟨#[]⟩ : ByteArray), .string (⟨#[]⟩ : ByteArray), .string (⟨#[]⟩ : ByteArray)] 23 (0, 0))) ∧ Aside0 (wc.heap[gb152]? = some (.cells #[.string t148, .string t149, .string x153002_5, .string t150, .string t151] 23 (0, 0))) ∧ Aside0 (Below w.heap.size w wc))
  case first =>
    have H := HC6.out
    clear HC6
    by_cases c24 : a0_2.toList = ([] : List UInt8)
    · rw [if_pos c24] at H
      have c24e : (!a0_2.toList.isEmpty) = false := by rw [c24]; rfl
      clear c24
      rw [c24e]
      have H' := Aside0.mk H
      clear H
      go_wp2
      go_meet
      case rel => exact ⟨_, ((⟨#[]⟩ : ByteArray)), H', ⟨by first | omega | exact Nat.le_refl _⟩, ⟨by (with_reducible repeat (first | refine blk_drewN ?_ _ | refine blk_drew ?_ | refine blk_alloc ?_ _)); refine blk_far ?_ NB146_152.out _; (with_reducible repeat (first | refine blk_drewN ?_ _ | refine blk_drew ?_ | refine blk_alloc ?_ _)); refine blk_far ?_ NB146_152.out _; (with_reducible repeat (first | refine blk_drewN ?_ _ | refine blk_drew ?_ | refine blk_alloc ?_ _)); refine blk_far ?_ NB146_152.out _; (with_reducible repeat (first | refine blk_drewN ?_ _ | refine blk_drew ?_ | refine blk_alloc ?_ _)); refine blk_far ?_ NB146_152.out _; (with_reducible repeat (first | refine blk_drewN ?_ _ | refine blk_drew ?_ | refine blk_alloc ?_ _)); refine blk_far ?_ NB146_152.out _; (with_reducible repeat (first | refine blk_drewN ?_ _ | refine blk_drew ?_ | refine blk_alloc ?_ _)); exact BK146.out⟩, ⟨by (with_reducible repeat (first | refine blk_drewN ?_ _ | refine blk_drew ?_ | refine blk_alloc ?_ _)); refine blk_far ?_ NB147_152.out _; (with_reducible repeat (first | refine blk_drewN ?_ _ | refine blk_drew ?_ | refine blk_alloc ?_ _)); refine blk_far ?_ NB147_152.out _; (with_reducible repeat (first | refine blk_drewN ?_ _ | refine blk_drew ?_ | refine blk_alloc ?_ _)); refine blk_far ?_ NB147_152.out _; (with_reducible repeat (first | refine blk_drewN ?_ _ | refine blk_drew ?_ | refine blk_alloc ?_ _)); refine blk_far ?_ NB147_152.out _; (with_reducible repeat (first | refine blk_drewN ?_ _ | refine blk_drew ?_ | refine blk_alloc ?_ _)); refine blk_far ?_ NB147_152.out _; (with_reducible repeat (first | refine blk_drewN ?_ _ | refine blk_drew ?_ | refine blk_alloc ?_ _)); exact BK147.out⟩, ⟨by (with_reducible repeat (first | refine blk_drewN ?_ _ | refine blk_drew ?_ | refine blk_alloc ?_ _)); refine blk_put (cs := #[.string t148, .string t149, .string (⟨#[]⟩ : ByteArray), .string t150, .string (⟨#[]⟩ : ByteArray)]) ?_ 4 _ rfl; (with_reducible repeat (first | refine blk_drewN ?_ _ | refine blk_drew ?_ | refine blk_alloc ?_ _)); refine blk_put (cs := #[.string t148, .string t149, .string (⟨#[]⟩ : ByteArray), .string (⟨#[]⟩ : ByteArray), .string (⟨#[]⟩ : ByteArray)]) ?_ 3 _ rfl; (with_reducible repeat (first | refine blk_drewN ?_ _ | refine blk_drew ?_ | refine blk_alloc ?_ _)); refine blk_put (cs := #[.string t148, .string t149, .string (⟨#[]⟩ : ByteArray), .string (⟨#[]⟩ : ByteArray), .string (⟨#[]⟩ : ByteArray)]) ?_ 2 _ rfl; (with_reducible repeat (first | refine blk_drewN ?_ _ | refine blk_drew ?_ | refine blk_alloc ?_ _)); refine blk_put (cs := #[.string t148, .string (⟨#[]⟩ : ByteArray), .string (⟨#[]⟩ : ByteArray), .string (⟨#[]⟩ : ByteArray), .string (⟨#[]⟩ : ByteArray)]) ?_ 1 _ rfl; (with_reducible repeat (first | refine blk_drewN ?_ _ | refine blk_drew ?_ | refine blk_alloc ?_ _)); refine blk_put (cs := #[.string (⟨#[]⟩ : ByteArray), .string (⟨#[]⟩ : ByteArray), .string (⟨#[]⟩ : ByteArray), .string (⟨#[]⟩ : ByteArray), .string (⟨#[]⟩ : ByteArray)]) ?_ 0 _ rfl; (with_reducible repeat (first | refine blk_drewN ?_ _ | refine blk_drew ?_ | refine blk_alloc ?_ _)); exact BK152.out⟩, ⟨by repeat (first | (with_reducible first | exact HB.out | apply below_alloc | apply pw_below_drewN | apply below_drew1 | refine below_set ?_ GE146.out | refine below_set ?_ GE147.out | refine below_set ?_ GE152.out) | exact HB.out)⟩⟩
    · rw [if_neg c24] at H
      have c24e : (!a0_2.toList.isEmpty) = true := by cases h : a0_2.toList <;> simp_all
      rw [c24e]
      replace H := Option.bind_eq_some_iff.mp H
      obtain ⟨t153, A250, H⟩ := H
      replace H : (if 2 + t153.size ≤ 9223372036854775807 then (laws_kyId.j0 k a0_0 a0_1 a0_2 a0_3 a0_4 t148 t149 ((⟨#[90, 122]⟩ : ByteArray) ++ t153) t150 t151) else (none)) = some (r1, r2, r3, r4, r5) := H
      have A25 := Aside0.mk A250
      clear A250
      by_cases c26 : 2 + t153.size ≤ 9223372036854775807
      · rw [if_pos c26] at H
        have c26b0 := eq_true c26
        have c26b1 : decide (2 + t153.size ≤ 9223372036854775807) = true := decide_eq_true c26
        try have c26b2 : (9223372036854775807 < 2 + t153.size) = False := eq_false (Nat.not_lt.2 c26)
        have H' := Aside0.mk H
        clear H
        have hnb27 := NB146_147.out
        have hnc27 := NB147_146.out
        have hnb28 := NB146_152.out
        have hnc28 := NB152_146.out
        have hcz29_0 : w15.cell? ⟨gb146, 0, none⟩ = some (.string a0_0) := (blk_cell BK146.out 0).trans rfl
        have hcz29_1 : w15.cell? ⟨gb146, 1, none⟩ = some (.string a0_1) := (blk_cell BK146.out 1).trans rfl
        have hcz29_2 : w15.cell? ⟨gb146, 2, none⟩ = some (.string a0_2) := (blk_cell BK146.out 2).trans rfl
        have hcz29_3 : w15.cell? ⟨gb146, 3, none⟩ = some (.string a0_3) := (blk_cell BK146.out 3).trans rfl
        have hcz29_4 : w15.cell? ⟨gb146, 4, none⟩ = some (.string a0_4) := (blk_cell BK146.out 4).trans rfl
        have hfz29_0 := blk_frozen BK146.out 0
        have hfz29_1 := blk_frozen BK146.out 1
        have hfz29_2 := blk_frozen BK146.out 2
        have hfz29_3 := blk_frozen BK146.out 3
        have hfz29_4 := blk_frozen BK146.out 4
        go_wp2_with (first | ((with_reducible refine gate_callee (f := 7) rfl ?_); refine goesL_ (some 22) rfl rfl Tryd.func7 (by kernel_rfl) rfl #[.string a0_2] rfl (by (try simp only [List.map_toArray, List.map_cons, List.map_nil]); first | done | rfl | (simp only [List.length_drop, List.length_take]; rfl)) ?_; (with_reducible refine (laws_kyPlain.calls k a0_2 t153 _ A25.out).mono ?_); rintro e w30 ⟨rfl, hb⟩; refine ⟨_, rfl, ?_⟩; have n0_ := Aside0.mk (blk_below (g := gb146) (o := .cells #[.string a0_0, .string a0_1, .string a0_2, .string a0_3, .string a0_4] 23 (0, 0)) (by (with_reducible repeat (first | refine blk_drewN ?_ _ | refine blk_drew ?_ | refine blk_alloc ?_ _)); refine blk_far ?_ NB146_152.out _; (with_reducible repeat (first | refine blk_drewN ?_ _ | refine blk_drew ?_ | refine blk_alloc ?_ _)); refine blk_far ?_ NB146_152.out _; (with_reducible repeat (first | refine blk_drewN ?_ _ | refine blk_drew ?_ | refine blk_alloc ?_ _)); refine blk_far ?_ NB146_152.out _; (with_reducible repeat (first | refine blk_drewN ?_ _ | refine blk_drew ?_ | refine blk_alloc ?_ _)); refine blk_far ?_ NB146_152.out _; (with_reducible repeat (first | refine blk_drewN ?_ _ | refine blk_drew ?_ | refine blk_alloc ?_ _)); refine blk_far ?_ NB146_152.out _; (with_reducible repeat (first | refine blk_drewN ?_ _ | refine blk_drew ?_ | refine blk_alloc ?_ _)); exact BK146.out) hb); have n1_ := Aside0.mk (blk_below (g := gb147) (o := .cells #[.string (⟨#[]⟩ : ByteArray), .string (⟨#[]⟩ : ByteArray), .string (⟨#[]⟩ : ByteArray), .string (⟨#[]⟩ : ByteArray), .string (⟨#[]⟩ : ByteArray)] 23 (0, 0)) (by (with_reducible repeat (first | refine blk_drewN ?_ _ | refine blk_drew ?_ | refine blk_alloc ?_ _)); refine blk_far ?_ NB147_152.out _; (with_reducible repeat (first | refine blk_drewN ?_ _ | refine blk_drew ?_ | refine blk_alloc ?_ _)); refine blk_far ?_ NB147_152.out _; (with_reducible repeat (first | refine blk_drewN ?_ _ | refine blk_drew ?_ | refine blk_alloc ?_ _)); refine blk_far ?_ NB147_152.out _; (with_reducible repeat (first | refine blk_drewN ?_ _ | refine blk_drew ?_ | refine blk_alloc ?_ _)); refine blk_far ?_ NB147_152.out _; (with_reducible repeat (first | refine blk_drewN ?_ _ | refine blk_drew ?_ | refine blk_alloc ?_ _)); refine blk_far ?_ NB147_152.out _; (with_reducible repeat (first | refine blk_drewN ?_ _ | refine blk_drew ?_ | refine blk_alloc ?_ _)); exact BK147.out) hb); have n2_ := Aside0.mk (blk_below (g := gb152) (o := .cells #[.string t148, .string t149, .string (⟨#[]⟩ : ByteArray), .string t150, .string t151] 23 (0, 0)) (by (with_reducible repeat (first | refine blk_drewN ?_ _ | refine blk_drew ?_ | refine blk_alloc ?_ _)); refine blk_put (cs := #[.string t148, .string t149, .string (⟨#[]⟩ : ByteArray), .string t150, .string (⟨#[]⟩ : ByteArray)]) ?_ 4 _ rfl; (with_reducible repeat (first | refine blk_drewN ?_ _ | refine blk_drew ?_ | refine blk_alloc ?_ _)); refine blk_put (cs := #[.string t148, .string t149, .string (⟨#[]⟩ : ByteArray), .string (⟨#[]⟩ : ByteArray), .string (⟨#[]⟩ : ByteArray)]) ?_ 3 _ rfl; (with_reducible repeat (first | refine blk_drewN ?_ _ | refine blk_drew ?_ | refine blk_alloc ?_ _)); refine blk_put (cs := #[.string t148, .string t149, .string (⟨#[]⟩ : ByteArray), .string (⟨#[]⟩ : ByteArray), .string (⟨#[]⟩ : ByteArray)]) ?_ 2 _ rfl; (with_reducible repeat (first | refine blk_drewN ?_ _ | refine blk_drew ?_ | refine blk_alloc ?_ _)); refine blk_put (cs := #[.string t148, .string (⟨#[]⟩ : ByteArray), .string (⟨#[]⟩ : ByteArray), .string (⟨#[]⟩ : ByteArray), .string (⟨#[]⟩ : ByteArray)]) ?_ 1 _ rfl; (with_reducible repeat (first | refine blk_drewN ?_ _ | refine blk_drew ?_ | refine blk_alloc ?_ _)); refine blk_put (cs := #[.string (⟨#[]⟩ : ByteArray), .string (⟨#[]⟩ : ByteArray), .string (⟨#[]⟩ : ByteArray), .string (⟨#[]⟩ : ByteArray), .string (⟨#[]⟩ : ByteArray)]) ?_ 0 _ rfl; (with_reducible repeat (first | refine blk_drewN ?_ _ | refine blk_drew ?_ | refine blk_alloc ?_ _)); exact BK152.out) hb); have n3_ := Aside0.mk (below_step (by repeat (first | (with_reducible first | exact HB.out | apply below_alloc | apply pw_below_drewN | apply below_drew1 | refine below_set ?_ GE146.out | refine below_set ?_ GE147.out | refine below_set ?_ GE152.out) | exact HB.out)) hb); clear BK146; clear BK147; clear BK152; clear HB; have BK146 := n0_; have BK147 := n1_; have BK152 := n2_; have HB := n3_; clear n0_ n1_ n2_ n3_; (try clear hb); (try clear hb2); (try clear hk); (try clear hi); have hnb31 := NB152_147.out; have hnc31 := NB147_152.out; have hcz32_0 : w30.cell? ⟨gb152, 0, none⟩ = some (.string t148) := (blk_cell BK152.out 0).trans rfl; have hcz32_1 : w30.cell? ⟨gb152, 1, none⟩ = some (.string t149) := (blk_cell BK152.out 1).trans rfl; have hcz32_2 : w30.cell? ⟨gb152, 2, none⟩ = some (.string (⟨#[]⟩ : ByteArray)) := (blk_cell BK152.out 2).trans rfl; have hcz32_3 : w30.cell? ⟨gb152, 3, none⟩ = some (.string t150) := (blk_cell BK152.out 3).trans rfl; have hcz32_4 : w30.cell? ⟨gb152, 4, none⟩ = some (.string t151) := (blk_cell BK152.out 4).trans rfl; have hfz32_0 := blk_frozen BK152.out 0; have hfz32_1 := blk_frozen BK152.out 1; have hfz32_2 := blk_frozen BK152.out 2; have hfz32_3 := blk_frozen BK152.out 3; have hfz32_4 := blk_frozen BK152.out 4))
        go_meet
        case rel => exact ⟨_, ((⟨#[90, 122]⟩ : ByteArray) ++ t153), H', ⟨by first | omega | exact Nat.le_refl _⟩, ⟨by (with_reducible repeat (first | refine blk_drewN ?_ _ | refine blk_drew ?_ | refine blk_alloc ?_ _)); refine blk_far ?_ NB146_152.out _; (with_reducible repeat (first | refine blk_drewN ?_ _ | refine blk_drew ?_ | refine blk_alloc ?_ _)); exact BK146.out⟩, ⟨by (with_reducible repeat (first | refine blk_drewN ?_ _ | refine blk_drew ?_ | refine blk_alloc ?_ _)); refine blk_far ?_ NB147_152.out _; (with_reducible repeat (first | refine blk_drewN ?_ _ | refine blk_drew ?_ | refine blk_alloc ?_ _)); exact BK147.out⟩, ⟨by (with_reducible repeat (first | refine blk_drewN ?_ _ | refine blk_drew ?_ | refine blk_alloc ?_ _)); refine blk_put (cs := #[.string t148, .string t149, .string (⟨#[]⟩ : ByteArray), .string t150, .string t151]) ?_ 2 _ rfl; (with_reducible repeat (first | refine blk_drewN ?_ _ | refine blk_drew ?_ | refine blk_alloc ?_ _)); exact BK152.out⟩, ⟨by repeat (first | (with_reducible first | exact HB.out | apply below_alloc | apply pw_below_drewN | apply below_drew1 | refine below_set ?_ GE146.out | refine below_set ?_ GE147.out | refine below_set ?_ GE152.out) | exact HB.out)⟩⟩
      · rw [if_neg c26] at H
        exact absurd H (by simp)
  case rest =>
    clear HC6
    try clear c1
    try clear c2
    try clear p2
    try clear c3
    try clear c7
    try clear c21
    try clear c22
    try clear c24
    try clear c24b0
    try clear c24b1
    try clear c26
    try clear c26b0
    try clear c26b1
    try clear c26b2
    try clear c27
    try clear c28
    try clear c31
    try clear hcz23_0
    try clear hcz23_1
    try clear hcz23_2
    try clear hcz23_3
    try clear hcz23_4
    try clear hcz29_0
    try clear hcz29_1
    try clear hcz29_2
    try clear hcz29_3
    try clear hcz29_4
    try clear hcz32_0
    try clear hcz32_1
    try clear hcz32_2
    try clear hcz32_3
    try clear hcz32_4
    try clear hfz23_0
    try clear hfz23_1
    try clear hfz23_2
    try clear hfz23_3
    try clear hfz23_4
    try clear hfz29_0
    try clear hfz29_1
    try clear hfz29_2
    try clear hfz29_3
    try clear hfz29_4
    try clear hfz32_0
    try clear hfz32_1
    try clear hfz32_2
    try clear hfz32_3
    try clear hfz32_4
    obtain ⟨kq, x153002_5, HA, HJ5, BK146, BK147, BK152, HB⟩ := hcut
    cases kq with
    | zero => exact absurd HA.out (by simp [laws_kyId.j0])
    | succ kj5 =>
      have H := HA.out
      clear HA
      simp only [laws_kyId.j0] at H
      by_cases c33 : (a0_0.size : Int) > 3
      · rw [if_pos c33] at H
        have c33b0 : decide (3 < (a0_0.size : Int)) = true := decide_eq_true c33
        have c33b1 : decide (3 < a0_0.size) = true := decide_eq_true (by omega)
        clear c33
        by_cases c34 : t148.size + 3 ≤ 9223372036854775807
        · rw [if_pos c34] at H
          have c34b0 := eq_true c34
          have c34b1 : decide (t148.size + 3 ≤ 9223372036854775807) = true := decide_eq_true c34
          try have c34b2 : (9223372036854775807 < t148.size + 3) = False := eq_false (Nat.not_lt.2 c34)
          by_cases c35 : (a0_3.size : Int) > 3
          · rw [if_pos c35] at H
            have c35b0 : decide (3 < (a0_3.size : Int)) = true := decide_eq_true c35
            have c35b1 : decide (3 < a0_3.size) = true := decide_eq_true (by omega)
            clear c35
            by_cases c36 : t150.size + 2 ≤ 9223372036854775807
            · rw [if_pos c36] at H
              have c36b0 := eq_true c36
              have c36b1 : decide (t150.size + 2 ≤ 9223372036854775807) = true := decide_eq_true c36
              try have c36b2 : (9223372036854775807 < t150.size + 2) = False := eq_false (Nat.not_lt.2 c36)
              simp only [Option.some.injEq, Prod.mk.injEq] at H
              obtain ⟨rfl, rfl, rfl, rfl, rfl⟩ := H
              have hnb37 := NB146_147.out
              have hnc37 := NB147_146.out
              have hnb38 := NB146_152.out
              have hnc38 := NB152_146.out
              have hcz39_0 : wc.cell? ⟨gb146, 0, none⟩ = some (.string a0_0) := (blk_cell BK146.out 0).trans rfl
              have hcz39_1 : wc.cell? ⟨gb146, 1, none⟩ = some (.string a0_1) := (blk_cell BK146.out 1).trans rfl
              have hcz39_2 : wc.cell? ⟨gb146, 2, none⟩ = some (.string a0_2) := (blk_cell BK146.out 2).trans rfl
              have hcz39_3 : wc.cell? ⟨gb146, 3, none⟩ = some (.string a0_3) := (blk_cell BK146.out 3).trans rfl
              have hcz39_4 : wc.cell? ⟨gb146, 4, none⟩ = some (.string a0_4) := (blk_cell BK146.out 4).trans rfl
              have hfz39_0 := blk_frozen BK146.out 0
              have hfz39_1 := blk_frozen BK146.out 1
              have hfz39_2 := blk_frozen BK146.out 2
              have hfz39_3 := blk_frozen BK146.out 3
              have hfz39_4 := blk_frozen BK146.out 4
              have hnb40 := NB152_147.out
              have hnc40 := NB147_152.out
              have hcz41_0 : wc.cell? ⟨gb152, 0, none⟩ = some (.string t148) := (blk_cell BK152.out 0).trans rfl
              have hcz41_1 : wc.cell? ⟨gb152, 1, none⟩ = some (.string t149) := (blk_cell BK152.out 1).trans rfl
              have hcz41_2 : wc.cell? ⟨gb152, 2, none⟩ = some (.string x153002_5) := (blk_cell BK152.out 2).trans rfl
              have hcz41_3 : wc.cell? ⟨gb152, 3, none⟩ = some (.string t150) := (blk_cell BK152.out 3).trans rfl
              have hcz41_4 : wc.cell? ⟨gb152, 4, none⟩ = some (.string t151) := (blk_cell BK152.out 4).trans rfl
              have hfz41_0 := blk_frozen BK152.out 0
              have hfz41_1 := blk_frozen BK152.out 1
              have hfz41_2 := blk_frozen BK152.out 2
              have hfz41_3 := blk_frozen BK152.out 3
              have hfz41_4 := blk_frozen BK152.out 4
              have hcz42_0 : wc.cell? ⟨gb147, 0, none⟩ = some (.string (⟨#[]⟩ : ByteArray)) := (blk_cell BK147.out 0).trans rfl
              have hcz42_1 : wc.cell? ⟨gb147, 1, none⟩ = some (.string (⟨#[]⟩ : ByteArray)) := (blk_cell BK147.out 1).trans rfl
              have hcz42_2 : wc.cell? ⟨gb147, 2, none⟩ = some (.string (⟨#[]⟩ : ByteArray)) := (blk_cell BK147.out 2).trans rfl
              have hcz42_3 : wc.cell? ⟨gb147, 3, none⟩ = some (.string (⟨#[]⟩ : ByteArray)) := (blk_cell BK147.out 3).trans rfl
              have hcz42_4 : wc.cell? ⟨gb147, 4, none⟩ = some (.string (⟨#[]⟩ : ByteArray)) := (blk_cell BK147.out 4).trans rfl
              have hfz42_0 := blk_frozen BK147.out 0
              have hfz42_1 := blk_frozen BK147.out 1
              have hfz42_2 := blk_frozen BK147.out 2
              have hfz42_3 := blk_frozen BK147.out 3
              have hfz42_4 := blk_frozen BK147.out 4
              go_wp2
              refine bodyPost_ret (results_cell_row rfl _ _ gb147 23 #[.string (t148 ++ (⟨#[46, 105, 111]⟩ : ByteArray)), .string t149, .string x153002_5, .string (t150 ++ (⟨#[46, 120]⟩ : ByteArray)), .string t151] (0, 0) _ rfl (by (with_reducible repeat (first | refine blk_drewN ?_ _ | refine blk_drew ?_ | refine blk_alloc ?_ _)); refine blk_put (cs := #[.string (t148 ++ (⟨#[46, 105, 111]⟩ : ByteArray)), .string t149, .string x153002_5, .string (t150 ++ (⟨#[46, 120]⟩ : ByteArray)), .string (⟨#[]⟩ : ByteArray)]) ?_ 4 _ rfl; (with_reducible repeat (first | refine blk_drewN ?_ _ | refine blk_drew ?_ | refine blk_alloc ?_ _)); refine blk_put (cs := #[.string (t148 ++ (⟨#[46, 105, 111]⟩ : ByteArray)), .string t149, .string x153002_5, .string (⟨#[]⟩ : ByteArray), .string (⟨#[]⟩ : ByteArray)]) ?_ 3 _ rfl; (with_reducible repeat (first | refine blk_drewN ?_ _ | refine blk_drew ?_ | refine blk_alloc ?_ _)); refine blk_put (cs := #[.string (t148 ++ (⟨#[46, 105, 111]⟩ : ByteArray)), .string t149, .string (⟨#[]⟩ : ByteArray), .string (⟨#[]⟩ : ByteArray), .string (⟨#[]⟩ : ByteArray)]) ?_ 2 _ rfl; (with_reducible repeat (first | refine blk_drewN ?_ _ | refine blk_drew ?_ | refine blk_alloc ?_ _)); refine blk_put (cs := #[.string (t148 ++ (⟨#[46, 105, 111]⟩ : ByteArray)), .string (⟨#[]⟩ : ByteArray), .string (⟨#[]⟩ : ByteArray), .string (⟨#[]⟩ : ByteArray), .string (⟨#[]⟩ : ByteArray)]) ?_ 1 _ rfl; (with_reducible repeat (first | refine blk_drewN ?_ _ | refine blk_drew ?_ | refine blk_alloc ?_ _)); refine blk_put (cs := #[.string (⟨#[]⟩ : ByteArray), .string (⟨#[]⟩ : ByteArray), .string (⟨#[]⟩ : ByteArray), .string (⟨#[]⟩ : ByteArray), .string (⟨#[]⟩ : ByteArray)]) ?_ 0 _ rfl; (with_reducible repeat (first | refine blk_drewN ?_ _ | refine blk_drew ?_ | refine blk_alloc ?_ _)); refine blk_far ?_ NB147_152.out _; (with_reducible repeat (first | refine blk_drewN ?_ _ | refine blk_drew ?_ | refine blk_alloc ?_ _)); refine blk_far ?_ NB147_152.out _; (with_reducible repeat (first | refine blk_drewN ?_ _ | refine blk_drew ?_ | refine blk_alloc ?_ _)); exact BK147.out) Tryd.underlying23 rfl (by kernel_rfl)) rfl ?_
              exact ⟨by first | rfl | (simp [errW_none, errW_some] <;> rfl) | (simp [*, errW_none, errW_some] <;> rfl), by repeat (first | (with_reducible first | exact HB.out | apply below_alloc | apply pw_below_drewN | apply below_drew1 | refine below_set ?_ GE146.out | refine below_set ?_ GE147.out | refine below_set ?_ GE152.out) | exact HB.out)⟩
            · rw [if_neg c36] at H
              exact absurd H (by simp)
          · rw [if_neg c35] at H
            have c35b0 : decide (3 < (a0_3.size : Int)) = false := decide_eq_false c35
            have c35b1 : decide (3 < a0_3.size) = false := decide_eq_false (by omega)
            clear c35
            simp only [Option.some.injEq, Prod.mk.injEq] at H
            obtain ⟨rfl, rfl, rfl, rfl, rfl⟩ := H
            have hnb43 := NB146_147.out
            have hnc43 := NB147_146.out
            have hnb44 := NB146_152.out
            have hnc44 := NB152_146.out
            have hcz45_0 : wc.cell? ⟨gb146, 0, none⟩ = some (.string a0_0) := (blk_cell BK146.out 0).trans rfl
            have hcz45_1 : wc.cell? ⟨gb146, 1, none⟩ = some (.string a0_1) := (blk_cell BK146.out 1).trans rfl
            have hcz45_2 : wc.cell? ⟨gb146, 2, none⟩ = some (.string a0_2) := (blk_cell BK146.out 2).trans rfl
            have hcz45_3 : wc.cell? ⟨gb146, 3, none⟩ = some (.string a0_3) := (blk_cell BK146.out 3).trans rfl
            have hcz45_4 : wc.cell? ⟨gb146, 4, none⟩ = some (.string a0_4) := (blk_cell BK146.out 4).trans rfl
            have hfz45_0 := blk_frozen BK146.out 0
            have hfz45_1 := blk_frozen BK146.out 1
            have hfz45_2 := blk_frozen BK146.out 2
            have hfz45_3 := blk_frozen BK146.out 3
            have hfz45_4 := blk_frozen BK146.out 4
            have hnb46 := NB152_147.out
            have hnc46 := NB147_152.out
            have hcz47_0 : wc.cell? ⟨gb152, 0, none⟩ = some (.string t148) := (blk_cell BK152.out 0).trans rfl
            have hcz47_1 : wc.cell? ⟨gb152, 1, none⟩ = some (.string t149) := (blk_cell BK152.out 1).trans rfl
            have hcz47_2 : wc.cell? ⟨gb152, 2, none⟩ = some (.string x153002_5) := (blk_cell BK152.out 2).trans rfl
            have hcz47_3 : wc.cell? ⟨gb152, 3, none⟩ = some (.string t150) := (blk_cell BK152.out 3).trans rfl
            have hcz47_4 : wc.cell? ⟨gb152, 4, none⟩ = some (.string t151) := (blk_cell BK152.out 4).trans rfl
            have hfz47_0 := blk_frozen BK152.out 0
            have hfz47_1 := blk_frozen BK152.out 1
            have hfz47_2 := blk_frozen BK152.out 2
            have hfz47_3 := blk_frozen BK152.out 3
            have hfz47_4 := blk_frozen BK152.out 4
            have hcz48_0 : wc.cell? ⟨gb147, 0, none⟩ = some (.string (⟨#[]⟩ : ByteArray)) := (blk_cell BK147.out 0).trans rfl
            have hcz48_1 : wc.cell? ⟨gb147, 1, none⟩ = some (.string (⟨#[]⟩ : ByteArray)) := (blk_cell BK147.out 1).trans rfl
            have hcz48_2 : wc.cell? ⟨gb147, 2, none⟩ = some (.string (⟨#[]⟩ : ByteArray)) := (blk_cell BK147.out 2).trans rfl
            have hcz48_3 : wc.cell? ⟨gb147, 3, none⟩ = some (.string (⟨#[]⟩ : ByteArray)) := (blk_cell BK147.out 3).trans rfl
            have hcz48_4 : wc.cell? ⟨gb147, 4, none⟩ = some (.string (⟨#[]⟩ : ByteArray)) := (blk_cell BK147.out 4).trans rfl
            have hfz48_0 := blk_frozen BK147.out 0
            have hfz48_1 := blk_frozen BK147.out 1
            have hfz48_2 := blk_frozen BK147.out 2
            have hfz48_3 := blk_frozen BK147.out 3
            have hfz48_4 := blk_frozen BK147.out 4
            go_wp2
            refine bodyPost_ret (results_cell_row rfl _ _ gb147 23 #[.string (t148 ++ (⟨#[46, 105, 111]⟩ : ByteArray)), .string t149, .string x153002_5, .string t150, .string t151] (0, 0) _ rfl (by (with_reducible repeat (first | refine blk_drewN ?_ _ | refine blk_drew ?_ | refine blk_alloc ?_ _)); refine blk_put (cs := #[.string (t148 ++ (⟨#[46, 105, 111]⟩ : ByteArray)), .string t149, .string x153002_5, .string t150, .string (⟨#[]⟩ : ByteArray)]) ?_ 4 _ rfl; (with_reducible repeat (first | refine blk_drewN ?_ _ | refine blk_drew ?_ | refine blk_alloc ?_ _)); refine blk_put (cs := #[.string (t148 ++ (⟨#[46, 105, 111]⟩ : ByteArray)), .string t149, .string x153002_5, .string (⟨#[]⟩ : ByteArray), .string (⟨#[]⟩ : ByteArray)]) ?_ 3 _ rfl; (with_reducible repeat (first | refine blk_drewN ?_ _ | refine blk_drew ?_ | refine blk_alloc ?_ _)); refine blk_put (cs := #[.string (t148 ++ (⟨#[46, 105, 111]⟩ : ByteArray)), .string t149, .string (⟨#[]⟩ : ByteArray), .string (⟨#[]⟩ : ByteArray), .string (⟨#[]⟩ : ByteArray)]) ?_ 2 _ rfl; (with_reducible repeat (first | refine blk_drewN ?_ _ | refine blk_drew ?_ | refine blk_alloc ?_ _)); refine blk_put (cs := #[.string (t148 ++ (⟨#[46, 105, 111]⟩ : ByteArray)), .string (⟨#[]⟩ : ByteArray), .string (⟨#[]⟩ : ByteArray), .string (⟨#[]⟩ : ByteArray), .string (⟨#[]⟩ : ByteArray)]) ?_ 1 _ rfl; (with_reducible repeat (first | refine blk_drewN ?_ _ | refine blk_drew ?_ | refine blk_alloc ?_ _)); refine blk_put (cs := #[.string (⟨#[]⟩ : ByteArray), .string (⟨#[]⟩ : ByteArray), .string (⟨#[]⟩ : ByteArray), .string (⟨#[]⟩ : ByteArray), .string (⟨#[]⟩ : ByteArray)]) ?_ 0 _ rfl; (with_reducible repeat (first | refine blk_drewN ?_ _ | refine blk_drew ?_ | refine blk_alloc ?_ _)); refine blk_far ?_ NB147_152.out _; (with_reducible repeat (first | refine blk_drewN ?_ _ | refine blk_drew ?_ | refine blk_alloc ?_ _)); exact BK147.out) Tryd.underlying23 rfl (by kernel_rfl)) rfl ?_
            exact ⟨by first | rfl | (simp [errW_none, errW_some] <;> rfl) | (simp [*, errW_none, errW_some] <;> rfl), by repeat (first | (with_reducible first | exact HB.out | apply below_alloc | apply pw_below_drewN | apply below_drew1 | refine below_set ?_ GE146.out | refine below_set ?_ GE147.out | refine below_set ?_ GE152.out) | exact HB.out)⟩
        · rw [if_neg c34] at H
          exact absurd H (by simp)
      · rw [if_neg c33] at H
        have c33b0 : decide (3 < (a0_0.size : Int)) = false := decide_eq_false c33
        have c33b1 : decide (3 < a0_0.size) = false := decide_eq_false (by omega)
        clear c33
        by_cases c49 : (a0_3.size : Int) > 3
        · rw [if_pos c49] at H
          have c49b0 : decide (3 < (a0_3.size : Int)) = true := decide_eq_true c49
          have c49b1 : decide (3 < a0_3.size) = true := decide_eq_true (by omega)
          clear c49
          by_cases c50 : t150.size + 2 ≤ 9223372036854775807
          · rw [if_pos c50] at H
            have c50b0 := eq_true c50
            have c50b1 : decide (t150.size + 2 ≤ 9223372036854775807) = true := decide_eq_true c50
            try have c50b2 : (9223372036854775807 < t150.size + 2) = False := eq_false (Nat.not_lt.2 c50)
            simp only [Option.some.injEq, Prod.mk.injEq] at H
            obtain ⟨rfl, rfl, rfl, rfl, rfl⟩ := H
            have hnb51 := NB146_147.out
            have hnc51 := NB147_146.out
            have hnb52 := NB146_152.out
            have hnc52 := NB152_146.out
            have hcz53_0 : wc.cell? ⟨gb146, 0, none⟩ = some (.string a0_0) := (blk_cell BK146.out 0).trans rfl
            have hcz53_1 : wc.cell? ⟨gb146, 1, none⟩ = some (.string a0_1) := (blk_cell BK146.out 1).trans rfl
            have hcz53_2 : wc.cell? ⟨gb146, 2, none⟩ = some (.string a0_2) := (blk_cell BK146.out 2).trans rfl
            have hcz53_3 : wc.cell? ⟨gb146, 3, none⟩ = some (.string a0_3) := (blk_cell BK146.out 3).trans rfl
            have hcz53_4 : wc.cell? ⟨gb146, 4, none⟩ = some (.string a0_4) := (blk_cell BK146.out 4).trans rfl
            have hfz53_0 := blk_frozen BK146.out 0
            have hfz53_1 := blk_frozen BK146.out 1
            have hfz53_2 := blk_frozen BK146.out 2
            have hfz53_3 := blk_frozen BK146.out 3
            have hfz53_4 := blk_frozen BK146.out 4
            have hnb54 := NB152_147.out
            have hnc54 := NB147_152.out
            have hcz55_0 : wc.cell? ⟨gb152, 0, none⟩ = some (.string t148) := (blk_cell BK152.out 0).trans rfl
            have hcz55_1 : wc.cell? ⟨gb152, 1, none⟩ = some (.string t149) := (blk_cell BK152.out 1).trans rfl
            have hcz55_2 : wc.cell? ⟨gb152, 2, none⟩ = some (.string x153002_5) := (blk_cell BK152.out 2).trans rfl
            have hcz55_3 : wc.cell? ⟨gb152, 3, none⟩ = some (.string t150) := (blk_cell BK152.out 3).trans rfl
            have hcz55_4 : wc.cell? ⟨gb152, 4, none⟩ = some (.string t151) := (blk_cell BK152.out 4).trans rfl
            have hfz55_0 := blk_frozen BK152.out 0
            have hfz55_1 := blk_frozen BK152.out 1
            have hfz55_2 := blk_frozen BK152.out 2
            have hfz55_3 := blk_frozen BK152.out 3
            have hfz55_4 := blk_frozen BK152.out 4
            have hcz56_0 : wc.cell? ⟨gb147, 0, none⟩ = some (.string (⟨#[]⟩ : ByteArray)) := (blk_cell BK147.out 0).trans rfl
            have hcz56_1 : wc.cell? ⟨gb147, 1, none⟩ = some (.string (⟨#[]⟩ : ByteArray)) := (blk_cell BK147.out 1).trans rfl
            have hcz56_2 : wc.cell? ⟨gb147, 2, none⟩ = some (.string (⟨#[]⟩ : ByteArray)) := (blk_cell BK147.out 2).trans rfl
            have hcz56_3 : wc.cell? ⟨gb147, 3, none⟩ = some (.string (⟨#[]⟩ : ByteArray)) := (blk_cell BK147.out 3).trans rfl
            have hcz56_4 : wc.cell? ⟨gb147, 4, none⟩ = some (.string (⟨#[]⟩ : ByteArray)) := (blk_cell BK147.out 4).trans rfl
            have hfz56_0 := blk_frozen BK147.out 0
            have hfz56_1 := blk_frozen BK147.out 1
            have hfz56_2 := blk_frozen BK147.out 2
            have hfz56_3 := blk_frozen BK147.out 3
            have hfz56_4 := blk_frozen BK147.out 4
            go_wp2
            refine bodyPost_ret (results_cell_row rfl _ _ gb147 23 #[.string t148, .string t149, .string x153002_5, .string (t150 ++ (⟨#[46, 120]⟩ : ByteArray)), .string t151] (0, 0) _ rfl (by (with_reducible repeat (first | refine blk_drewN ?_ _ | refine blk_drew ?_ | refine blk_alloc ?_ _)); refine blk_put (cs := #[.string t148, .string t149, .string x153002_5, .string (t150 ++ (⟨#[46, 120]⟩ : ByteArray)), .string (⟨#[]⟩ : ByteArray)]) ?_ 4 _ rfl; (with_reducible repeat (first | refine blk_drewN ?_ _ | refine blk_drew ?_ | refine blk_alloc ?_ _)); refine blk_put (cs := #[.string t148, .string t149, .string x153002_5, .string (⟨#[]⟩ : ByteArray), .string (⟨#[]⟩ : ByteArray)]) ?_ 3 _ rfl; (with_reducible repeat (first | refine blk_drewN ?_ _ | refine blk_drew ?_ | refine blk_alloc ?_ _)); refine blk_put (cs := #[.string t148, .string t149, .string (⟨#[]⟩ : ByteArray), .string (⟨#[]⟩ : ByteArray), .string (⟨#[]⟩ : ByteArray)]) ?_ 2 _ rfl; (with_reducible repeat (first | refine blk_drewN ?_ _ | refine blk_drew ?_ | refine blk_alloc ?_ _)); refine blk_put (cs := #[.string t148, .string (⟨#[]⟩ : ByteArray), .string (⟨#[]⟩ : ByteArray), .string (⟨#[]⟩ : ByteArray), .string (⟨#[]⟩ : ByteArray)]) ?_ 1 _ rfl; (with_reducible repeat (first | refine blk_drewN ?_ _ | refine blk_drew ?_ | refine blk_alloc ?_ _)); refine blk_put (cs := #[.string (⟨#[]⟩ : ByteArray), .string (⟨#[]⟩ : ByteArray), .string (⟨#[]⟩ : ByteArray), .string (⟨#[]⟩ : ByteArray), .string (⟨#[]⟩ : ByteArray)]) ?_ 0 _ rfl; (with_reducible repeat (first | refine blk_drewN ?_ _ | refine blk_drew ?_ | refine blk_alloc ?_ _)); refine blk_far ?_ NB147_152.out _; (with_reducible repeat (first | refine blk_drewN ?_ _ | refine blk_drew ?_ | refine blk_alloc ?_ _)); exact BK147.out) Tryd.underlying23 rfl (by kernel_rfl)) rfl ?_
            exact ⟨by first | rfl | (simp [errW_none, errW_some] <;> rfl) | (simp [*, errW_none, errW_some] <;> rfl), by repeat (first | (with_reducible first | exact HB.out | apply below_alloc | apply pw_below_drewN | apply below_drew1 | refine below_set ?_ GE146.out | refine below_set ?_ GE147.out | refine below_set ?_ GE152.out) | exact HB.out)⟩
          · rw [if_neg c50] at H
            exact absurd H (by simp)
        · rw [if_neg c49] at H
          have c49b0 : decide (3 < (a0_3.size : Int)) = false := decide_eq_false c49
          have c49b1 : decide (3 < a0_3.size) = false := decide_eq_false (by omega)
          clear c49
          simp only [Option.some.injEq, Prod.mk.injEq] at H
          obtain ⟨rfl, rfl, rfl, rfl, rfl⟩ := H
          have hnb57 := NB146_147.out
          have hnc57 := NB147_146.out
          have hnb58 := NB146_152.out
          have hnc58 := NB152_146.out
          have hcz59_0 : wc.cell? ⟨gb146, 0, none⟩ = some (.string a0_0) := (blk_cell BK146.out 0).trans rfl
          have hcz59_1 : wc.cell? ⟨gb146, 1, none⟩ = some (.string a0_1) := (blk_cell BK146.out 1).trans rfl
          have hcz59_2 : wc.cell? ⟨gb146, 2, none⟩ = some (.string a0_2) := (blk_cell BK146.out 2).trans rfl
          have hcz59_3 : wc.cell? ⟨gb146, 3, none⟩ = some (.string a0_3) := (blk_cell BK146.out 3).trans rfl
          have hcz59_4 : wc.cell? ⟨gb146, 4, none⟩ = some (.string a0_4) := (blk_cell BK146.out 4).trans rfl
          have hfz59_0 := blk_frozen BK146.out 0
          have hfz59_1 := blk_frozen BK146.out 1
          have hfz59_2 := blk_frozen BK146.out 2
          have hfz59_3 := blk_frozen BK146.out 3
          have hfz59_4 := blk_frozen BK146.out 4
          have hnb60 := NB152_147.out
          have hnc60 := NB147_152.out
          have hcz61_0 : wc.cell? ⟨gb152, 0, none⟩ = some (.string t148) := (blk_cell BK152.out 0).trans rfl
          have hcz61_1 : wc.cell? ⟨gb152, 1, none⟩ = some (.string t149) := (blk_cell BK152.out 1).trans rfl
          have hcz61_2 : wc.cell? ⟨gb152, 2, none⟩ = some (.string x153002_5) := (blk_cell BK152.out 2).trans rfl
          have hcz61_3 : wc.cell? ⟨gb152, 3, none⟩ = some (.string t150) := (blk_cell BK152.out 3).trans rfl
          have hcz61_4 : wc.cell? ⟨gb152, 4, none⟩ = some (.string t151) := (blk_cell BK152.out 4).trans rfl
          have hfz61_0 := blk_frozen BK152.out 0
          have hfz61_1 := blk_frozen BK152.out 1
          have hfz61_2 := blk_frozen BK152.out 2
          have hfz61_3 := blk_frozen BK152.out 3
          have hfz61_4 := blk_frozen BK152.out 4
          have hcz62_0 : wc.cell? ⟨gb147, 0, none⟩ = some (.string (⟨#[]⟩ : ByteArray)) := (blk_cell BK147.out 0).trans rfl
          have hcz62_1 : wc.cell? ⟨gb147, 1, none⟩ = some (.string (⟨#[]⟩ : ByteArray)) := (blk_cell BK147.out 1).trans rfl
          have hcz62_2 : wc.cell? ⟨gb147, 2, none⟩ = some (.string (⟨#[]⟩ : ByteArray)) := (blk_cell BK147.out 2).trans rfl
          have hcz62_3 : wc.cell? ⟨gb147, 3, none⟩ = some (.string (⟨#[]⟩ : ByteArray)) := (blk_cell BK147.out 3).trans rfl
          have hcz62_4 : wc.cell? ⟨gb147, 4, none⟩ = some (.string (⟨#[]⟩ : ByteArray)) := (blk_cell BK147.out 4).trans rfl
          have hfz62_0 := blk_frozen BK147.out 0
          have hfz62_1 := blk_frozen BK147.out 1
          have hfz62_2 := blk_frozen BK147.out 2
          have hfz62_3 := blk_frozen BK147.out 3
          have hfz62_4 := blk_frozen BK147.out 4
          go_wp2
          refine bodyPost_ret (results_cell_row rfl _ _ gb147 23 #[.string t148, .string t149, .string x153002_5, .string t150, .string t151] (0, 0) _ rfl (by (with_reducible repeat (first | refine blk_drewN ?_ _ | refine blk_drew ?_ | refine blk_alloc ?_ _)); refine blk_put (cs := #[.string t148, .string t149, .string x153002_5, .string t150, .string (⟨#[]⟩ : ByteArray)]) ?_ 4 _ rfl; (with_reducible repeat (first | refine blk_drewN ?_ _ | refine blk_drew ?_ | refine blk_alloc ?_ _)); refine blk_put (cs := #[.string t148, .string t149, .string x153002_5, .string (⟨#[]⟩ : ByteArray), .string (⟨#[]⟩ : ByteArray)]) ?_ 3 _ rfl; (with_reducible repeat (first | refine blk_drewN ?_ _ | refine blk_drew ?_ | refine blk_alloc ?_ _)); refine blk_put (cs := #[.string t148, .string t149, .string (⟨#[]⟩ : ByteArray), .string (⟨#[]⟩ : ByteArray), .string (⟨#[]⟩ : ByteArray)]) ?_ 2 _ rfl; (with_reducible repeat (first | refine blk_drewN ?_ _ | refine blk_drew ?_ | refine blk_alloc ?_ _)); refine blk_put (cs := #[.string t148, .string (⟨#[]⟩ : ByteArray), .string (⟨#[]⟩ : ByteArray), .string (⟨#[]⟩ : ByteArray), .string (⟨#[]⟩ : ByteArray)]) ?_ 1 _ rfl; (with_reducible repeat (first | refine blk_drewN ?_ _ | refine blk_drew ?_ | refine blk_alloc ?_ _)); refine blk_put (cs := #[.string (⟨#[]⟩ : ByteArray), .string (⟨#[]⟩ : ByteArray), .string (⟨#[]⟩ : ByteArray), .string (⟨#[]⟩ : ByteArray), .string (⟨#[]⟩ : ByteArray)]) ?_ 0 _ rfl; (with_reducible repeat (first | refine blk_drewN ?_ _ | refine blk_drew ?_ | refine blk_alloc ?_ _)); exact BK147.out) Tryd.underlying23 rfl (by kernel_rfl)) rfl ?_
          exact ⟨by first | rfl | (simp [errW_none, errW_some] <;> rfl) | (simp [*, errW_none, errW_some] <;> rfl), by repeat (first | (with_reducible first | exact HB.out | apply below_alloc | apply pw_below_drewN | apply below_drew1 | refine below_set ?_ GE146.out | refine below_set ?_ GE147.out | refine below_set ?_ GE152.out) | exact HB.out)⟩

end Go.Proofs.YtfdgbgjbncakfaaDoor.HkyId
