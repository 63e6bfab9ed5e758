-- Laid by a program of this session (stub.py, shrink.py)
import Derived.Test.YtfdgbgjbncakfaaGIdEqualx2
namespace Go.Proofs.Ytfdgbgjbncakfaa.GIdEqual
open Go.RowKit Go.Proofs.YtfdgbgjbncakfaaW.PrintWords Go.Proofs.YtfdgbgjbncakfaaW.PrintLast Go.Proofs.YtfdgbgjbncakfaaW.PrintMore
attribute [local go_sem] max2_int min2_int max_two min_two max_three min_three max_four min_four   -- for this text's walks alone
set_option linter.unusedVariables false
set_option linter.unusedSimpArgs false
open impl_IdEqual
set_option maxHeartbeats 8000000 in
set_option maxRecDepth 100000 in
theorem impl_IdEqual.calls (a0_0 : ByteArray) (a0_1 : ByteArray) (a0_2 : ByteArray) (a0_3 : ByteArray) (a0_4 : ByteArray) (a1_0 : ByteArray) (a1_1 : ByteArray) (a1_2 : ByteArray) (a1_3 : ByteArray) (a1_4 : ByteArray) (r1 : Bool) (r2 : Bool) (r3 : Bool) (w : World) (h : impl_IdEqual.f a0_0 a0_1 a0_2 a0_3 a0_4 a1_0 a1_1 a1_2 a1_3 a1_4 = some (r1, r2, r3)) :
 Calls Try.prog 9 #[.agg #[.string a0_0, .string a0_1, .string a0_2, .string a0_3, .string a0_4], .agg #[.string a1_0, .string a1_1, .string a1_2, .string a1_3, .string a1_4]] w fun e w' => e = .returned (.tuple #[.bool r1, .bool r2, .bool r3]) ∧ Below w.heap.size w w' := by
 have hu23 := Try.underlying23
 have hu40 := Try.underlying40
 have HB := Aside0.mk (Below.refl w.heap.size w)
 have H : ((impl_id.f a0_0 a0_1 a0_2 a0_3 a0_4).bind fun bt128 => ((impl_id.f a1_0 a1_1 a1_2 a1_3 a1_4).bind fun bt134 => ((resid_ResId_Equals.f bt128.1 bt128.2.1 bt128.2.2.1 bt128.2.2.2.1 bt128.2.2.2.2.1 bt128.2.2.2.2.2 bt134.1 bt134.2.1 bt134.2.2.1 bt134.2.2.2.1 bt134.2.2.2.2.1 bt134.2.2.2.2.2).bind fun t142 => ((resid_ResId_GvknEquals.f bt128.1 bt128.2.1 bt128.2.2.1 bt128.2.2.2.1 bt128.2.2.2.2.1 bt128.2.2.2.2.2 bt134.1 bt134.2.1 bt134.2.2.1 bt134.2.2.2.1 bt134.2.2.2.2.1 bt134.2.2.2.2.2).bind fun t143 => ((resid_ResId_IsSelectedBy.f bt128.1 bt128.2.1 bt128.2.2.1 bt128.2.2.2.1 bt128.2.2.2.2.1 bt128.2.2.2.2.2 bt134.1 bt134.2.1 bt134.2.2.1 bt134.2.2.2.1 bt134.2.2.2.2.1 bt134.2.2.2.2.2).bind fun t144 => (some (t142, t143, t144))))))) = some (r1, r2, r3) := h
 clear h
 replace H := Option.bind_eq_some_iff.mp H
 obtain ⟨⟨t128, t129, t130, t131, t132, t133⟩, A30, H⟩ := H
 replace H : ((impl_id.f a1_0 a1_1 a1_2 a1_3 a1_4).bind fun bt134 => ((resid_ResId_Equals.f t128 t129 t130 t131 t132 t133 bt134.1 bt134.2.1 bt134.2.2.1 bt134.2.2.2.1 bt134.2.2.2.2.1 bt134.2.2.2.2.2).bind fun t142 => ((resid_ResId_GvknEquals.f t128 t129 t130 t131 t132 t133 bt134.1 bt134.2.1 bt134.2.2.1 bt134.2.2.2.1 bt134.2.2.2.2.1 bt134.2.2.2.2.2).bind fun t143 => ((resid_ResId_IsSelectedBy.f t128 t129 t130 t131 t132 t133 bt134.1 bt134.2.1 bt134.2.2.1 bt134.2.2.2.1 bt134.2.2.2.2.1 bt134.2.2.2.2.2).bind fun t144 => (some (t142, t143, t144)))))) = some (r1, r2, r3) := H
 have A3 := Aside0.mk A30
 clear A30
 replace H := Option.bind_eq_some_iff.mp H
 obtain ⟨⟨t134, t135, t136, t137, t138, t139⟩, A40, H⟩ := H
 replace H : ((resid_ResId_Equals.f t128 t129 t130 t131 t132 t133 t134 t135 t136 t137 t138 t139).bind fun t142 => ((resid_ResId_GvknEquals.f t128 t129 t130 t131 t132 t133 t134 t135 t136 t137 t138 t139).bind fun t143 => ((resid_ResId_IsSelectedBy.f t128 t129 t130 t131 t132 t133 t134 t135 t136 t137 t138 t139).bind fun t144 => (some (t142, t143, t144))))) = some (r1, r2, r3) := H
 have A4 := Aside0.mk A40
 clear A40
 replace H := Option.bind_eq_some_iff.mp H
 obtain ⟨t142, A50, H⟩ := H
 replace H : ((resid_ResId_GvknEquals.f t128 t129 t130 t131 t132 t133 t134 t135 t136 t137 t138 t139).bind fun t143 => ((resid_ResId_IsSelectedBy.f t128 t129 t130 t131 t132 t133 t134 t135 t136 t137 t138 t139).bind fun t144 => (some (t142, t143, t144)))) = some (r1, r2, r3) := H
 have A5 := Aside0.mk A50
 clear A50
 replace H := Option.bind_eq_some_iff.mp H
 obtain ⟨t143, A60, H⟩ := H
 replace H : ((resid_ResId_IsSelectedBy.f t128 t129 t130 t131 t132 t133 t134 t135 t136 t137 t138 t139).bind fun t144 => (some (t142, t143, t144))) = some (r1, r2, r3) := H
 have A6 := Aside0.mk A60
 clear A60
 replace H := Option.bind_eq_some_iff.mp H
 obtain ⟨t144, A70, H⟩ := H
 replace H : (some (t142, t143, t144)) = some (r1, r2, r3) := H
 have A7 := Aside0.mk A70
 clear A70
 simp only [Option.some.injEq, Prod.mk.injEq] at H
 obtain ⟨rfl, rfl, rfl⟩ := H
 go_enter Try.func9, Try.ntmps9
 try go_wp2_with (first | ((with_reducible refine gate_dst (N := 2) rfl ?_); refine box_event ?hg (N := 2) ?hd (cs := #[.string a0_0, .string a0_1, .string a0_2, .string a0_3, .string a0_4]) (t := 23) ?hr ?_; (case hd => rfl); (case hg => rfl); (case hr => first | (go_simp; done) | (go_simp; rfl)); intro gb126 hg w8 hbox hb; have n0_ := Aside0.mk (below_step (by repeat (first | (with_reducible first | exact HB.out | apply below_alloc | apply pw_below_drewN | apply below_drew1) | exact HB.out)) hb); have n1_ := Aside0.mk (hbox); have n2_ := Aside0.mk ((by rw [hg]; exact (below_size (by repeat (first | (with_reducible first | exact HB.out | apply below_alloc | apply pw_below_drewN | apply below_drew1) | exact HB.out))) : w.heap.size ≤ gb126)); have n3_ := Aside0.mk ((by rw [hg]; exact (below_size (by repeat (first | (with_reducible first | exact HB.out | apply below_alloc | apply pw_below_drewN | apply below_drew1) | exact HB.out))) : w.heap.size ≤ gb126)); clear HB; have HB := n0_; have BK126 := n1_; have GW126 := n2_; have GE126 := n3_; clear n0_ n1_ n2_ n3_; clear hb hbox hg) | ((with_reducible refine gate_dst (N := 3) rfl ?_); refine box_event ?hg (N := 3) ?hd (cs := #[.string a1_0, .string a1_1, .string a1_2, .string a1_3, .string a1_4]) (t := 23) ?hr ?_; (case hd => rfl); (case hg => rfl); (case hr => first | (go_simp; done) | (go_simp; rfl)); intro gb127 hg w9 hbox hb; have n0_ := Aside0.mk (blk_below (g := gb126) (o := .cells #[.string a0_0, .string a0_1, .string a0_2, .string a0_3, .string a0_4] 23 (0, 0)) (by (with_reducible repeat (first | refine blk_drewN ?_ _ | refine blk_drew ?_ | refine blk_alloc ?_ _)); exact BK126.out) hb); have n1_ := Aside0.mk (below_step (by repeat (first | (with_reducible first | exact HB.out | apply below_alloc | apply pw_below_drewN | apply below_drew1 | refine below_set ?_ GE126.out) | exact HB.out)) hb); have n2_ := Aside0.mk (hbox); have n3_ := Aside0.mk ((by rw [hg]; exact (below_size (by repeat (first | (with_reducible first | exact HB.out | apply below_alloc | apply pw_below_drewN | apply below_drew1 | refine below_set ?_ GE126.out) | exact HB.out))) : w.heap.size ≤ gb127)); have n4_ := Aside0.mk ((by rw [hg]; exact (below_size (by repeat (first | (with_reducible first | exact HB.out | apply below_alloc | apply pw_below_drewN | apply below_drew1 | refine below_set ?_ GE126.out) | exact HB.out))) : w.heap.size ≤ gb127)); have n5_ := Aside0.mk ((by rw [hg]; exact Nat.ne_of_lt (blk_lt (g := gb126) (o := .cells #[.string a0_0, .string a0_1, .string a0_2, .string a0_3, .string a0_4] 23 (0, 0)) (by (with_reducible repeat (first | refine blk_drewN ?_ _ | refine blk_drew ?_ | refine blk_alloc ?_ _)); exact BK126.out)) : gb126 ≠ gb127)); have n6_ := Aside0.mk ((by rw [hg]; exact Nat.ne_of_gt (blk_lt (g := gb126) (o := .cells #[.string a0_0, .string a0_1, .string a0_2, .string a0_3, .string a0_4] 23 (0, 0)) (by (with_reducible repeat (first | refine blk_drewN ?_ _ | refine blk_drew ?_ | refine blk_alloc ?_ _)); exact BK126.out)) : gb127 ≠ gb126)); clear BK126; clear HB; have BK126 := n0_; have HB := n1_; have BK127 := n2_; have GW127 := n3_; have GE127 := n4_; have NB126_127 := n5_; have NB127_126 := n6_; clear n0_ n1_ n2_ n3_ n4_ n5_ n6_; clear hb hbox hg))
 have n0_ := Aside0.mk (blk_drew BK126.out)
 have n1_ := Aside0.mk (blk_drew BK127.out)
 have n2_ := Aside0.mk (below_drew1 HB.out)
 clear BK126
 clear BK127
 clear HB
 have BK126 := n0_
 have BK127 := n1_
 have HB := n2_
 clear n0_ n1_ n2_
 refine start_ (n := 8) (S := fun w' => w'.cell? ⟨gb126, 0, none⟩ = some (.string a0_0) ∧ w'.cell? ⟨gb126, 1, none⟩ = some (.string a0_1) ∧ w'.cell? ⟨gb126, 2, none⟩ = some (.string a0_2) ∧ w'.cell? ⟨gb126, 3, none⟩ = some (.string a0_3) ∧ w'.cell? ⟨gb126, 4, none⟩ = some (.string a0_4) ∧ w'.cell? ⟨gb127, 0, none⟩ = some (.string a1_0) ∧ w'.cell? ⟨gb127, 1, none⟩ = some (.string a1_1) ∧ w'.cell? ⟨gb127, 2, none⟩ = some (.string a1_2) ∧ w'.cell? ⟨gb127, 3, none⟩ = some (.string a1_3) ∧ w'.cell? ⟨gb127, 4, none⟩ = some (.string a1_4)) (ds := []) b1_ (by kernel_rfl) rfl rfl ⟨HVia.bc BK126 0 rfl, HVia.bc BK126 1 rfl, HVia.bc BK126 2 rfl, HVia.bc BK126 3 rfl, HVia.bc BK126 4 rfl, HVia.bc BK127 0 rfl, HVia.bc BK127 1 rfl, HVia.bc BK127 2 rfl, HVia.bc BK127 3 rfl, HVia.bc BK127 4 rfl⟩ (fun hHeld => ?_); refine with_tabW impl_IdEqual.tab1 impl_IdEqual.bits1 (fun HT_ HW_ => ?_)
 generalize w9.drew = w10 at BK126 BK127 HB hHeld ⊢
 refine take_ (i := 0) (N := some 9) (v := ?_) (a' := ?_) b2_ rfl rfl (take_ofW HT_.out HW_.out (by kernel_rfl)) (fun _ _ _ h => h) (Or.inl ⟨by rfl, ?_⟩) hHeld ?_ ?_
 rotate_left
 · rintro w' ⟨s0, s1, s2, s3, s4, s5, s6, s7, s8, s9⟩
   go_simp
   with_reducible rfl
 rotate_left
 · simp only [Act.put, List.setIfInBounds_toArray, List.set_cons_zero, List.set_cons_succ, i64_w, i32_w]
   rfl
 refine HVia.tS 2 11 b3_ HT_ HW_ (by kernel_rfl) rfl rfl (fun _ _ _ h => h) hHeld (by rfl) (by rintro w' ⟨s0, s1, s2, s3, s4, s5, s6, s7, s8, s9⟩; go_simp; with_reducible rfl) (by simp only [List.set_cons_zero, List.set_cons_succ]; rfl) ?_
 refine join_ (σ := Nat × Nat) 2 b4_ (fun s_ => [(10, .agg #[.string t128, .string t129, .string t130, .bool t131, .string t132, .string t133]), (12, .agg #[.string t134, .string t135, .string t136, .bool t137, .string t138, .string t139]), (7, .pointer (some ⟨s_.1, 0, none⟩)), (8, .pointer (some ⟨s_.2, 0, none⟩))]) (fun s_ w' => (w'.cell? ⟨gb126, 0, none⟩ = some (.string a0_0) ∧ w'.cell? ⟨gb126, 1, none⟩ = some (.string a0_1) ∧ w'.cell? ⟨gb126, 2, none⟩ = some (.string a0_2) ∧ w'.cell? ⟨gb126, 3, none⟩ = some (.string a0_3) ∧ w'.cell? ⟨gb126, 4, none⟩ = some (.string a0_4) ∧ w'.cell? ⟨gb127, 0, none⟩ = some (.string a1_0) ∧ w'.cell? ⟨gb127, 1, none⟩ = some (.string a1_1) ∧ w'.cell? ⟨gb127, 2, none⟩ = some (.string a1_2) ∧ w'.cell? ⟨gb127, 3, none⟩ = some (.string a1_3) ∧ w'.cell? ⟨gb127, 4, none⟩ = some (.string a1_4)) ∧ (w'.heap[gb126]? = some (.cells #[.string a0_0, .string a0_1, .string a0_2, .string a0_3, .string a0_4] 23 (0, 0))) ∧ (w'.heap[gb127]? = some (.cells #[.string a1_0, .string a1_1, .string a1_2, .string a1_3, .string a1_4] 23 (0, 0))) ∧ (w'.heap[s_.1]? = some (.cells #[.string (⟨#[]⟩ : ByteArray), .string (⟨#[]⟩ : ByteArray), .string (⟨#[]⟩ : ByteArray), .bool false, .string (⟨#[]⟩ : ByteArray), .string (⟨#[]⟩ : ByteArray)] 40 (0, 0))) ∧ (w'.heap[s_.2]? = some (.cells #[.string (⟨#[]⟩ : ByteArray), .string (⟨#[]⟩ : ByteArray), .string (⟨#[]⟩ : ByteArray), .bool false, .string (⟨#[]⟩ : ByteArray), .string (⟨#[]⟩ : ByteArray)] 40 (0, 0))) ∧ (w.heap.size ≤ s_.1) ∧ (w.heap.size ≤ s_.1) ∧ (gb126 ≠ s_.1) ∧ (s_.1 ≠ gb126) ∧ (gb127 ≠ s_.1) ∧ (s_.1 ≠ gb127) ∧ (s_.2 ≠ s_.1) ∧ (s_.1 ≠ s_.2) ∧ (w.heap.size ≤ s_.2) ∧ (w.heap.size ≤ s_.2) ∧ (gb126 ≠ s_.2) ∧ (s_.2 ≠ gb126) ∧ (gb127 ≠ s_.2) ∧ (s_.2 ≠ gb127) ∧ (Below w.heap.size w w')) ?_ ?_
 rotate_left
 · intro hJ1_3_4_5
   refine join_ (σ := Nat) 3 b5_ (fun s_ => [(10, .agg #[.string t128, .string t129, .string t130, .bool t131, .string t132, .string t133]), (12, .agg #[.string t134, .string t135, .string t136, .bool t137, .string t138, .string t139]), (7, .pointer (some ⟨s_, 0, none⟩))]) (fun s_ w' => (w'.cell? ⟨gb126, 0, none⟩ = some (.string a0_0) ∧ w'.cell? ⟨gb126, 1, none⟩ = some (.string a0_1) ∧ w'.cell? ⟨gb126, 2, none⟩ = some (.string a0_2) ∧ w'.cell? ⟨gb126, 3, none⟩ = some (.string a0_3) ∧ w'.cell? ⟨gb126, 4, none⟩ = some (.string a0_4) ∧ w'.cell? ⟨gb127, 0, none⟩ = some (.string a1_0) ∧ w'.cell? ⟨gb127, 1, none⟩ = some (.string a1_1) ∧ w'.cell? ⟨gb127, 2, none⟩ = some (.string a1_2) ∧ w'.cell? ⟨gb127, 3, none⟩ = some (.string a1_3) ∧ w'.cell? ⟨gb127, 4, none⟩ = some (.string a1_4)) ∧ (w'.heap[gb126]? = some (.cells #[.string a0_0, .string a0_1, .string a0_2, .string a0_3, .string a0_4] 23 (0, 0))) ∧ (w'.heap[gb127]? = some (.cells #[.string a1_0, .string a1_1, .string a1_2, .string a1_3, .string a1_4] 23 (0, 0))) ∧ (w'.heap[s_]? = some (.cells #[.string (⟨#[]⟩ : ByteArray), .string (⟨#[]⟩ : ByteArray), .string (⟨#[]⟩ : ByteArray), .bool false, .string (⟨#[]⟩ : ByteArray), .string (⟨#[]⟩ : ByteArray)] 40 (0, 0))) ∧ (w.heap.size ≤ s_) ∧ (w.heap.size ≤ s_) ∧ (gb126 ≠ s_) ∧ (s_ ≠ gb126) ∧ (gb127 ≠ s_) ∧ (s_ ≠ gb127) ∧ (Below w.heap.size w w')) ?_ ?_
   rotate_left
   · intro hJ1_3_4
     refine join_ (σ := Nat) 3 b6_ (fun s_ => [(10, .agg #[.string t128, .string t129, .string t130, .bool t131, .string t132, .string t133]), (12, .agg #[.string t134, .string t135, .string t136, .bool t137, .string t138, .string t139]), (8, .pointer (some ⟨s_, 0, none⟩))]) (fun s_ w' => (w'.cell? ⟨gb126, 0, none⟩ = some (.string a0_0) ∧ w'.cell? ⟨gb126, 1, none⟩ = some (.string a0_1) ∧ w'.cell? ⟨gb126, 2, none⟩ = some (.string a0_2) ∧ w'.cell? ⟨gb126, 3, none⟩ = some (.string a0_3) ∧ w'.cell? ⟨gb126, 4, none⟩ = some (.string a0_4) ∧ w'.cell? ⟨gb127, 0, none⟩ = some (.string a1_0) ∧ w'.cell? ⟨gb127, 1, none⟩ = some (.string a1_1) ∧ w'.cell? ⟨gb127, 2, none⟩ = some (.string a1_2) ∧ w'.cell? ⟨gb127, 3, none⟩ = some (.string a1_3) ∧ w'.cell? ⟨gb127, 4, none⟩ = some (.string a1_4)) ∧ (w'.heap[gb126]? = some (.cells #[.string a0_0, .string a0_1, .string a0_2, .string a0_3, .string a0_4] 23 (0, 0))) ∧ (w'.heap[gb127]? = some (.cells #[.string a1_0, .string a1_1, .string a1_2, .string a1_3, .string a1_4] 23 (0, 0))) ∧ (w'.heap[s_]? = some (.cells #[.string (⟨#[]⟩ : ByteArray), .string (⟨#[]⟩ : ByteArray), .string (⟨#[]⟩ : ByteArray), .bool false, .string (⟨#[]⟩ : ByteArray), .string (⟨#[]⟩ : ByteArray)] 40 (0, 0))) ∧ (w.heap.size ≤ s_) ∧ (w.heap.size ≤ s_) ∧ (gb126 ≠ s_) ∧ (s_ ≠ gb126) ∧ (gb127 ≠ s_) ∧ (s_ ≠ gb127) ∧ (Below w.heap.size w w')) ?_ ?_
     rotate_left
     · intro hJ1_3_5
       refine join_ (σ := Nat × Nat) 3 b7_ (fun s_ => [(10, .agg #[.string t128, .string t129, .string t130, .bool t131, .string t132, .string t133]), (7, .pointer (some ⟨s_.1, 0, none⟩)), (8, .pointer (some ⟨s_.2, 0, none⟩))]) (fun s_ w' => (w'.cell? ⟨gb126, 0, none⟩ = some (.string a0_0) ∧ w'.cell? ⟨gb126, 1, none⟩ = some (.string a0_1) ∧ w'.cell? ⟨gb126, 2, none⟩ = some (.string a0_2) ∧ w'.cell? ⟨gb126, 3, none⟩ = some (.string a0_3) ∧ w'.cell? ⟨gb126, 4, none⟩ = some (.string a0_4) ∧ w'.cell? ⟨gb127, 0, none⟩ = some (.string a1_0) ∧ w'.cell? ⟨gb127, 1, none⟩ = some (.string a1_1) ∧ w'.cell? ⟨gb127, 2, none⟩ = some (.string a1_2) ∧ w'.cell? ⟨gb127, 3, none⟩ = some (.string a1_3) ∧ w'.cell? ⟨gb127, 4, none⟩ = some (.string a1_4)) ∧ (w'.heap[gb126]? = some (.cells #[.string a0_0, .string a0_1, .string a0_2, .string a0_3, .string a0_4] 23 (0, 0))) ∧ (w'.heap[gb127]? = some (.cells #[.string a1_0, .string a1_1, .string a1_2, .string a1_3, .string a1_4] 23 (0, 0))) ∧ (w'.heap[s_.1]? = some (.cells #[.string (⟨#[]⟩ : ByteArray), .string (⟨#[]⟩ : ByteArray), .string (⟨#[]⟩ : ByteArray), .bool false, .string (⟨#[]⟩ : ByteArray), .string (⟨#[]⟩ : ByteArray)] 40 (0, 0))) ∧ (w'.heap[s_.2]? = some (.cells #[.string (⟨#[]⟩ : ByteArray), .string (⟨#[]⟩ : ByteArray), .string (⟨#[]⟩ : ByteArray), .bool false, .string (⟨#[]⟩ : ByteArray), .string (⟨#[]⟩ : ByteArray)] 40 (0, 0))) ∧ (w.heap.size ≤ s_.1) ∧ (w.heap.size ≤ s_.1) ∧ (gb126 ≠ s_.1) ∧ (s_.1 ≠ gb126) ∧ (gb127 ≠ s_.1) ∧ (s_.1 ≠ gb127) ∧ (s_.2 ≠ s_.1) ∧ (s_.1 ≠ s_.2) ∧ (w.heap.size ≤ s_.2) ∧ (w.heap.size ≤ s_.2) ∧ (gb126 ≠ s_.2) ∧ (s_.2 ≠ gb126) ∧ (gb127 ≠ s_.2) ∧ (s_.2 ≠ gb127) ∧ (Below w.heap.size w w')) ?_ ?_
       rotate_left
       · intro hJ1_4_5
         refine join_ (σ := Unit) 4 b8_ (fun s_ => [(10, .agg #[.string t128, .string t129, .string t130, .bool t131, .string t132, .string t133]), (12, .agg #[.string t134, .string t135, .string t136, .bool t137, .string t138, .string t139])]) (fun s_ w' => (w'.cell? ⟨gb126, 0, none⟩ = some (.string a0_0) ∧ w'.cell? ⟨gb126, 1, none⟩ = some (.string a0_1) ∧ w'.cell? ⟨gb126, 2, none⟩ = some (.string a0_2) ∧ w'.cell? ⟨gb126, 3, none⟩ = some (.string a0_3) ∧ w'.cell? ⟨gb126, 4, none⟩ = some (.string a0_4) ∧ w'.cell? ⟨gb127, 0, none⟩ = some (.string a1_0) ∧ w'.cell? ⟨gb127, 1, none⟩ = some (.string a1_1) ∧ w'.cell? ⟨gb127, 2, none⟩ = some (.string a1_2) ∧ w'.cell? ⟨gb127, 3, none⟩ = some (.string a1_3) ∧ w'.cell? ⟨gb127, 4, none⟩ = some (.string a1_4)) ∧ (w'.heap[gb126]? = some (.cells #[.string a0_0, .string a0_1, .string a0_2, .string a0_3, .string a0_4] 23 (0, 0))) ∧ (w'.heap[gb127]? = some (.cells #[.string a1_0, .string a1_1, .string a1_2, .string a1_3, .string a1_4] 23 (0, 0))) ∧ (Below w.heap.size w w')) ?_ ?_
         rotate_left
         · intro hJ1_3
           refine join_ (σ := Nat) 4 b9_ (fun s_ => [(10, .agg #[.string t128, .string t129, .string t130, .bool t131, .string t132, .string t133]), (7, .pointer (some ⟨s_, 0, none⟩))]) (fun s_ w' => (w'.cell? ⟨gb126, 0, none⟩ = some (.string a0_0) ∧ w'.cell? ⟨gb126, 1, none⟩ = some (.string a0_1) ∧ w'.cell? ⟨gb126, 2, none⟩ = some (.string a0_2) ∧ w'.cell? ⟨gb126, 3, none⟩ = some (.string a0_3) ∧ w'.cell? ⟨gb126, 4, none⟩ = some (.string a0_4) ∧ w'.cell? ⟨gb127, 0, none⟩ = some (.string a1_0) ∧ w'.cell? ⟨gb127, 1, none⟩ = some (.string a1_1) ∧ w'.cell? ⟨gb127, 2, none⟩ = some (.string a1_2) ∧ w'.cell? ⟨gb127, 3, none⟩ = some (.string a1_3) ∧ w'.cell? ⟨gb127, 4, none⟩ = some (.string a1_4)) ∧ (w'.heap[gb126]? = some (.cells #[.string a0_0, .string a0_1, .string a0_2, .string a0_3, .string a0_4] 23 (0, 0))) ∧ (w'.heap[gb127]? = some (.cells #[.string a1_0, .string a1_1, .string a1_2, .string a1_3, .string a1_4] 23 (0, 0))) ∧ (w'.heap[s_]? = some (.cells #[.string (⟨#[]⟩ : ByteArray), .string (⟨#[]⟩ : ByteArray), .string (⟨#[]⟩ : ByteArray), .bool false, .string (⟨#[]⟩ : ByteArray), .string (⟨#[]⟩ : ByteArray)] 40 (0, 0))) ∧ (w.heap.size ≤ s_) ∧ (w.heap.size ≤ s_) ∧ (gb126 ≠ s_) ∧ (s_ ≠ gb126) ∧ (gb127 ≠ s_) ∧ (s_ ≠ gb127) ∧ (Below w.heap.size w w')) ?_ ?_
           rotate_left
           · intro hJ1_4
             refine join_ (σ := Nat) 4 b10_ (fun s_ => [(10, .agg #[.string t128, .string t129, .string t130, .bool t131, .string t132, .string t133]), (8, .pointer (some ⟨s_, 0, none⟩))]) (fun s_ w' => (w'.cell? ⟨gb126, 0, none⟩ = some (.string a0_0) ∧ w'.cell? ⟨gb126, 1, none⟩ = some (.string a0_1) ∧ w'.cell? ⟨gb126, 2, none⟩ = some (.string a0_2) ∧ w'.cell? ⟨gb126, 3, none⟩ = some (.string a0_3) ∧ w'.cell? ⟨gb126, 4, none⟩ = some (.string a0_4) ∧ w'.cell? ⟨gb127, 0, none⟩ = some (.string a1_0) ∧ w'.cell? ⟨gb127, 1, none⟩ = some (.string a1_1) ∧ w'.cell? ⟨gb127, 2, none⟩ = some (.string a1_2) ∧ w'.cell? ⟨gb127, 3, none⟩ = some (.string a1_3) ∧ w'.cell? ⟨gb127, 4, none⟩ = some (.string a1_4)) ∧ (w'.heap[gb126]? = some (.cells #[.string a0_0, .string a0_1, .string a0_2, .string a0_3, .string a0_4] 23 (0, 0))) ∧ (w'.heap[gb127]? = some (.cells #[.string a1_0, .string a1_1, .string a1_2, .string a1_3, .string a1_4] 23 (0, 0))) ∧ (w'.heap[s_]? = some (.cells #[.string (⟨#[]⟩ : ByteArray), .string (⟨#[]⟩ : ByteArray), .string (⟨#[]⟩ : ByteArray), .bool false, .string (⟨#[]⟩ : ByteArray), .string (⟨#[]⟩ : ByteArray)] 40 (0, 0))) ∧ (w.heap.size ≤ s_) ∧ (w.heap.size ≤ s_) ∧ (gb126 ≠ s_) ∧ (s_ ≠ gb126) ∧ (gb127 ≠ s_) ∧ (s_ ≠ gb127) ∧ (Below w.heap.size w w')) ?_ ?_
             rotate_left
             · intro hJ1_5
               refine join_ (σ := Nat × Nat) 4 b11_ (fun s_ => [(7, .pointer (some ⟨s_.1, 0, none⟩)), (8, .pointer (some ⟨s_.2, 0, none⟩))]) (fun s_ w' => (w'.cell? ⟨gb126, 0, none⟩ = some (.string a0_0) ∧ w'.cell? ⟨gb126, 1, none⟩ = some (.string a0_1) ∧ w'.cell? ⟨gb126, 2, none⟩ = some (.string a0_2) ∧ w'.cell? ⟨gb126, 3, none⟩ = some (.string a0_3) ∧ w'.cell? ⟨gb126, 4, none⟩ = some (.string a0_4) ∧ w'.cell? ⟨gb127, 0, none⟩ = some (.string a1_0) ∧ w'.cell? ⟨gb127, 1, none⟩ = some (.string a1_1) ∧ w'.cell? ⟨gb127, 2, none⟩ = some (.string a1_2) ∧ w'.cell? ⟨gb127, 3, none⟩ = some (.string a1_3) ∧ w'.cell? ⟨gb127, 4, none⟩ = some (.string a1_4)) ∧ (w'.heap[gb126]? = some (.cells #[.string a0_0, .string a0_1, .string a0_2, .string a0_3, .string a0_4] 23 (0, 0))) ∧ (w'.heap[gb127]? = some (.cells #[.string a1_0, .string a1_1, .string a1_2, .string a1_3, .string a1_4] 23 (0, 0))) ∧ (w'.heap[s_.1]? = some (.cells #[.string (⟨#[]⟩ : ByteArray), .string (⟨#[]⟩ : ByteArray), .string (⟨#[]⟩ : ByteArray), .bool false, .string (⟨#[]⟩ : ByteArray), .string (⟨#[]⟩ : ByteArray)] 40 (0, 0))) ∧ (w'.heap[s_.2]? = some (.cells #[.string (⟨#[]⟩ : ByteArray), .string (⟨#[]⟩ : ByteArray), .string (⟨#[]⟩ : ByteArray), .bool false, .string (⟨#[]⟩ : ByteArray), .string (⟨#[]⟩ : ByteArray)] 40 (0, 0))) ∧ (w.heap.size ≤ s_.1) ∧ (w.heap.size ≤ s_.1) ∧ (gb126 ≠ s_.1) ∧ (s_.1 ≠ gb126) ∧ (gb127 ≠ s_.1) ∧ (s_.1 ≠ gb127) ∧ (s_.2 ≠ s_.1) ∧ (s_.1 ≠ s_.2) ∧ (w.heap.size ≤ s_.2) ∧ (w.heap.size ≤ s_.2) ∧ (gb126 ≠ s_.2) ∧ (s_.2 ≠ gb126) ∧ (gb127 ≠ s_.2) ∧ (s_.2 ≠ gb127) ∧ (Below w.heap.size w w')) ?_ ?_
               rotate_left
               · intro hJ4_5
                 refine join_ (σ := Unit) 5 b12_ (fun s_ => [(10, .agg #[.string t128, .string t129, .string t130, .bool t131, .string t132, .string t133])]) (fun s_ w' => (w'.cell? ⟨gb126, 0, none⟩ = some (.string a0_0) ∧ w'.cell? ⟨gb126, 1, none⟩ = some (.string a0_1) ∧ w'.cell? ⟨gb126, 2, none⟩ = some (.string a0_2) ∧ w'.cell? ⟨gb126, 3, none⟩ = some (.string a0_3) ∧ w'.cell? ⟨gb126, 4, none⟩ = some (.string a0_4) ∧ w'.cell? ⟨gb127, 0, none⟩ = some (.string a1_0) ∧ w'.cell? ⟨gb127, 1, none⟩ = some (.string a1_1) ∧ w'.cell? ⟨gb127, 2, none⟩ = some (.string a1_2) ∧ w'.cell? ⟨gb127, 3, none⟩ = some (.string a1_3) ∧ w'.cell? ⟨gb127, 4, none⟩ = some (.string a1_4)) ∧ (w'.heap[gb126]? = some (.cells #[.string a0_0, .string a0_1, .string a0_2, .string a0_3, .string a0_4] 23 (0, 0))) ∧ (w'.heap[gb127]? = some (.cells #[.string a1_0, .string a1_1, .string a1_2, .string a1_3, .string a1_4] 23 (0, 0))) ∧ (Below w.heap.size w w')) ?_ ?_
                 rotate_left
                 · intro hJ1
                   refine join_ (σ := Nat) 5 b13_ (fun s_ => [(7, .pointer (some ⟨s_, 0, none⟩))]) (fun s_ w' => (w'.cell? ⟨gb126, 0, none⟩ = some (.string a0_0) ∧ w'.cell? ⟨gb126, 1, none⟩ = some (.string a0_1) ∧ w'.cell? ⟨gb126, 2, none⟩ = some (.string a0_2) ∧ w'.cell? ⟨gb126, 3, none⟩ = some (.string a0_3) ∧ w'.cell? ⟨gb126, 4, none⟩ = some (.string a0_4) ∧ w'.cell? ⟨gb127, 0, none⟩ = some (.string a1_0) ∧ w'.cell? ⟨gb127, 1, none⟩ = some (.string a1_1) ∧ w'.cell? ⟨gb127, 2, none⟩ = some (.string a1_2) ∧ w'.cell? ⟨gb127, 3, none⟩ = some (.string a1_3) ∧ w'.cell? ⟨gb127, 4, none⟩ = some (.string a1_4)) ∧ (w'.heap[gb126]? = some (.cells #[.string a0_0, .string a0_1, .string a0_2, .string a0_3, .string a0_4] 23 (0, 0))) ∧ (w'.heap[gb127]? = some (.cells #[.string a1_0, .string a1_1, .string a1_2, .string a1_3, .string a1_4] 23 (0, 0))) ∧ (w'.heap[s_]? = some (.cells #[.string (⟨#[]⟩ : ByteArray), .string (⟨#[]⟩ : ByteArray), .string (⟨#[]⟩ : ByteArray), .bool false, .string (⟨#[]⟩ : ByteArray), .string (⟨#[]⟩ : ByteArray)] 40 (0, 0))) ∧ (w.heap.size ≤ s_) ∧ (w.heap.size ≤ s_) ∧ (gb126 ≠ s_) ∧ (s_ ≠ gb126) ∧ (gb127 ≠ s_) ∧ (s_ ≠ gb127) ∧ (Below w.heap.size w w')) ?_ ?_
                   rotate_left
                   · intro hJ4
                     refine join_ (σ := Nat) 5 b14_ (fun s_ => [(8, .pointer (some ⟨s_, 0, none⟩))]) (fun s_ w' => (w'.cell? ⟨gb126, 0, none⟩ = some (.string a0_0) ∧ w'.cell? ⟨gb126, 1, none⟩ = some (.string a0_1) ∧ w'.cell? ⟨gb126, 2, none⟩ = some (.string a0_2) ∧ w'.cell? ⟨gb126, 3, none⟩ = some (.string a0_3) ∧ w'.cell? ⟨gb126, 4, none⟩ = some (.string a0_4) ∧ w'.cell? ⟨gb127, 0, none⟩ = some (.string a1_0) ∧ w'.cell? ⟨gb127, 1, none⟩ = some (.string a1_1) ∧ w'.cell? ⟨gb127, 2, none⟩ = some (.string a1_2) ∧ w'.cell? ⟨gb127, 3, none⟩ = some (.string a1_3) ∧ w'.cell? ⟨gb127, 4, none⟩ = some (.string a1_4)) ∧ (w'.heap[gb126]? = some (.cells #[.string a0_0, .string a0_1, .string a0_2, .string a0_3, .string a0_4] 23 (0, 0))) ∧ (w'.heap[gb127]? = some (.cells #[.string a1_0, .string a1_1, .string a1_2, .string a1_3, .string a1_4] 23 (0, 0))) ∧ (w'.heap[s_]? = some (.cells #[.string (⟨#[]⟩ : ByteArray), .string (⟨#[]⟩ : ByteArray), .string (⟨#[]⟩ : ByteArray), .bool false, .string (⟨#[]⟩ : ByteArray), .string (⟨#[]⟩ : ByteArray)] 40 (0, 0))) ∧ (w.heap.size ≤ s_) ∧ (w.heap.size ≤ s_) ∧ (gb126 ≠ s_) ∧ (s_ ≠ gb126) ∧ (gb127 ≠ s_) ∧ (s_ ≠ gb127) ∧ (Below w.heap.size w w')) ?_ ?_
                     rotate_left
                     · intro hJ5
                       refine three_ (i := 1) (j := 4) (k := 5) (Ni := some 10) (Nj := some 7) (Nk := some 8) b12_ b13_ b14_ rfl rfl rfl rfl rfl rfl (three_of HT_.out (by kernel_rfl)) (by decide) (by decide) (by decide) (fun K hK => ?_) (fun K hK => ?_) (fun K hK => ?_)
                       · skip
                         refine goes_ Try.func16 (by kernel_rfl) rfl #[.agg #[.string a0_0, .string a0_1, .string a0_2, .string a0_3, .string a0_4]] (by rfl) rfl rfl (by (try simp only [List.map_toArray, List.map_cons, List.map_nil]); first | done | rfl | (simp only [List.length_drop, List.length_take]; rfl)) ?_
                         with_reducible refine (impl_id.calls a0_0 a0_1 a0_2 a0_3 a0_4 t128 t129 t130 t131 t132 t133 _ A3.out).mono ?_
                         rintro e w11 ⟨rfl, hb⟩
                         refine ⟨_, rfl, ?_⟩
                         have n0_ := Aside0.mk (blk_below (g := gb126) (o := .cells #[.string a0_0, .string a0_1, .string a0_2, .string a0_3, .string a0_4] 23 (0, 0)) (by (with_reducible repeat (first | refine blk_drewN ?_ _ | refine blk_drew ?_ | refine blk_alloc ?_ _)); exact BK126.out) hb)
                         have n1_ := Aside0.mk (blk_below (g := gb127) (o := .cells #[.string a1_0, .string a1_1, .string a1_2, .string a1_3, .string a1_4] 23 (0, 0)) (by (with_reducible repeat (first | refine blk_drewN ?_ _ | refine blk_drew ?_ | refine blk_alloc ?_ _)); exact BK127.out) hb)
                         have n2_ := Aside0.mk (below_step (by repeat (first | (with_reducible first | exact HB.out | apply below_alloc | apply pw_below_drewN | apply below_drew1 | refine below_set ?_ GE126.out | refine below_set ?_ GE127.out) | exact HB.out)) hb)
                         clear BK126
                         clear BK127
                         clear HB
                         have BK126 := n0_
                         have BK127 := n1_
                         have HB := n2_
                         clear n0_ n1_ n2_
                         (try clear hb)
                         (try clear hb2)
                         (try clear hk)
                         (try clear hi)
                         refine hK.out _ _ ⟨HVia.bc BK126 0 rfl, HVia.bc BK126 1 rfl, HVia.bc BK126 2 rfl, HVia.bc BK126 3 rfl, HVia.bc BK126 4 rfl, HVia.bc BK127 0 rfl, HVia.bc BK127 1 rfl, HVia.bc BK127 2 rfl, HVia.bc BK127 3 rfl, HVia.bc BK127 4 rfl⟩ (fun hHeld => ?_)
                         clear hK K
                         refine norm_ (a' := ?_) ?_ ?_
                         rotate_left
                         · show Act.put _ (some 10) _ = _
                           simp only [Act.put, List.setIfInBounds_toArray, List.set_cons_zero, List.set_cons_succ, i64_w, i32_w]
                           rfl
                         exact norm_ (by first | (simp only [putAll, Act.put, List.setIfInBounds_toArray, List.set_cons_zero, List.set_cons_succ]; done) | (simp only [putAll, Act.put, List.setIfInBounds_toArray, List.set_cons_zero, List.set_cons_succ]; rfl)) (hJ1 () _ ⟨hHeld, (by (with_reducible repeat (first | refine blk_drewN ?_ _ | refine blk_drew ?_ | refine blk_alloc ?_ _)); exact BK126.out), (by (with_reducible repeat (first | refine blk_drewN ?_ _ | refine blk_drew ?_ | refine blk_alloc ?_ _)); exact BK127.out), (by repeat (first | (with_reducible first | exact HB.out | apply below_alloc | apply pw_below_drewN | apply below_drew1 | refine below_set ?_ GE126.out | refine below_set ?_ GE127.out) | exact HB.out))⟩)
                       · skip
                         refine box_step ?hg (N := 7) ?hd (cs := #[.string (⟨#[]⟩ : ByteArray), .string (⟨#[]⟩ : ByteArray), .string (⟨#[]⟩ : ByteArray), .bool false, .string (⟨#[]⟩ : ByteArray), .string (⟨#[]⟩ : ByteArray)]) (t := 40) ?hr ?_; (case hd => rfl); (case hg => rfl); (case hr => first | (go_simp; done) | (go_simp; rfl))
                         intro gb140 hg w11 hbox hb
                         have n0_ := Aside0.mk (blk_below (g := gb126) (o := .cells #[.string a0_0, .string a0_1, .string a0_2, .string a0_3, .string a0_4] 23 (0, 0)) (by (with_reducible repeat (first | refine blk_drewN ?_ _ | refine blk_drew ?_ | refine blk_alloc ?_ _)); exact BK126.out) hb)
                         have n1_ := Aside0.mk (blk_below (g := gb127) (o := .cells #[.string a1_0, .string a1_1, .string a1_2, .string a1_3, .string a1_4] 23 (0, 0)) (by (with_reducible repeat (first | refine blk_drewN ?_ _ | refine blk_drew ?_ | refine blk_alloc ?_ _)); exact BK127.out) hb)
                         have n2_ := Aside0.mk (below_step (by repeat (first | (with_reducible first | exact HB.out | apply below_alloc | apply pw_below_drewN | apply below_drew1 | refine below_set ?_ GE126.out | refine below_set ?_ GE127.out) | exact HB.out)) hb)
                         have n3_ := Aside0.mk (hbox)
                         have n4_ := Aside0.mk ((by rw [hg]; exact (below_size (by repeat (first | (with_reducible first | exact HB.out | apply below_alloc | apply pw_below_drewN | apply below_drew1 | refine below_set ?_ GE126.out | refine below_set ?_ GE127.out) | exact HB.out))) : w.heap.size ≤ gb140))
                         have n5_ := Aside0.mk ((by rw [hg]; exact (below_size (by repeat (first | (with_reducible first | exact HB.out | apply below_alloc | apply pw_below_drewN | apply below_drew1 | refine below_set ?_ GE126.out | refine below_set ?_ GE127.out) | exact HB.out))) : w.heap.size ≤ gb140))
                         have n6_ := Aside0.mk ((by rw [hg]; exact Nat.ne_of_lt (blk_lt (g := gb126) (o := .cells #[.string a0_0, .string a0_1, .string a0_2, .string a0_3, .string a0_4] 23 (0, 0)) (by (with_reducible repeat (first | refine blk_drewN ?_ _ | refine blk_drew ?_ | refine blk_alloc ?_ _)); exact BK126.out)) : gb126 ≠ gb140))
                         have n7_ := Aside0.mk ((by rw [hg]; exact Nat.ne_of_gt (blk_lt (g := gb126) (o := .cells #[.string a0_0, .string a0_1, .string a0_2, .string a0_3, .string a0_4] 23 (0, 0)) (by (with_reducible repeat (first | refine blk_drewN ?_ _ | refine blk_drew ?_ | refine blk_alloc ?_ _)); exact BK126.out)) : gb140 ≠ gb126))
                         have n8_ := Aside0.mk ((by rw [hg]; exact Nat.ne_of_lt (blk_lt (g := gb127) (o := .cells #[.string a1_0, .string a1_1, .string a1_2, .string a1_3, .string a1_4] 23 (0, 0)) (by (with_reducible repeat (first | refine blk_drewN ?_ _ | refine blk_drew ?_ | refine blk_alloc ?_ _)); exact BK127.out)) : gb127 ≠ gb140))
                         have n9_ := Aside0.mk ((by rw [hg]; exact Nat.ne_of_gt (blk_lt (g := gb127) (o := .cells #[.string a1_0, .string a1_1, .string a1_2, .string a1_3, .string a1_4] 23 (0, 0)) (by (with_reducible repeat (first | refine blk_drewN ?_ _ | refine blk_drew ?_ | refine blk_alloc ?_ _)); exact BK127.out)) : gb140 ≠ gb127))
                         clear BK126
                         clear BK127
                         clear HB
                         have BK126 := n0_
                         have BK127 := n1_
                         have HB := n2_
                         have BK140 := n3_
                         have GW140 := n4_
                         have GE140 := n5_
                         have NB126_140 := n6_
                         have NB140_126 := n7_
                         have NB127_140 := n8_
                         have NB140_127 := n9_
                         clear n0_ n1_ n2_ n3_ n4_ n5_ n6_ n7_ n8_ n9_
                         clear hb hbox hg
                         refine hK.out _ _ ⟨HVia.bc BK126 0 rfl, HVia.bc BK126 1 rfl, HVia.bc BK126 2 rfl, HVia.bc BK126 3 rfl, HVia.bc BK126 4 rfl, HVia.bc BK127 0 rfl, HVia.bc BK127 1 rfl, HVia.bc BK127 2 rfl, HVia.bc BK127 3 rfl, HVia.bc BK127 4 rfl⟩ (fun hHeld => ?_)
                         clear hK K
                         refine norm_ (a' := ?_) ?_ ?_
                         rotate_left
                         · show Act.put _ (some 7) _ = _
                           simp only [Act.put, List.setIfInBounds_toArray, List.set_cons_zero, List.set_cons_succ, i64_w, i32_w]
                           rfl
                         exact norm_ (by first | (simp only [putAll, Act.put, List.setIfInBounds_toArray, List.set_cons_zero, List.set_cons_succ]; done) | (simp only [putAll, Act.put, List.setIfInBounds_toArray, List.set_cons_zero, List.set_cons_succ]; rfl)) (hJ4 (gb140) _ ⟨hHeld, (by (with_reducible repeat (first | refine blk_drewN ?_ _ | refine blk_drew ?_ | refine blk_alloc ?_ _)); exact BK126.out), (by (with_reducible repeat (first | refine blk_drewN ?_ _ | refine blk_drew ?_ | refine blk_alloc ?_ _)); exact BK127.out), (by (with_reducible repeat (first | refine blk_drewN ?_ _ | refine blk_drew ?_ | refine blk_alloc ?_ _)); exact BK140.out), GW140.out, GE140.out, NB126_140.out, NB140_126.out, NB127_140.out, NB140_127.out, (by repeat (first | (with_reducible first | exact HB.out | apply below_alloc | apply pw_below_drewN | apply below_drew1 | refine below_set ?_ GE126.out | refine below_set ?_ GE127.out | refine below_set ?_ GE140.out) | exact HB.out))⟩)
                       · skip
                         refine box_step ?hg (N := 8) ?hd (cs := #[.string (⟨#[]⟩ : ByteArray), .string (⟨#[]⟩ : ByteArray), .string (⟨#[]⟩ : ByteArray), .bool false, .string (⟨#[]⟩ : ByteArray), .string (⟨#[]⟩ : ByteArray)]) (t := 40) ?hr ?_; (case hd => rfl); (case hg => rfl); (case hr => first | (go_simp; done) | (go_simp; rfl))
                         intro gb141 hg w11 hbox hb
                         have n0_ := Aside0.mk (blk_below (g := gb126) (o := .cells #[.string a0_0, .string a0_1, .string a0_2, .string a0_3, .string a0_4] 23 (0, 0)) (by (with_reducible repeat (first | refine blk_drewN ?_ _ | refine blk_drew ?_ | refine blk_alloc ?_ _)); exact BK126.out) hb)
                         have n1_ := Aside0.mk (blk_below (g := gb127) (o := .cells #[.string a1_0, .string a1_1, .string a1_2, .string a1_3, .string a1_4] 23 (0, 0)) (by (with_reducible repeat (first | refine blk_drewN ?_ _ | refine blk_drew ?_ | refine blk_alloc ?_ _)); exact BK127.out) hb)
                         have n2_ := Aside0.mk (below_step (by repeat (first | (with_reducible first | exact HB.out | apply below_alloc | apply pw_below_drewN | apply below_drew1 | refine below_set ?_ GE126.out | refine below_set ?_ GE127.out) | exact HB.out)) hb)
                         have n3_ := Aside0.mk (hbox)
                         have n4_ := Aside0.mk ((by rw [hg]; exact (below_size (by repeat (first | (with_reducible first | exact HB.out | apply below_alloc | apply pw_below_drewN | apply below_drew1 | refine below_set ?_ GE126.out | refine below_set ?_ GE127.out) | exact HB.out))) : w.heap.size ≤ gb141))
                         have n5_ := Aside0.mk ((by rw [hg]; exact (below_size (by repeat (first | (with_reducible first | exact HB.out | apply below_alloc | apply pw_below_drewN | apply below_drew1 | refine below_set ?_ GE126.out | refine below_set ?_ GE127.out) | exact HB.out))) : w.heap.size ≤ gb141))
                         have n6_ := Aside0.mk ((by rw [hg]; exact Nat.ne_of_lt (blk_lt (g := gb126) (o := .cells #[.string a0_0, .string a0_1, .string a0_2, .string a0_3, .string a0_4] 23 (0, 0)) (by (with_reducible repeat (first | refine blk_drewN ?_ _ | refine blk_drew ?_ | refine blk_alloc ?_ _)); exact BK126.out)) : gb126 ≠ gb141))
                         have n7_ := Aside0.mk ((by rw [hg]; exact Nat.ne_of_gt (blk_lt (g := gb126) (o := .cells #[.string a0_0, .string a0_1, .string a0_2, .string a0_3, .string a0_4] 23 (0, 0)) (by (with_reducible repeat (first | refine blk_drewN ?_ _ | refine blk_drew ?_ | refine blk_alloc ?_ _)); exact BK126.out)) : gb141 ≠ gb126))
                         have n8_ := Aside0.mk ((by rw [hg]; exact Nat.ne_of_lt (blk_lt (g := gb127) (o := .cells #[.string a1_0, .string a1_1, .string a1_2, .string a1_3, .string a1_4] 23 (0, 0)) (by (with_reducible repeat (first | refine blk_drewN ?_ _ | refine blk_drew ?_ | refine blk_alloc ?_ _)); exact BK127.out)) : gb127 ≠ gb141))
                         have n9_ := Aside0.mk ((by rw [hg]; exact Nat.ne_of_gt (blk_lt (g := gb127) (o := .cells #[.string a1_0, .string a1_1, .string a1_2, .string a1_3, .string a1_4] 23 (0, 0)) (by (with_reducible repeat (first | refine blk_drewN ?_ _ | refine blk_drew ?_ | refine blk_alloc ?_ _)); exact BK127.out)) : gb141 ≠ gb127))
                         clear BK126
                         clear BK127
                         clear HB
                         have BK126 := n0_
                         have BK127 := n1_
                         have HB := n2_
                         have BK141 := n3_
                         have GW141 := n4_
                         have GE141 := n5_
                         have NB126_141 := n6_
                         have NB141_126 := n7_
                         have NB127_141 := n8_
                         have NB141_127 := n9_
                         clear n0_ n1_ n2_ n3_ n4_ n5_ n6_ n7_ n8_ n9_
                         clear hb hbox hg
                         refine hK.out _ _ ⟨HVia.bc BK126 0 rfl, HVia.bc BK126 1 rfl, HVia.bc BK126 2 rfl, HVia.bc BK126 3 rfl, HVia.bc BK126 4 rfl, HVia.bc BK127 0 rfl, HVia.bc BK127 1 rfl, HVia.bc BK127 2 rfl, HVia.bc BK127 3 rfl, HVia.bc BK127 4 rfl⟩ (fun hHeld => ?_)
                         clear hK K
                         refine norm_ (a' := ?_) ?_ ?_
                         rotate_left
                         · show Act.put _ (some 8) _ = _
                           simp only [Act.put, List.setIfInBounds_toArray, List.set_cons_zero, List.set_cons_succ, i64_w, i32_w]
                           rfl
                         exact norm_ (by first | (simp only [putAll, Act.put, List.setIfInBounds_toArray, List.set_cons_zero, List.set_cons_succ]; done) | (simp only [putAll, Act.put, List.setIfInBounds_toArray, List.set_cons_zero, List.set_cons_succ]; rfl)) (hJ5 (gb141) _ ⟨hHeld, (by (with_reducible repeat (first | refine blk_drewN ?_ _ | refine blk_drew ?_ | refine blk_alloc ?_ _)); exact BK126.out), (by (with_reducible repeat (first | refine blk_drewN ?_ _ | refine blk_drew ?_ | refine blk_alloc ?_ _)); exact BK127.out), (by (with_reducible repeat (first | refine blk_drewN ?_ _ | refine blk_drew ?_ | refine blk_alloc ?_ _)); exact BK141.out), GW141.out, GE141.out, NB126_141.out, NB141_126.out, NB127_141.out, NB141_127.out, (by repeat (first | (with_reducible first | exact HB.out | apply below_alloc | apply pw_below_drewN | apply below_drew1 | refine below_set ?_ GE126.out | refine below_set ?_ GE127.out | refine below_set ?_ GE141.out) | exact HB.out))⟩)
                     · skip
                       rintro gb141 w12 ⟨hS_, h0_, h1_, h2_, h3_, h4_, h5_, h6_, h7_, h8_, h9_⟩
                       have n0_ : Aside0 (w12.heap[gb126]? = some (.cells #[.string a0_0, .string a0_1, .string a0_2, .string a0_3, .string a0_4] 23 (0, 0))) := ⟨h0_⟩
                       have n1_ : Aside0 (w12.heap[gb127]? = some (.cells #[.string a1_0, .string a1_1, .string a1_2, .string a1_3, .string a1_4] 23 (0, 0))) := ⟨h1_⟩
                       have n2_ : Aside0 (w12.heap[gb141]? = some (.cells #[.string (⟨#[]⟩ : ByteArray), .string (⟨#[]⟩ : ByteArray), .string (⟨#[]⟩ : ByteArray), .bool false, .string (⟨#[]⟩ : ByteArray), .string (⟨#[]⟩ : ByteArray)] 40 (0, 0))) := ⟨h2_⟩
                       have n3_ : Aside0 (w.heap.size ≤ gb141) := ⟨h3_⟩
                       have n4_ : Aside0 (w.heap.size ≤ gb141) := ⟨h4_⟩
                       have n5_ : Aside0 (gb126 ≠ gb141) := ⟨h5_⟩
                       have n6_ : Aside0 (gb141 ≠ gb126) := ⟨h6_⟩
                       have n7_ : Aside0 (gb127 ≠ gb141) := ⟨h7_⟩
                       have n8_ : Aside0 (gb141 ≠ gb127) := ⟨h8_⟩
                       have n9_ : Aside0 (Below w.heap.size w w12) := ⟨h9_⟩
                       clear BK126
                       clear BK127
                       clear HB
                       clear h0_ h1_ h2_ h3_ h4_ h5_ h6_ h7_ h8_ h9_
                       have BK126 := n0_
                       have BK127 := n1_
                       have BK141 := n2_
                       have GW141 := n3_
                       have GE141 := n4_
                       have NB126_141 := n5_
                       have NB141_126 := n6_
                       have NB127_141 := n7_
                       have NB141_127 := n8_
                       have HB := n9_
                       clear n0_ n1_ n2_ n3_ n4_ n5_ n6_ n7_ n8_ n9_
                       have hHeld : w12.cell? ⟨gb126, 0, none⟩ = some (.string a0_0) ∧ w12.cell? ⟨gb126, 1, none⟩ = some (.string a0_1) ∧ w12.cell? ⟨gb126, 2, none⟩ = some (.string a0_2) ∧ w12.cell? ⟨gb126, 3, none⟩ = some (.string a0_3) ∧ w12.cell? ⟨gb126, 4, none⟩ = some (.string a0_4) ∧ w12.cell? ⟨gb127, 0, none⟩ = some (.string a1_0) ∧ w12.cell? ⟨gb127, 1, none⟩ = some (.string a1_1) ∧ w12.cell? ⟨gb127, 2, none⟩ = some (.string a1_2) ∧ w12.cell? ⟨gb127, 3, none⟩ = some (.string a1_3) ∧ w12.cell? ⟨gb127, 4, none⟩ = some (.string a1_4) := hS_
                       refine norm_ (a' := ?_) ?_ ?_
                       rotate_left
                       · simp only [putAll, Act.put, List.setIfInBounds_toArray, List.set_cons_zero, List.set_cons_succ]
                         rfl
                       refine two_ (i := 1) (j := 4) (Ni := some 10) (Nj := some 7) b10_ b11_ rfl rfl rfl rfl (two_of HT_.out (by kernel_rfl)) (by decide) (by decide) (fun K hK => ?_) (fun K hK => ?_)
                       · skip
                         refine goes_ Try.func16 (by kernel_rfl) rfl #[.agg #[.string a0_0, .string a0_1, .string a0_2, .string a0_3, .string a0_4]] (by rfl) rfl rfl (by (try simp only [List.map_toArray, List.map_cons, List.map_nil]); first | done | rfl | (simp only [List.length_drop, List.length_take]; rfl)) ?_
                         with_reducible refine (impl_id.calls a0_0 a0_1 a0_2 a0_3 a0_4 t128 t129 t130 t131 t132 t133 _ A3.out).mono ?_
                         rintro e w13 ⟨rfl, hb⟩
                         refine ⟨_, rfl, ?_⟩
                         have n0_ := Aside0.mk (blk_below (g := gb126) (o := .cells #[.string a0_0, .string a0_1, .string a0_2, .string a0_3, .string a0_4] 23 (0, 0)) (by (with_reducible repeat (first | refine blk_drewN ?_ _ | refine blk_drew ?_ | refine blk_alloc ?_ _)); exact BK126.out) hb)
                         have n1_ := Aside0.mk (blk_below (g := gb127) (o := .cells #[.string a1_0, .string a1_1, .string a1_2, .string a1_3, .string a1_4] 23 (0, 0)) (by (with_reducible repeat (first | refine blk_drewN ?_ _ | refine blk_drew ?_ | refine blk_alloc ?_ _)); exact BK127.out) hb)
                         have n2_ := Aside0.mk (blk_below (g := gb141) (o := .cells #[.string (⟨#[]⟩ : ByteArray), .string (⟨#[]⟩ : ByteArray), .string (⟨#[]⟩ : ByteArray), .bool false, .string (⟨#[]⟩ : ByteArray), .string (⟨#[]⟩ : ByteArray)] 40 (0, 0)) (by (with_reducible repeat (first | refine blk_drewN ?_ _ | refine blk_drew ?_ | refine blk_alloc ?_ _)); exact BK141.out) hb)
                         have n3_ := Aside0.mk (below_step (by repeat (first | (with_reducible first | exact HB.out | apply below_alloc | apply pw_below_drewN | apply below_drew1 | refine below_set ?_ GE126.out | refine below_set ?_ GE127.out | refine below_set ?_ GE141.out) | exact HB.out)) hb)
                         clear BK126
                         clear BK127
                         clear BK141
                         clear HB
                         have BK126 := n0_
                         have BK127 := n1_
                         have BK141 := n2_
                         have HB := n3_
                         clear n0_ n1_ n2_ n3_
                         (try clear hb)
                         (try clear hb2)
                         (try clear hk)
                         (try clear hi)
                         refine hK.out _ _ ⟨HVia.bc BK126 0 rfl, HVia.bc BK126 1 rfl, HVia.bc BK126 2 rfl, HVia.bc BK126 3 rfl, HVia.bc BK126 4 rfl, HVia.bc BK127 0 rfl, HVia.bc BK127 1 rfl, HVia.bc BK127 2 rfl, HVia.bc BK127 3 rfl, HVia.bc BK127 4 rfl⟩ (fun hHeld => ?_)
                         clear hK K
                         refine norm_ (a' := ?_) ?_ ?_
                         rotate_left
                         · show Act.put _ (some 10) _ = _
                           simp only [Act.put, List.setIfInBounds_toArray, List.set_cons_zero, List.set_cons_succ, i64_w, i32_w]
                           rfl
                         exact norm_ (by first | (simp only [putAll, Act.put, List.setIfInBounds_toArray, List.set_cons_zero, List.set_cons_succ]; done) | (simp only [putAll, Act.put, List.setIfInBounds_toArray, List.set_cons_zero, List.set_cons_succ]; rfl)) (hJ1_5 (gb141) _ ⟨hHeld, (by (with_reducible repeat (first | refine blk_drewN ?_ _ | refine blk_drew ?_ | refine blk_alloc ?_ _)); exact BK126.out), (by (with_reducible repeat (first | refine blk_drewN ?_ _ | refine blk_drew ?_ | refine blk_alloc ?_ _)); exact BK127.out), (by (with_reducible repeat (first | refine blk_drewN ?_ _ | refine blk_drew ?_ | refine blk_alloc ?_ _)); exact BK141.out), GW141.out, GE141.out, NB126_141.out, NB141_126.out, NB127_141.out, NB141_127.out, (by repeat (first | (with_reducible first | exact HB.out | apply below_alloc | apply pw_below_drewN | apply below_drew1 | refine below_set ?_ GE126.out | refine below_set ?_ GE127.out | refine below_set ?_ GE141.out) | exact HB.out))⟩)
                       · skip
                         refine box_step ?hg (N := 7) ?hd (cs := #[.string (⟨#[]⟩ : ByteArray), .string (⟨#[]⟩ : ByteArray), .string (⟨#[]⟩ : ByteArray), .bool false, .string (⟨#[]⟩ : ByteArray), .string (⟨#[]⟩ : ByteArray)]) (t := 40) ?hr ?_; (case hd => rfl); (case hg => rfl); (case hr => first | (go_simp; done) | (go_simp; rfl))
                         intro gb140 hg w13 hbox hb
                         have n0_ := Aside0.mk (blk_below (g := gb126) (o := .cells #[.string a0_0, .string a0_1, .string a0_2, .string a0_3, .string a0_4] 23 (0, 0)) (by (with_reducible repeat (first | refine blk_drewN ?_ _ | refine blk_drew ?_ | refine blk_alloc ?_ _)); exact BK126.out) hb)
                         have n1_ := Aside0.mk (blk_below (g := gb127) (o := .cells #[.string a1_0, .string a1_1, .string a1_2, .string a1_3, .string a1_4] 23 (0, 0)) (by (with_reducible repeat (first | refine blk_drewN ?_ _ | refine blk_drew ?_ | refine blk_alloc ?_ _)); exact BK127.out) hb)
                         have n2_ := Aside0.mk (blk_below (g := gb141) (o := .cells #[.string (⟨#[]⟩ : ByteArray), .string (⟨#[]⟩ : ByteArray), .string (⟨#[]⟩ : ByteArray), .bool false, .string (⟨#[]⟩ : ByteArray), .string (⟨#[]⟩ : ByteArray)] 40 (0, 0)) (by (with_reducible repeat (first | refine blk_drewN ?_ _ | refine blk_drew ?_ | refine blk_alloc ?_ _)); exact BK141.out) hb)
                         have n3_ := Aside0.mk (below_step (by repeat (first | (with_reducible first | exact HB.out | apply below_alloc | apply pw_below_drewN | apply below_drew1 | refine below_set ?_ GE126.out | refine below_set ?_ GE127.out | refine below_set ?_ GE141.out) | exact HB.out)) hb)
                         have n4_ := Aside0.mk (hbox)
                         have n5_ := Aside0.mk ((by rw [hg]; exact (below_size (by repeat (first | (with_reducible first | exact HB.out | apply below_alloc | apply pw_below_drewN | apply below_drew1 | refine below_set ?_ GE126.out | refine below_set ?_ GE127.out | refine below_set ?_ GE141.out) | exact HB.out))) : w.heap.size ≤ gb140))
                         have n6_ := Aside0.mk ((by rw [hg]; exact (below_size (by repeat (first | (with_reducible first | exact HB.out | apply below_alloc | apply pw_below_drewN | apply below_drew1 | refine below_set ?_ GE126.out | refine below_set ?_ GE127.out | refine below_set ?_ GE141.out) | exact HB.out))) : w.heap.size ≤ gb140))
                         have n7_ := Aside0.mk ((by rw [hg]; exact Nat.ne_of_lt (blk_lt (g := gb126) (o := .cells #[.string a0_0, .string a0_1, .string a0_2, .string a0_3, .string a0_4] 23 (0, 0)) (by (with_reducible repeat (first | refine blk_drewN ?_ _ | refine blk_drew ?_ | refine blk_alloc ?_ _)); exact BK126.out)) : gb126 ≠ gb140))
                         have n8_ := Aside0.mk ((by rw [hg]; exact Nat.ne_of_gt (blk_lt (g := gb126) (o := .cells #[.string a0_0, .string a0_1, .string a0_2, .string a0_3, .string a0_4] 23 (0, 0)) (by (with_reducible repeat (first | refine blk_drewN ?_ _ | refine blk_drew ?_ | refine blk_alloc ?_ _)); exact BK126.out)) : gb140 ≠ gb126))
                         have n9_ := Aside0.mk ((by rw [hg]; exact Nat.ne_of_lt (blk_lt (g := gb127) (o := .cells #[.string a1_0, .string a1_1, .string a1_2, .string a1_3, .string a1_4] 23 (0, 0)) (by (with_reducible repeat (first | refine blk_drewN ?_ _ | refine blk_drew ?_ | refine blk_alloc ?_ _)); exact BK127.out)) : gb127 ≠ gb140))
                         have n10_ := Aside0.mk ((by rw [hg]; exact Nat.ne_of_gt (blk_lt (g := gb127) (o := .cells #[.string a1_0, .string a1_1, .string a1_2, .string a1_3, .string a1_4] 23 (0, 0)) (by (with_reducible repeat (first | refine blk_drewN ?_ _ | refine blk_drew ?_ | refine blk_alloc ?_ _)); exact BK127.out)) : gb140 ≠ gb127))
                         have n11_ := Aside0.mk ((by rw [hg]; exact Nat.ne_of_lt (blk_lt (g := gb141) (o := .cells #[.string (⟨#[]⟩ : ByteArray), .string (⟨#[]⟩ : ByteArray), .string (⟨#[]⟩ : ByteArray), .bool false, .string (⟨#[]⟩ : ByteArray), .string (⟨#[]⟩ : ByteArray)] 40 (0, 0)) (by (with_reducible repeat (first | refine blk_drewN ?_ _ | refine blk_drew ?_ | refine blk_alloc ?_ _)); exact BK141.out)) : gb141 ≠ gb140))
                         have n12_ := Aside0.mk ((by rw [hg]; exact Nat.ne_of_gt (blk_lt (g := gb141) (o := .cells #[.string (⟨#[]⟩ : ByteArray), .string (⟨#[]⟩ : ByteArray), .string (⟨#[]⟩ : ByteArray), .bool false, .string (⟨#[]⟩ : ByteArray), .string (⟨#[]⟩ : ByteArray)] 40 (0, 0)) (by (with_reducible repeat (first | refine blk_drewN ?_ _ | refine blk_drew ?_ | refine blk_alloc ?_ _)); exact BK141.out)) : gb140 ≠ gb141))
                         clear BK126
                         clear BK127
                         clear BK141
                         clear HB
                         have BK126 := n0_
                         have BK127 := n1_
                         have BK141 := n2_
                         have HB := n3_
                         have BK140 := n4_
                         have GW140 := n5_
                         have GE140 := n6_
                         have NB126_140 := n7_
                         have NB140_126 := n8_
                         have NB127_140 := n9_
                         have NB140_127 := n10_
                         have NB141_140 := n11_
                         have NB140_141 := n12_
                         clear n0_ n1_ n2_ n3_ n4_ n5_ n6_ n7_ n8_ n9_ n10_ n11_ n12_
                         clear hb hbox hg
                         refine hK.out _ _ ⟨HVia.bc BK126 0 rfl, HVia.bc BK126 1 rfl, HVia.bc BK126 2 rfl, HVia.bc BK126 3 rfl, HVia.bc BK126 4 rfl, HVia.bc BK127 0 rfl, HVia.bc BK127 1 rfl, HVia.bc BK127 2 rfl, HVia.bc BK127 3 rfl, HVia.bc BK127 4 rfl⟩ (fun hHeld => ?_)
                         clear hK K
                         refine norm_ (a' := ?_) ?_ ?_
                         rotate_left
                         · show Act.put _ (some 7) _ = _
                           simp only [Act.put, List.setIfInBounds_toArray, List.set_cons_zero, List.set_cons_succ, i64_w, i32_w]
                           rfl
                         exact norm_ (by first | (simp only [putAll, Act.put, List.setIfInBounds_toArray, List.set_cons_zero, List.set_cons_succ]; done) | (simp only [putAll, Act.put, List.setIfInBounds_toArray, List.set_cons_zero, List.set_cons_succ]; rfl)) (hJ4_5 (gb140, gb141) _ ⟨hHeld, (by (with_reducible repeat (first | refine blk_drewN ?_ _ | refine blk_drew ?_ | refine blk_alloc ?_ _)); exact BK126.out), (by (with_reducible repeat (first | refine blk_drewN ?_ _ | refine blk_drew ?_ | refine blk_alloc ?_ _)); exact BK127.out), (by (with_reducible repeat (first | refine blk_drewN ?_ _ | refine blk_drew ?_ | refine blk_alloc ?_ _)); exact BK140.out), (by (with_reducible repeat (first | refine blk_drewN ?_ _ | refine blk_drew ?_ | refine blk_alloc ?_ _)); exact BK141.out), GW140.out, GE140.out, NB126_140.out, NB140_126.out, NB127_140.out, NB140_127.out, NB141_140.out, NB140_141.out, GW141.out, GE141.out, NB126_141.out, NB141_126.out, NB127_141.out, NB141_127.out, (by repeat (first | (with_reducible first | exact HB.out | apply below_alloc | apply pw_below_drewN | apply below_drew1 | refine below_set ?_ GE126.out | refine below_set ?_ GE127.out | refine below_set ?_ GE141.out | refine below_set ?_ GE140.out) | exact HB.out))⟩)
                   · skip
                     rintro gb140 w12 ⟨hS_, h0_, h1_, h2_, h3_, h4_, h5_, h6_, h7_, h8_, h9_⟩
                     have n0_ : Aside0 (w12.heap[gb126]? = some (.cells #[.string a0_0, .string a0_1, .string a0_2, .string a0_3, .string a0_4] 23 (0, 0))) := ⟨h0_⟩
                     have n1_ : Aside0 (w12.heap[gb127]? = some (.cells #[.string a1_0, .string a1_1, .string a1_2, .string a1_3, .string a1_4] 23 (0, 0))) := ⟨h1_⟩
                     have n2_ : Aside0 (w12.heap[gb140]? = some (.cells #[.string (⟨#[]⟩ : ByteArray), .string (⟨#[]⟩ : ByteArray), .string (⟨#[]⟩ : ByteArray), .bool false, .string (⟨#[]⟩ : ByteArray), .string (⟨#[]⟩ : ByteArray)] 40 (0, 0))) := ⟨h2_⟩
                     have n3_ : Aside0 (w.heap.size ≤ gb140) := ⟨h3_⟩
                     have n4_ : Aside0 (w.heap.size ≤ gb140) := ⟨h4_⟩
                     have n5_ : Aside0 (gb126 ≠ gb140) := ⟨h5_⟩
                     have n6_ : Aside0 (gb140 ≠ gb126) := ⟨h6_⟩
                     have n7_ : Aside0 (gb127 ≠ gb140) := ⟨h7_⟩
                     have n8_ : Aside0 (gb140 ≠ gb127) := ⟨h8_⟩
                     have n9_ : Aside0 (Below w.heap.size w w12) := ⟨h9_⟩
                     clear BK126
                     clear BK127
                     clear HB
                     clear h0_ h1_ h2_ h3_ h4_ h5_ h6_ h7_ h8_ h9_
                     have BK126 := n0_
                     have BK127 := n1_
                     have BK140 := n2_
                     have GW140 := n3_
                     have GE140 := n4_
                     have NB126_140 := n5_
                     have NB140_126 := n6_
                     have NB127_140 := n7_
                     have NB140_127 := n8_
                     have HB := n9_
                     clear n0_ n1_ n2_ n3_ n4_ n5_ n6_ n7_ n8_ n9_
                     have hHeld : w12.cell? ⟨gb126, 0, none⟩ = some (.string a0_0) ∧ w12.cell? ⟨gb126, 1, none⟩ = some (.string a0_1) ∧ w12.cell? ⟨gb126, 2, none⟩ = some (.string a0_2) ∧ w12.cell? ⟨gb126, 3, none⟩ = some (.string a0_3) ∧ w12.cell? ⟨gb126, 4, none⟩ = some (.string a0_4) ∧ w12.cell? ⟨gb127, 0, none⟩ = some (.string a1_0) ∧ w12.cell? ⟨gb127, 1, none⟩ = some (.string a1_1) ∧ w12.cell? ⟨gb127, 2, none⟩ = some (.string a1_2) ∧ w12.cell? ⟨gb127, 3, none⟩ = some (.string a1_3) ∧ w12.cell? ⟨gb127, 4, none⟩ = some (.string a1_4) := hS_
                     refine norm_ (a' := ?_) ?_ ?_
                     rotate_left
                     · simp only [putAll, Act.put, List.setIfInBounds_toArray, List.set_cons_zero, List.set_cons_succ]
                       rfl
                     refine two_ (i := 1) (j := 5) (Ni := some 10) (Nj := some 8) b9_ b11_ rfl rfl rfl rfl (two_of HT_.out (by kernel_rfl)) (by decide) (by decide) (fun K hK => ?_) (fun K hK => ?_)
                     · skip
                       refine goes_ Try.func16 (by kernel_rfl) rfl #[.agg #[.string a0_0, .string a0_1, .string a0_2, .string a0_3, .string a0_4]] (by rfl) rfl rfl (by (try simp only [List.map_toArray, List.map_cons, List.map_nil]); first | done | rfl | (simp only [List.length_drop, List.length_take]; rfl)) ?_
                       with_reducible refine (impl_id.calls a0_0 a0_1 a0_2 a0_3 a0_4 t128 t129 t130 t131 t132 t133 _ A3.out).mono ?_
                       rintro e w13 ⟨rfl, hb⟩
                       refine ⟨_, rfl, ?_⟩
                       have n0_ := Aside0.mk (blk_below (g := gb126) (o := .cells #[.string a0_0, .string a0_1, .string a0_2, .string a0_3, .string a0_4] 23 (0, 0)) (by (with_reducible repeat (first | refine blk_drewN ?_ _ | refine blk_drew ?_ | refine blk_alloc ?_ _)); exact BK126.out) hb)
                       have n1_ := Aside0.mk (blk_below (g := gb127) (o := .cells #[.string a1_0, .string a1_1, .string a1_2, .string a1_3, .string a1_4] 23 (0, 0)) (by (with_reducible repeat (first | refine blk_drewN ?_ _ | refine blk_drew ?_ | refine blk_alloc ?_ _)); exact BK127.out) hb)
                       have n2_ := Aside0.mk (blk_below (g := gb140) (o := .cells #[.string (⟨#[]⟩ : ByteArray), .string (⟨#[]⟩ : ByteArray), .string (⟨#[]⟩ : ByteArray), .bool false, .string (⟨#[]⟩ : ByteArray), .string (⟨#[]⟩ : ByteArray)] 40 (0, 0)) (by (with_reducible repeat (first | refine blk_drewN ?_ _ | refine blk_drew ?_ | refine blk_alloc ?_ _)); exact BK140.out) hb)
                       have n3_ := Aside0.mk (below_step (by repeat (first | (with_reducible first | exact HB.out | apply below_alloc | apply pw_below_drewN | apply below_drew1 | refine below_set ?_ GE126.out | refine below_set ?_ GE127.out | refine below_set ?_ GE140.out) | exact HB.out)) hb)
                       clear BK126
                       clear BK127
                       clear BK140
                       clear HB
                       have BK126 := n0_
                       have BK127 := n1_
                       have BK140 := n2_
                       have HB := n3_
                       clear n0_ n1_ n2_ n3_
                       (try clear hb)
                       (try clear hb2)
                       (try clear hk)
                       (try clear hi)
                       refine hK.out _ _ ⟨HVia.bc BK126 0 rfl, HVia.bc BK126 1 rfl, HVia.bc BK126 2 rfl, HVia.bc BK126 3 rfl, HVia.bc BK126 4 rfl, HVia.bc BK127 0 rfl, HVia.bc BK127 1 rfl, HVia.bc BK127 2 rfl, HVia.bc BK127 3 rfl, HVia.bc BK127 4 rfl⟩ (fun hHeld => ?_)
                       clear hK K
                       refine norm_ (a' := ?_) ?_ ?_
                       rotate_left
                       · show Act.put _ (some 10) _ = _
                         simp only [Act.put, List.setIfInBounds_toArray, List.set_cons_zero, List.set_cons_succ, i64_w, i32_w]
                         rfl
                       exact norm_ (by first | (simp only [putAll, Act.put, List.setIfInBounds_toArray, List.set_cons_zero, List.set_cons_succ]; done) | (simp only [putAll, Act.put, List.setIfInBounds_toArray, List.set_cons_zero, List.set_cons_succ]; rfl)) (hJ1_4 (gb140) _ ⟨hHeld, (by (with_reducible repeat (first | refine blk_drewN ?_ _ | refine blk_drew ?_ | refine blk_alloc ?_ _)); exact BK126.out), (by (with_reducible repeat (first | refine blk_drewN ?_ _ | refine blk_drew ?_ | refine blk_alloc ?_ _)); exact BK127.out), (by (with_reducible repeat (first | refine blk_drewN ?_ _ | refine blk_drew ?_ | refine blk_alloc ?_ _)); exact BK140.out), GW140.out, GE140.out, NB126_140.out, NB140_126.out, NB127_140.out, NB140_127.out, (by repeat (first | (with_reducible first | exact HB.out | apply below_alloc | apply pw_below_drewN | apply below_drew1 | refine below_set ?_ GE126.out | refine below_set ?_ GE127.out | refine below_set ?_ GE140.out) | exact HB.out))⟩)
                     · skip
                       refine box_step ?hg (N := 8) ?hd (cs := #[.string (⟨#[]⟩ : ByteArray), .string (⟨#[]⟩ : ByteArray), .string (⟨#[]⟩ : ByteArray), .bool false, .string (⟨#[]⟩ : ByteArray), .string (⟨#[]⟩ : ByteArray)]) (t := 40) ?hr ?_; (case hd => rfl); (case hg => rfl); (case hr => first | (go_simp; done) | (go_simp; rfl))
                       intro gb141 hg w13 hbox hb
                       have n0_ := Aside0.mk (blk_below (g := gb126) (o := .cells #[.string a0_0, .string a0_1, .string a0_2, .string a0_3, .string a0_4] 23 (0, 0)) (by (with_reducible repeat (first | refine blk_drewN ?_ _ | refine blk_drew ?_ | refine blk_alloc ?_ _)); exact BK126.out) hb)
                       have n1_ := Aside0.mk (blk_below (g := gb127) (o := .cells #[.string a1_0, .string a1_1, .string a1_2, .string a1_3, .string a1_4] 23 (0, 0)) (by (with_reducible repeat (first | refine blk_drewN ?_ _ | refine blk_drew ?_ | refine blk_alloc ?_ _)); exact BK127.out) hb)
                       have n2_ := Aside0.mk (blk_below (g := gb140) (o := .cells #[.string (⟨#[]⟩ : ByteArray), .string (⟨#[]⟩ : ByteArray), .string (⟨#[]⟩ : ByteArray), .bool false, .string (⟨#[]⟩ : ByteArray), .string (⟨#[]⟩ : ByteArray)] 40 (0, 0)) (by (with_reducible repeat (first | refine blk_drewN ?_ _ | refine blk_drew ?_ | refine blk_alloc ?_ _)); exact BK140.out) hb)
                       have n3_ := Aside0.mk (below_step (by repeat (first | (with_reducible first | exact HB.out | apply below_alloc | apply pw_below_drewN | apply below_drew1 | refine below_set ?_ GE126.out | refine below_set ?_ GE127.out | refine below_set ?_ GE140.out) | exact HB.out)) hb)
                       have n4_ := Aside0.mk (hbox)
                       have n5_ := Aside0.mk ((by rw [hg]; exact (below_size (by repeat (first | (with_reducible first | exact HB.out | apply below_alloc | apply pw_below_drewN | apply below_drew1 | refine below_set ?_ GE126.out | refine below_set ?_ GE127.out | refine below_set ?_ GE140.out) | exact HB.out))) : w.heap.size ≤ gb141))
                       have n6_ := Aside0.mk ((by rw [hg]; exact (below_size (by repeat (first | (with_reducible first | exact HB.out | apply below_alloc | apply pw_below_drewN | apply below_drew1 | refine below_set ?_ GE126.out | refine below_set ?_ GE127.out | refine below_set ?_ GE140.out) | exact HB.out))) : w.heap.size ≤ gb141))
                       have n7_ := Aside0.mk ((by rw [hg]; exact Nat.ne_of_lt (blk_lt (g := gb126) (o := .cells #[.string a0_0, .string a0_1, .string a0_2, .string a0_3, .string a0_4] 23 (0, 0)) (by (with_reducible repeat (first | refine blk_drewN ?_ _ | refine blk_drew ?_ | refine blk_alloc ?_ _)); exact BK126.out)) : gb126 ≠ gb141))
                       have n8_ := Aside0.mk ((by rw [hg]; exact Nat.ne_of_gt (blk_lt (g := gb126) (o := .cells #[.string a0_0, .string a0_1, .string a0_2, .string a0_3, .string a0_4] 23 (0, 0)) (by (with_reducible repeat (first | refine blk_drewN ?_ _ | refine blk_drew ?_ | refine blk_alloc ?_ _)); exact BK126.out)) : gb141 ≠ gb126))
                       have n9_ := Aside0.mk ((by rw [hg]; exact Nat.ne_of_lt (blk_lt (g := gb127) (o := .cells #[.string a1_0, .string a1_1, .string a1_2, .string a1_3, .string a1_4] 23 (0, 0)) (by (with_reducible repeat (first | refine blk_drewN ?_ _ | refine blk_drew ?_ | refine blk_alloc ?_ _)); exact BK127.out)) : gb127 ≠ gb141))
                       have n10_ := Aside0.mk ((by rw [hg]; exact Nat.ne_of_gt (blk_lt (g := gb127) (o := .cells #[.string a1_0, .string a1_1, .string a1_2, .string a1_3, .string a1_4] 23 (0, 0)) (by (with_reducible repeat (first | refine blk_drewN ?_ _ | refine blk_drew ?_ | refine blk_alloc ?_ _)); exact BK127.out)) : gb141 ≠ gb127))
                       have n11_ := Aside0.mk ((by rw [hg]; exact Nat.ne_of_lt (blk_lt (g := gb140) (o := .cells #[.string (⟨#[]⟩ : ByteArray), .string (⟨#[]⟩ : ByteArray), .string (⟨#[]⟩ : ByteArray), .bool false, .string (⟨#[]⟩ : ByteArray), .string (⟨#[]⟩ : ByteArray)] 40 (0, 0)) (by (with_reducible repeat (first | refine blk_drewN ?_ _ | refine blk_drew ?_ | refine blk_alloc ?_ _)); exact BK140.out)) : gb140 ≠ gb141))
                       have n12_ := Aside0.mk ((by rw [hg]; exact Nat.ne_of_gt (blk_lt (g := gb140) (o := .cells #[.string (⟨#[]⟩ : ByteArray), .string (⟨#[]⟩ : ByteArray), .string (⟨#[]⟩ : ByteArray), .bool false, .string (⟨#[]⟩ : ByteArray), .string (⟨#[]⟩ : ByteArray)] 40 (0, 0)) (by (with_reducible repeat (first | refine blk_drewN ?_ _ | refine blk_drew ?_ | refine blk_alloc ?_ _)); exact BK140.out)) : gb141 ≠ gb140))
                       clear BK126
                       clear BK127
                       clear BK140
                       clear HB
                       have BK126 := n0_
                       have BK127 := n1_
                       have BK140 := n2_
                       have HB := n3_
                       have BK141 := n4_
                       have GW141 := n5_
                       have GE141 := n6_
                       have NB126_141 := n7_
                       have NB141_126 := n8_
                       have NB127_141 := n9_
                       have NB141_127 := n10_
                       have NB140_141 := n11_
                       have NB141_140 := n12_
                       clear n0_ n1_ n2_ n3_ n4_ n5_ n6_ n7_ n8_ n9_ n10_ n11_ n12_
                       clear hb hbox hg
                       refine hK.out _ _ ⟨HVia.bc BK126 0 rfl, HVia.bc BK126 1 rfl, HVia.bc BK126 2 rfl, HVia.bc BK126 3 rfl, HVia.bc BK126 4 rfl, HVia.bc BK127 0 rfl, HVia.bc BK127 1 rfl, HVia.bc BK127 2 rfl, HVia.bc BK127 3 rfl, HVia.bc BK127 4 rfl⟩ (fun hHeld => ?_)
                       clear hK K
                       refine norm_ (a' := ?_) ?_ ?_
                       rotate_left
                       · show Act.put _ (some 8) _ = _
                         simp only [Act.put, List.setIfInBounds_toArray, List.set_cons_zero, List.set_cons_succ, i64_w, i32_w]
                         rfl
                       exact norm_ (by first | (simp only [putAll, Act.put, List.setIfInBounds_toArray, List.set_cons_zero, List.set_cons_succ]; done) | (simp only [putAll, Act.put, List.setIfInBounds_toArray, List.set_cons_zero, List.set_cons_succ]; rfl)) (hJ4_5 (gb140, gb141) _ ⟨hHeld, (by (with_reducible repeat (first | refine blk_drewN ?_ _ | refine blk_drew ?_ | refine blk_alloc ?_ _)); exact BK126.out), (by (with_reducible repeat (first | refine blk_drewN ?_ _ | refine blk_drew ?_ | refine blk_alloc ?_ _)); exact BK127.out), (by (with_reducible repeat (first | refine blk_drewN ?_ _ | refine blk_drew ?_ | refine blk_alloc ?_ _)); exact BK140.out), (by (with_reducible repeat (first | refine blk_drewN ?_ _ | refine blk_drew ?_ | refine blk_alloc ?_ _)); exact BK141.out), GW140.out, GE140.out, NB126_140.out, NB140_126.out, NB127_140.out, NB140_127.out, NB141_140.out, NB140_141.out, GW141.out, GE141.out, NB126_141.out, NB141_126.out, NB127_141.out, NB141_127.out, (by repeat (first | (with_reducible first | exact HB.out | apply below_alloc | apply pw_below_drewN | apply below_drew1 | refine below_set ?_ GE126.out | refine below_set ?_ GE127.out | refine below_set ?_ GE140.out | refine below_set ?_ GE141.out) | exact HB.out))⟩)
                 · skip
                   rintro _ w12 ⟨hS_, h0_, h1_, h2_⟩
                   have n0_ : Aside0 (w12.heap[gb126]? = some (.cells #[.string a0_0, .string a0_1, .string a0_2, .string a0_3, .string a0_4] 23 (0, 0))) := ⟨h0_⟩
                   have n1_ : Aside0 (w12.heap[gb127]? = some (.cells #[.string a1_0, .string a1_1, .string a1_2, .string a1_3, .string a1_4] 23 (0, 0))) := ⟨h1_⟩
                   have n2_ : Aside0 (Below w.heap.size w w12) := ⟨h2_⟩
                   clear BK126
                   clear BK127
                   clear HB
                   clear h0_ h1_ h2_
                   have BK126 := n0_
                   have BK127 := n1_
                   have HB := n2_
                   clear n0_ n1_ n2_
                   have hHeld : w12.cell? ⟨gb126, 0, none⟩ = some (.string a0_0) ∧ w12.cell? ⟨gb126, 1, none⟩ = some (.string a0_1) ∧ w12.cell? ⟨gb126, 2, none⟩ = some (.string a0_2) ∧ w12.cell? ⟨gb126, 3, none⟩ = some (.string a0_3) ∧ w12.cell? ⟨gb126, 4, none⟩ = some (.string a0_4) ∧ w12.cell? ⟨gb127, 0, none⟩ = some (.string a1_0) ∧ w12.cell? ⟨gb127, 1, none⟩ = some (.string a1_1) ∧ w12.cell? ⟨gb127, 2, none⟩ = some (.string a1_2) ∧ w12.cell? ⟨gb127, 3, none⟩ = some (.string a1_3) ∧ w12.cell? ⟨gb127, 4, none⟩ = some (.string a1_4) := hS_
                   refine norm_ (a' := ?_) ?_ ?_
                   rotate_left
                   · simp only [putAll, Act.put, List.setIfInBounds_toArray, List.set_cons_zero, List.set_cons_succ]
                     rfl
                   refine three_ (i := 3) (j := 4) (k := 5) (Ni := some 12) (Nj := some 7) (Nk := some 8) b8_ b9_ b10_ rfl rfl rfl rfl rfl rfl (three_of HT_.out (by kernel_rfl)) (by decide) (by decide) (by decide) (fun K hK => ?_) (fun K hK => ?_) (fun K hK => ?_)
                   · skip
                     refine goes_ Try.func16 (by kernel_rfl) rfl #[.agg #[.string a1_0, .string a1_1, .string a1_2, .string a1_3, .string a1_4]] (by rfl) rfl rfl (by (try simp only [List.map_toArray, List.map_cons, List.map_nil]); first | done | rfl | (simp only [List.length_drop, List.length_take]; rfl)) ?_
                     with_reducible refine (impl_id.calls a1_0 a1_1 a1_2 a1_3 a1_4 t134 t135 t136 t137 t138 t139 _ A4.out).mono ?_
                     rintro e w13 ⟨rfl, hb⟩
                     refine ⟨_, rfl, ?_⟩
                     have n0_ := Aside0.mk (blk_below (g := gb126) (o := .cells #[.string a0_0, .string a0_1, .string a0_2, .string a0_3, .string a0_4] 23 (0, 0)) (by (with_reducible repeat (first | refine blk_drewN ?_ _ | refine blk_drew ?_ | refine blk_alloc ?_ _)); exact BK126.out) hb)
                     have n1_ := Aside0.mk (blk_below (g := gb127) (o := .cells #[.string a1_0, .string a1_1, .string a1_2, .string a1_3, .string a1_4] 23 (0, 0)) (by (with_reducible repeat (first | refine blk_drewN ?_ _ | refine blk_drew ?_ | refine blk_alloc ?_ _)); exact BK127.out) hb)
                     have n2_ := Aside0.mk (below_step (by repeat (first | (with_reducible first | exact HB.out | apply below_alloc | apply pw_below_drewN | apply below_drew1 | refine below_set ?_ GE126.out | refine below_set ?_ GE127.out) | exact HB.out)) hb)
                     clear BK126
                     clear BK127
                     clear HB
                     have BK126 := n0_
                     have BK127 := n1_
                     have HB := n2_
                     clear n0_ n1_ n2_
                     (try clear hb)
                     (try clear hb2)
                     (try clear hk)
                     (try clear hi)
                     refine hK.out _ _ ⟨HVia.bc BK126 0 rfl, HVia.bc BK126 1 rfl, HVia.bc BK126 2 rfl, HVia.bc BK126 3 rfl, HVia.bc BK126 4 rfl, HVia.bc BK127 0 rfl, HVia.bc BK127 1 rfl, HVia.bc BK127 2 rfl, HVia.bc BK127 3 rfl, HVia.bc BK127 4 rfl⟩ (fun hHeld => ?_)
                     clear hK K
                     refine norm_ (a' := ?_) ?_ ?_
                     rotate_left
                     · show Act.put _ (some 12) _ = _
                       simp only [Act.put, List.setIfInBounds_toArray, List.set_cons_zero, List.set_cons_succ, i64_w, i32_w]
                       rfl
                     exact norm_ (by first | (simp only [putAll, Act.put, List.setIfInBounds_toArray, List.set_cons_zero, List.set_cons_succ]; done) | (simp only [putAll, Act.put, List.setIfInBounds_toArray, List.set_cons_zero, List.set_cons_succ]; rfl)) (hJ1_3 () _ ⟨hHeld, (by (with_reducible repeat (first | refine blk_drewN ?_ _ | refine blk_drew ?_ | refine blk_alloc ?_ _)); exact BK126.out), (by (with_reducible repeat (first | refine blk_drewN ?_ _ | refine blk_drew ?_ | refine blk_alloc ?_ _)); exact BK127.out), (by repeat (first | (with_reducible first | exact HB.out | apply below_alloc | apply pw_below_drewN | apply below_drew1 | refine below_set ?_ GE126.out | refine below_set ?_ GE127.out) | exact HB.out))⟩)
                   · skip
                     refine box_step ?hg (N := 7) ?hd (cs := #[.string (⟨#[]⟩ : ByteArray), .string (⟨#[]⟩ : ByteArray), .string (⟨#[]⟩ : ByteArray), .bool false, .string (⟨#[]⟩ : ByteArray), .string (⟨#[]⟩ : ByteArray)]) (t := 40) ?hr ?_; (case hd => rfl); (case hg => rfl); (case hr => first | (go_simp; done) | (go_simp; rfl))
                     intro gb140 hg w13 hbox hb
                     have n0_ := Aside0.mk (blk_below (g := gb126) (o := .cells #[.string a0_0, .string a0_1, .string a0_2, .string a0_3, .string a0_4] 23 (0, 0)) (by (with_reducible repeat (first | refine blk_drewN ?_ _ | refine blk_drew ?_ | refine blk_alloc ?_ _)); exact BK126.out) hb)
                     have n1_ := Aside0.mk (blk_below (g := gb127) (o := .cells #[.string a1_0, .string a1_1, .string a1_2, .string a1_3, .string a1_4] 23 (0, 0)) (by (with_reducible repeat (first | refine blk_drewN ?_ _ | refine blk_drew ?_ | refine blk_alloc ?_ _)); exact BK127.out) hb)
                     have n2_ := Aside0.mk (below_step (by repeat (first | (with_reducible first | exact HB.out | apply below_alloc | apply pw_below_drewN | apply below_drew1 | refine below_set ?_ GE126.out | refine below_set ?_ GE127.out) | exact HB.out)) hb)
                     have n3_ := Aside0.mk (hbox)
                     have n4_ := Aside0.mk ((by rw [hg]; exact (below_size (by repeat (first | (with_reducible first | exact HB.out | apply below_alloc | apply pw_below_drewN | apply below_drew1 | refine below_set ?_ GE126.out | refine below_set ?_ GE127.out) | exact HB.out))) : w.heap.size ≤ gb140))
                     have n5_ := Aside0.mk ((by rw [hg]; exact (below_size (by repeat (first | (with_reducible first | exact HB.out | apply below_alloc | apply pw_below_drewN | apply below_drew1 | refine below_set ?_ GE126.out | refine below_set ?_ GE127.out) | exact HB.out))) : w.heap.size ≤ gb140))
                     have n6_ := Aside0.mk ((by rw [hg]; exact Nat.ne_of_lt (blk_lt (g := gb126) (o := .cells #[.string a0_0, .string a0_1, .string a0_2, .string a0_3, .string a0_4] 23 (0, 0)) (by (with_reducible repeat (first | refine blk_drewN ?_ _ | refine blk_drew ?_ | refine blk_alloc ?_ _)); exact BK126.out)) : gb126 ≠ gb140))
                     have n7_ := Aside0.mk ((by rw [hg]; exact Nat.ne_of_gt (blk_lt (g := gb126) (o := .cells #[.string a0_0, .string a0_1, .string a0_2, .string a0_3, .string a0_4] 23 (0, 0)) (by (with_reducible repeat (first | refine blk_drewN ?_ _ | refine blk_drew ?_ | refine blk_alloc ?_ _)); exact BK126.out)) : gb140 ≠ gb126))
                     have n8_ := Aside0.mk ((by rw [hg]; exact Nat.ne_of_lt (blk_lt (g := gb127) (o := .cells #[.string a1_0, .string a1_1, .string a1_2, .string a1_3, .string a1_4] 23 (0, 0)) (by (with_reducible repeat (first | refine blk_drewN ?_ _ | refine blk_drew ?_ | refine blk_alloc ?_ _)); exact BK127.out)) : gb127 ≠ gb140))
                     have n9_ := Aside0.mk ((by rw [hg]; exact Nat.ne_of_gt (blk_lt (g := gb127) (o := .cells #[.string a1_0, .string a1_1, .string a1_2, .string a1_3, .string a1_4] 23 (0, 0)) (by (with_reducible repeat (first | refine blk_drewN ?_ _ | refine blk_drew ?_ | refine blk_alloc ?_ _)); exact BK127.out)) : gb140 ≠ gb127))
                     clear BK126
                     clear BK127
                     clear HB
                     have BK126 := n0_
                     have BK127 := n1_
                     have HB := n2_
                     have BK140 := n3_
                     have GW140 := n4_
                     have GE140 := n5_
                     have NB126_140 := n6_
                     have NB140_126 := n7_
                     have NB127_140 := n8_
                     have NB140_127 := n9_
                     clear n0_ n1_ n2_ n3_ n4_ n5_ n6_ n7_ n8_ n9_
                     clear hb hbox hg
                     refine hK.out _ _ ⟨HVia.bc BK126 0 rfl, HVia.bc BK126 1 rfl, HVia.bc BK126 2 rfl, HVia.bc BK126 3 rfl, HVia.bc BK126 4 rfl, HVia.bc BK127 0 rfl, HVia.bc BK127 1 rfl, HVia.bc BK127 2 rfl, HVia.bc BK127 3 rfl, HVia.bc BK127 4 rfl⟩ (fun hHeld => ?_)
                     clear hK K
                     refine norm_ (a' := ?_) ?_ ?_
                     rotate_left
                     · show Act.put _ (some 7) _ = _
                       simp only [Act.put, List.setIfInBounds_toArray, List.set_cons_zero, List.set_cons_succ, i64_w, i32_w]
                       rfl
                     exact norm_ (by first | (simp only [putAll, Act.put, List.setIfInBounds_toArray, List.set_cons_zero, List.set_cons_succ]; done) | (simp only [putAll, Act.put, List.setIfInBounds_toArray, List.set_cons_zero, List.set_cons_succ]; rfl)) (hJ1_4 (gb140) _ ⟨hHeld, (by (with_reducible repeat (first | refine blk_drewN ?_ _ | refine blk_drew ?_ | refine blk_alloc ?_ _)); exact BK126.out), (by (with_reducible repeat (first | refine blk_drewN ?_ _ | refine blk_drew ?_ | refine blk_alloc ?_ _)); exact BK127.out), (by (with_reducible repeat (first | refine blk_drewN ?_ _ | refine blk_drew ?_ | refine blk_alloc ?_ _)); exact BK140.out), GW140.out, GE140.out, NB126_140.out, NB140_126.out, NB127_140.out, NB140_127.out, (by repeat (first | (with_reducible first | exact HB.out | apply below_alloc | apply pw_below_drewN | apply below_drew1 | refine below_set ?_ GE126.out | refine below_set ?_ GE127.out | refine below_set ?_ GE140.out) | exact HB.out))⟩)
                   · skip
                     refine box_step ?hg (N := 8) ?hd (cs := #[.string (⟨#[]⟩ : ByteArray), .string (⟨#[]⟩ : ByteArray), .string (⟨#[]⟩ : ByteArray), .bool false, .string (⟨#[]⟩ : ByteArray), .string (⟨#[]⟩ : ByteArray)]) (t := 40) ?hr ?_; (case hd => rfl); (case hg => rfl); (case hr => first | (go_simp; done) | (go_simp; rfl))
                     intro gb141 hg w13 hbox hb
                     have n0_ := Aside0.mk (blk_below (g := gb126) (o := .cells #[.string a0_0, .string a0_1, .string a0_2, .string a0_3, .string a0_4] 23 (0, 0)) (by (with_reducible repeat (first | refine blk_drewN ?_ _ | refine blk_drew ?_ | refine blk_alloc ?_ _)); exact BK126.out) hb)
                     have n1_ := Aside0.mk (blk_below (g := gb127) (o := .cells #[.string a1_0, .string a1_1, .string a1_2, .string a1_3, .string a1_4] 23 (0, 0)) (by (with_reducible repeat (first | refine blk_drewN ?_ _ | refine blk_drew ?_ | refine blk_alloc ?_ _)); exact BK127.out) hb)
                     have n2_ := Aside0.mk (below_step (by repeat (first | (with_reducible first | exact HB.out | apply below_alloc | apply pw_below_drewN | apply below_drew1 | refine below_set ?_ GE126.out | refine below_set ?_ GE127.out) | exact HB.out)) hb)
                     have n3_ := Aside0.mk (hbox)
                     have n4_ := Aside0.mk ((by rw [hg]; exact (below_size (by repeat (first | (with_reducible first | exact HB.out | apply below_alloc | apply pw_below_drewN | apply below_drew1 | refine below_set ?_ GE126.out | refine below_set ?_ GE127.out) | exact HB.out))) : w.heap.size ≤ gb141))
                     have n5_ := Aside0.mk ((by rw [hg]; exact (below_size (by repeat (first | (with_reducible first | exact HB.out | apply below_alloc | apply pw_below_drewN | apply below_drew1 | refine below_set ?_ GE126.out | refine below_set ?_ GE127.out) | exact HB.out))) : w.heap.size ≤ gb141))
                     have n6_ := Aside0.mk ((by rw [hg]; exact Nat.ne_of_lt (blk_lt (g := gb126) (o := .cells #[.string a0_0, .string a0_1, .string a0_2, .string a0_3, .string a0_4] 23 (0, 0)) (by (with_reducible repeat (first | refine blk_drewN ?_ _ | refine blk_drew ?_ | refine blk_alloc ?_ _)); exact BK126.out)) : gb126 ≠ gb141))
                     have n7_ := Aside0.mk ((by rw [hg]; exact Nat.ne_of_gt (blk_lt (g := gb126) (o := .cells #[.string a0_0, .string a0_1, .string a0_2, .string a0_3, .string a0_4] 23 (0, 0)) (by (with_reducible repeat (first | refine blk_drewN ?_ _ | refine blk_drew ?_ | refine blk_alloc ?_ _)); exact BK126.out)) : gb141 ≠ gb126))
                     have n8_ := Aside0.mk ((by rw [hg]; exact Nat.ne_of_lt (blk_lt (g := gb127) (o := .cells #[.string a1_0, .string a1_1, .string a1_2, .string a1_3, .string a1_4] 23 (0, 0)) (by (with_reducible repeat (first | refine blk_drewN ?_ _ | refine blk_drew ?_ | refine blk_alloc ?_ _)); exact BK127.out)) : gb127 ≠ gb141))
                     have n9_ := Aside0.mk ((by rw [hg]; exact Nat.ne_of_gt (blk_lt (g := gb127) (o := .cells #[.string a1_0, .string a1_1, .string a1_2, .string a1_3, .string a1_4] 23 (0, 0)) (by (with_reducible repeat (first | refine blk_drewN ?_ _ | refine blk_drew ?_ | refine blk_alloc ?_ _)); exact BK127.out)) : gb141 ≠ gb127))
                     clear BK126
                     clear BK127
                     clear HB
                     have BK126 := n0_
                     have BK127 := n1_
                     have HB := n2_
                     have BK141 := n3_
                     have GW141 := n4_
                     have GE141 := n5_
                     have NB126_141 := n6_
                     have NB141_126 := n7_
                     have NB127_141 := n8_
                     have NB141_127 := n9_
                     clear n0_ n1_ n2_ n3_ n4_ n5_ n6_ n7_ n8_ n9_
                     clear hb hbox hg
                     refine hK.out _ _ ⟨HVia.bc BK126 0 rfl, HVia.bc BK126 1 rfl, HVia.bc BK126 2 rfl, HVia.bc BK126 3 rfl, HVia.bc BK126 4 rfl, HVia.bc BK127 0 rfl, HVia.bc BK127 1 rfl, HVia.bc BK127 2 rfl, HVia.bc BK127 3 rfl, HVia.bc BK127 4 rfl⟩ (fun hHeld => ?_)
                     clear hK K
                     refine norm_ (a' := ?_) ?_ ?_
                     rotate_left
                     · show Act.put _ (some 8) _ = _
                       simp only [Act.put, List.setIfInBounds_toArray, List.set_cons_zero, List.set_cons_succ, i64_w, i32_w]
                       rfl
                     exact norm_ (by first | (simp only [putAll, Act.put, List.setIfInBounds_toArray, List.set_cons_zero, List.set_cons_succ]; done) | (simp only [putAll, Act.put, List.setIfInBounds_toArray, List.set_cons_zero, List.set_cons_succ]; rfl)) (hJ1_5 (gb141) _ ⟨hHeld, (by (with_reducible repeat (first | refine blk_drewN ?_ _ | refine blk_drew ?_ | refine blk_alloc ?_ _)); exact BK126.out), (by (with_reducible repeat (first | refine blk_drewN ?_ _ | refine blk_drew ?_ | refine blk_alloc ?_ _)); exact BK127.out), (by (with_reducible repeat (first | refine blk_drewN ?_ _ | refine blk_drew ?_ | refine blk_alloc ?_ _)); exact BK141.out), GW141.out, GE141.out, NB126_141.out, NB141_126.out, NB127_141.out, NB141_127.out, (by repeat (first | (with_reducible first | exact HB.out | apply below_alloc | apply pw_below_drewN | apply below_drew1 | refine below_set ?_ GE126.out | refine below_set ?_ GE127.out | refine below_set ?_ GE141.out) | exact HB.out))⟩)
               · skip
                 rintro ⟨gb140, gb141⟩ w13 ⟨hS_, h0_, h1_, h2_, h3_, h4_, h5_, h6_, h7_, h8_, h9_, h10_, h11_, h12_, h13_, h14_, h15_, h16_, h17_, h18_⟩
                 have n0_ : Aside0 (w13.heap[gb126]? = some (.cells #[.string a0_0, .string a0_1, .string a0_2, .string a0_3, .string a0_4] 23 (0, 0))) := ⟨h0_⟩
                 have n1_ : Aside0 (w13.heap[gb127]? = some (.cells #[.string a1_0, .string a1_1, .string a1_2, .string a1_3, .string a1_4] 23 (0, 0))) := ⟨h1_⟩
                 have n2_ : Aside0 (w13.heap[gb140]? = some (.cells #[.string (⟨#[]⟩ : ByteArray), .string (⟨#[]⟩ : ByteArray), .string (⟨#[]⟩ : ByteArray), .bool false, .string (⟨#[]⟩ : ByteArray), .string (⟨#[]⟩ : ByteArray)] 40 (0, 0))) := ⟨h2_⟩
                 have n3_ : Aside0 (w13.heap[gb141]? = some (.cells #[.string (⟨#[]⟩ : ByteArray), .string (⟨#[]⟩ : ByteArray), .string (⟨#[]⟩ : ByteArray), .bool false, .string (⟨#[]⟩ : ByteArray), .string (⟨#[]⟩ : ByteArray)] 40 (0, 0))) := ⟨h3_⟩
                 have n4_ : Aside0 (w.heap.size ≤ gb140) := ⟨h4_⟩
                 have n5_ : Aside0 (w.heap.size ≤ gb140) := ⟨h5_⟩
                 have n6_ : Aside0 (gb126 ≠ gb140) := ⟨h6_⟩
                 have n7_ : Aside0 (gb140 ≠ gb126) := ⟨h7_⟩
                 have n8_ : Aside0 (gb127 ≠ gb140) := ⟨h8_⟩
                 have n9_ : Aside0 (gb140 ≠ gb127) := ⟨h9_⟩
                 have n10_ : Aside0 (gb141 ≠ gb140) := ⟨h10_⟩
                 have n11_ : Aside0 (gb140 ≠ gb141) := ⟨h11_⟩
                 have n12_ : Aside0 (w.heap.size ≤ gb141) := ⟨h12_⟩
                 have n13_ : Aside0 (w.heap.size ≤ gb141) := ⟨h13_⟩
                 have n14_ : Aside0 (gb126 ≠ gb141) := ⟨h14_⟩
                 have n15_ : Aside0 (gb141 ≠ gb126) := ⟨h15_⟩
                 have n16_ : Aside0 (gb127 ≠ gb141) := ⟨h16_⟩
                 have n17_ : Aside0 (gb141 ≠ gb127) := ⟨h17_⟩
                 have n18_ : Aside0 (Below w.heap.size w w13) := ⟨h18_⟩
                 clear BK126
                 clear BK127
                 clear HB
                 clear h0_ h1_ h2_ h3_ h4_ h5_ h6_ h7_ h8_ h9_ h10_ h11_ h12_ h13_ h14_ h15_ h16_ h17_ h18_
                 have BK126 := n0_
                 have BK127 := n1_
                 have BK140 := n2_
                 have BK141 := n3_
                 have GW140 := n4_
                 have GE140 := n5_
                 have NB126_140 := n6_
                 have NB140_126 := n7_
                 have NB127_140 := n8_
                 have NB140_127 := n9_
                 have NB141_140 := n10_
                 have NB140_141 := n11_
                 have GW141 := n12_
                 have GE141 := n13_
                 have NB126_141 := n14_
                 have NB141_126 := n15_
                 have NB127_141 := n16_
                 have NB141_127 := n17_
                 have HB := n18_
                 clear n0_ n1_ n2_ n3_ n4_ n5_ n6_ n7_ n8_ n9_ n10_ n11_ n12_ n13_ n14_ n15_ n16_ n17_ n18_
                 have hHeld : w13.cell? ⟨gb126, 0, none⟩ = some (.string a0_0) ∧ w13.cell? ⟨gb126, 1, none⟩ = some (.string a0_1) ∧ w13.cell? ⟨gb126, 2, none⟩ = some (.string a0_2) ∧ w13.cell? ⟨gb126, 3, none⟩ = some (.string a0_3) ∧ w13.cell? ⟨gb126, 4, none⟩ = some (.string a0_4) ∧ w13.cell? ⟨gb127, 0, none⟩ = some (.string a1_0) ∧ w13.cell? ⟨gb127, 1, none⟩ = some (.string a1_1) ∧ w13.cell? ⟨gb127, 2, none⟩ = some (.string a1_2) ∧ w13.cell? ⟨gb127, 3, none⟩ = some (.string a1_3) ∧ w13.cell? ⟨gb127, 4, none⟩ = some (.string a1_4) := hS_
                 refine norm_ (a' := ?_) ?_ ?_
                 rotate_left
                 · simp only [putAll, Act.put, List.setIfInBounds_toArray, List.set_cons_zero, List.set_cons_succ]
                   rfl
                 refine one_ (i := 1) (N := some 10) b7_ rfl rfl (one_of HT_.out (by kernel_rfl)) (by decide) (fun K hK => ?_)
                 refine goes_ Try.func16 (by kernel_rfl) rfl #[.agg #[.string a0_0, .string a0_1, .string a0_2, .string a0_3, .string a0_4]] (by rfl) rfl rfl (by (try simp only [List.map_toArray, List.map_cons, List.map_nil]); first | done | rfl | (simp only [List.length_drop, List.length_take]; rfl)) ?_
                 with_reducible refine (impl_id.calls a0_0 a0_1 a0_2 a0_3 a0_4 t128 t129 t130 t131 t132 t133 _ A3.out).mono ?_
                 rintro e w14 ⟨rfl, hb⟩
                 refine ⟨_, rfl, ?_⟩
                 have n0_ := Aside0.mk (blk_below (g := gb126) (o := .cells #[.string a0_0, .string a0_1, .string a0_2, .string a0_3, .string a0_4] 23 (0, 0)) (by (with_reducible repeat (first | refine blk_drewN ?_ _ | refine blk_drew ?_ | refine blk_alloc ?_ _)); exact BK126.out) hb)
                 have n1_ := Aside0.mk (blk_below (g := gb127) (o := .cells #[.string a1_0, .string a1_1, .string a1_2, .string a1_3, .string a1_4] 23 (0, 0)) (by (with_reducible repeat (first | refine blk_drewN ?_ _ | refine blk_drew ?_ | refine blk_alloc ?_ _)); exact BK127.out) hb)
                 have n2_ := Aside0.mk (blk_below (g := gb140) (o := .cells #[.string (⟨#[]⟩ : ByteArray), .string (⟨#[]⟩ : ByteArray), .string (⟨#[]⟩ : ByteArray), .bool false, .string (⟨#[]⟩ : ByteArray), .string (⟨#[]⟩ : ByteArray)] 40 (0, 0)) (by (with_reducible repeat (first | refine blk_drewN ?_ _ | refine blk_drew ?_ | refine blk_alloc ?_ _)); exact BK140.out) hb)
                 have n3_ := Aside0.mk (blk_below (g := gb141) (o := .cells #[.string (⟨#[]⟩ : ByteArray), .string (⟨#[]⟩ : ByteArray), .string (⟨#[]⟩ : ByteArray), .bool false, .string (⟨#[]⟩ : ByteArray), .string (⟨#[]⟩ : ByteArray)] 40 (0, 0)) (by (with_reducible repeat (first | refine blk_drewN ?_ _ | refine blk_drew ?_ | refine blk_alloc ?_ _)); exact BK141.out) hb)
                 have n4_ := Aside0.mk (below_step (by repeat (first | (with_reducible first | exact HB.out | apply below_alloc | apply pw_below_drewN | apply below_drew1 | refine below_set ?_ GE126.out | refine below_set ?_ GE127.out | refine below_set ?_ GE140.out | refine below_set ?_ GE141.out) | exact HB.out)) hb)
                 clear BK126
                 clear BK127
                 clear BK140
                 clear BK141
                 clear HB
                 have BK126 := n0_
                 have BK127 := n1_
                 have BK140 := n2_
                 have BK141 := n3_
                 have HB := n4_
                 clear n0_ n1_ n2_ n3_ n4_
                 (try clear hb)
                 (try clear hb2)
                 (try clear hk)
                 (try clear hi)
                 refine hK.out _ _ ⟨HVia.bc BK126 0 rfl, HVia.bc BK126 1 rfl, HVia.bc BK126 2 rfl, HVia.bc BK126 3 rfl, HVia.bc BK126 4 rfl, HVia.bc BK127 0 rfl, HVia.bc BK127 1 rfl, HVia.bc BK127 2 rfl, HVia.bc BK127 3 rfl, HVia.bc BK127 4 rfl⟩ (fun hHeld => ?_)
                 clear hK K
                 refine norm_ (a' := ?_) ?_ ?_
                 rotate_left
                 · show Act.put _ (some 10) _ = _
                   simp only [Act.put, List.setIfInBounds_toArray, List.set_cons_zero, List.set_cons_succ, i64_w, i32_w]
                   rfl
                 exact norm_ (by first | (simp only [putAll, Act.put, List.setIfInBounds_toArray, List.set_cons_zero, List.set_cons_succ]; done) | (simp only [putAll, Act.put, List.setIfInBounds_toArray, List.set_cons_zero, List.set_cons_succ]; rfl)) (hJ1_4_5 (gb140, gb141) _ ⟨hHeld, (by (with_reducible repeat (first | refine blk_drewN ?_ _ | refine blk_drew ?_ | refine blk_alloc ?_ _)); exact BK126.out), (by (with_reducible repeat (first | refine blk_drewN ?_ _ | refine blk_drew ?_ | refine blk_alloc ?_ _)); exact BK127.out), (by (with_reducible repeat (first | refine blk_drewN ?_ _ | refine blk_drew ?_ | refine blk_alloc ?_ _)); exact BK140.out), (by (with_reducible repeat (first | refine blk_drewN ?_ _ | refine blk_drew ?_ | refine blk_alloc ?_ _)); exact BK141.out), GW140.out, GE140.out, NB126_140.out, NB140_126.out, NB127_140.out, NB140_127.out, NB141_140.out, NB140_141.out, GW141.out, GE141.out, NB126_141.out, NB141_126.out, NB127_141.out, NB141_127.out, (by repeat (first | (with_reducible first | exact HB.out | apply below_alloc | apply pw_below_drewN | apply below_drew1 | refine below_set ?_ GE126.out | refine below_set ?_ GE127.out | refine below_set ?_ GE140.out | refine below_set ?_ GE141.out) | exact HB.out))⟩)
             · skip
               rintro gb141 w13 ⟨hS_, h0_, h1_, h2_, h3_, h4_, h5_, h6_, h7_, h8_, h9_⟩
               have n0_ : Aside0 (w13.heap[gb126]? = some (.cells #[.string a0_0, .string a0_1, .string a0_2, .string a0_3, .string a0_4] 23 (0, 0))) := ⟨h0_⟩
               have n1_ : Aside0 (w13.heap[gb127]? = some (.cells #[.string a1_0, .string a1_1, .string a1_2, .string a1_3, .string a1_4] 23 (0, 0))) := ⟨h1_⟩
               have n2_ : Aside0 (w13.heap[gb141]? = some (.cells #[.string (⟨#[]⟩ : ByteArray), .string (⟨#[]⟩ : ByteArray), .string (⟨#[]⟩ : ByteArray), .bool false, .string (⟨#[]⟩ : ByteArray), .string (⟨#[]⟩ : ByteArray)] 40 (0, 0))) := ⟨h2_⟩
               have n3_ : Aside0 (w.heap.size ≤ gb141) := ⟨h3_⟩
               have n4_ : Aside0 (w.heap.size ≤ gb141) := ⟨h4_⟩
               have n5_ : Aside0 (gb126 ≠ gb141) := ⟨h5_⟩
               have n6_ : Aside0 (gb141 ≠ gb126) := ⟨h6_⟩
               have n7_ : Aside0 (gb127 ≠ gb141) := ⟨h7_⟩
               have n8_ : Aside0 (gb141 ≠ gb127) := ⟨h8_⟩
               have n9_ : Aside0 (Below w.heap.size w w13) := ⟨h9_⟩
               clear BK126
               clear BK127
               clear HB
               clear h0_ h1_ h2_ h3_ h4_ h5_ h6_ h7_ h8_ h9_
               have BK126 := n0_
               have BK127 := n1_
               have BK141 := n2_
               have GW141 := n3_
               have GE141 := n4_
               have NB126_141 := n5_
               have NB141_126 := n6_
               have NB127_141 := n7_
               have NB141_127 := n8_
               have HB := n9_
               clear n0_ n1_ n2_ n3_ n4_ n5_ n6_ n7_ n8_ n9_
               have hHeld : w13.cell? ⟨gb126, 0, none⟩ = some (.string a0_0) ∧ w13.cell? ⟨gb126, 1, none⟩ = some (.string a0_1) ∧ w13.cell? ⟨gb126, 2, none⟩ = some (.string a0_2) ∧ w13.cell? ⟨gb126, 3, none⟩ = some (.string a0_3) ∧ w13.cell? ⟨gb126, 4, none⟩ = some (.string a0_4) ∧ w13.cell? ⟨gb127, 0, none⟩ = some (.string a1_0) ∧ w13.cell? ⟨gb127, 1, none⟩ = some (.string a1_1) ∧ w13.cell? ⟨gb127, 2, none⟩ = some (.string a1_2) ∧ w13.cell? ⟨gb127, 3, none⟩ = some (.string a1_3) ∧ w13.cell? ⟨gb127, 4, none⟩ = some (.string a1_4) := hS_
               refine norm_ (a' := ?_) ?_ ?_
               rotate_left
               · simp only [putAll, Act.put, List.setIfInBounds_toArray, List.set_cons_zero, List.set_cons_succ]
                 rfl
               refine two_ (i := 3) (j := 4) (Ni := some 12) (Nj := some 7) b6_ b7_ rfl rfl rfl rfl (two_of HT_.out (by kernel_rfl)) (by decide) (by decide) (fun K hK => ?_) (fun K hK => ?_)
               · skip
                 refine goes_ Try.func16 (by kernel_rfl) rfl #[.agg #[.string a1_0, .string a1_1, .string a1_2, .string a1_3, .string a1_4]] (by rfl) rfl rfl (by (try simp only [List.map_toArray, List.map_cons, List.map_nil]); first | done | rfl | (simp only [List.length_drop, List.length_take]; rfl)) ?_
                 with_reducible refine (impl_id.calls a1_0 a1_1 a1_2 a1_3 a1_4 t134 t135 t136 t137 t138 t139 _ A4.out).mono ?_
                 rintro e w14 ⟨rfl, hb⟩
                 refine ⟨_, rfl, ?_⟩
                 have n0_ := Aside0.mk (blk_below (g := gb126) (o := .cells #[.string a0_0, .string a0_1, .string a0_2, .string a0_3, .string a0_4] 23 (0, 0)) (by (with_reducible repeat (first | refine blk_drewN ?_ _ | refine blk_drew ?_ | refine blk_alloc ?_ _)); exact BK126.out) hb)
                 have n1_ := Aside0.mk (blk_below (g := gb127) (o := .cells #[.string a1_0, .string a1_1, .string a1_2, .string a1_3, .string a1_4] 23 (0, 0)) (by (with_reducible repeat (first | refine blk_drewN ?_ _ | refine blk_drew ?_ | refine blk_alloc ?_ _)); exact BK127.out) hb)
                 have n2_ := Aside0.mk (blk_below (g := gb141) (o := .cells #[.string (⟨#[]⟩ : ByteArray), .string (⟨#[]⟩ : ByteArray), .string (⟨#[]⟩ : ByteArray), .bool false, .string (⟨#[]⟩ : ByteArray), .string (⟨#[]⟩ : ByteArray)] 40 (0, 0)) (by (with_reducible repeat (first | refine blk_drewN ?_ _ | refine blk_drew ?_ | refine blk_alloc ?_ _)); exact BK141.out) hb)
                 have n3_ := Aside0.mk (below_step (by repeat (first | (with_reducible first | exact HB.out | apply below_alloc | apply pw_below_drewN | apply below_drew1 | refine below_set ?_ GE126.out | refine below_set ?_ GE127.out | refine below_set ?_ GE141.out) | exact HB.out)) hb)
                 clear BK126
                 clear BK127
                 clear BK141
                 clear HB
                 have BK126 := n0_
                 have BK127 := n1_
                 have BK141 := n2_
                 have HB := n3_
                 clear n0_ n1_ n2_ n3_
                 (try clear hb)
                 (try clear hb2)
                 (try clear hk)
                 (try clear hi)
                 refine hK.out _ _ ⟨HVia.bc BK126 0 rfl, HVia.bc BK126 1 rfl, HVia.bc BK126 2 rfl, HVia.bc BK126 3 rfl, HVia.bc BK126 4 rfl, HVia.bc BK127 0 rfl, HVia.bc BK127 1 rfl, HVia.bc BK127 2 rfl, HVia.bc BK127 3 rfl, HVia.bc BK127 4 rfl⟩ (fun hHeld => ?_)
                 clear hK K
                 refine norm_ (a' := ?_) ?_ ?_
                 rotate_left
                 · show Act.put _ (some 12) _ = _
                   simp only [Act.put, List.setIfInBounds_toArray, List.set_cons_zero, List.set_cons_succ, i64_w, i32_w]
                   rfl
                 exact norm_ (by first | (simp only [putAll, Act.put, List.setIfInBounds_toArray, List.set_cons_zero, List.set_cons_succ]; done) | (simp only [putAll, Act.put, List.setIfInBounds_toArray, List.set_cons_zero, List.set_cons_succ]; rfl)) (hJ1_3_5 (gb141) _ ⟨hHeld, (by (with_reducible repeat (first | refine blk_drewN ?_ _ | refine blk_drew ?_ | refine blk_alloc ?_ _)); exact BK126.out), (by (with_reducible repeat (first | refine blk_drewN ?_ _ | refine blk_drew ?_ | refine blk_alloc ?_ _)); exact BK127.out), (by (with_reducible repeat (first | refine blk_drewN ?_ _ | refine blk_drew ?_ | refine blk_alloc ?_ _)); exact BK141.out), GW141.out, GE141.out, NB126_141.out, NB141_126.out, NB127_141.out, NB141_127.out, (by repeat (first | (with_reducible first | exact HB.out | apply below_alloc | apply pw_below_drewN | apply below_drew1 | refine below_set ?_ GE126.out | refine below_set ?_ GE127.out | refine below_set ?_ GE141.out) | exact HB.out))⟩)
               · skip
                 refine box_step ?hg (N := 7) ?hd (cs := #[.string (⟨#[]⟩ : ByteArray), .string (⟨#[]⟩ : ByteArray), .string (⟨#[]⟩ : ByteArray), .bool false, .string (⟨#[]⟩ : ByteArray), .string (⟨#[]⟩ : ByteArray)]) (t := 40) ?hr ?_; (case hd => rfl); (case hg => rfl); (case hr => first | (go_simp; done) | (go_simp; rfl))
                 intro gb140 hg w14 hbox hb
                 have n0_ := Aside0.mk (blk_below (g := gb126) (o := .cells #[.string a0_0, .string a0_1, .string a0_2, .string a0_3, .string a0_4] 23 (0, 0)) (by (with_reducible repeat (first | refine blk_drewN ?_ _ | refine blk_drew ?_ | refine blk_alloc ?_ _)); exact BK126.out) hb)
                 have n1_ := Aside0.mk (blk_below (g := gb127) (o := .cells #[.string a1_0, .string a1_1, .string a1_2, .string a1_3, .string a1_4] 23 (0, 0)) (by (with_reducible repeat (first | refine blk_drewN ?_ _ | refine blk_drew ?_ | refine blk_alloc ?_ _)); exact BK127.out) hb)
                 have n2_ := Aside0.mk (blk_below (g := gb141) (o := .cells #[.string (⟨#[]⟩ : ByteArray), .string (⟨#[]⟩ : ByteArray), .string (⟨#[]⟩ : ByteArray), .bool false, .string (⟨#[]⟩ : ByteArray), .string (⟨#[]⟩ : ByteArray)] 40 (0, 0)) (by (with_reducible repeat (first | refine blk_drewN ?_ _ | refine blk_drew ?_ | refine blk_alloc ?_ _)); exact BK141.out) hb)
                 have n3_ := Aside0.mk (below_step (by repeat (first | (with_reducible first | exact HB.out | apply below_alloc | apply pw_below_drewN | apply below_drew1 | refine below_set ?_ GE126.out | refine below_set ?_ GE127.out | refine below_set ?_ GE141.out) | exact HB.out)) hb)
                 have n4_ := Aside0.mk (hbox)
                 have n5_ := Aside0.mk ((by rw [hg]; exact (below_size (by repeat (first | (with_reducible first | exact HB.out | apply below_alloc | apply pw_below_drewN | apply below_drew1 | refine below_set ?_ GE126.out | refine below_set ?_ GE127.out | refine below_set ?_ GE141.out) | exact HB.out))) : w.heap.size ≤ gb140))
                 have n6_ := Aside0.mk ((by rw [hg]; exact (below_size (by repeat (first | (with_reducible first | exact HB.out | apply below_alloc | apply pw_below_drewN | apply below_drew1 | refine below_set ?_ GE126.out | refine below_set ?_ GE127.out | refine below_set ?_ GE141.out) | exact HB.out))) : w.heap.size ≤ gb140))
                 have n7_ := Aside0.mk ((by rw [hg]; exact Nat.ne_of_lt (blk_lt (g := gb126) (o := .cells #[.string a0_0, .string a0_1, .string a0_2, .string a0_3, .string a0_4] 23 (0, 0)) (by (with_reducible repeat (first | refine blk_drewN ?_ _ | refine blk_drew ?_ | refine blk_alloc ?_ _)); exact BK126.out)) : gb126 ≠ gb140))
                 have n8_ := Aside0.mk ((by rw [hg]; exact Nat.ne_of_gt (blk_lt (g := gb126) (o := .cells #[.string a0_0, .string a0_1, .string a0_2, .string a0_3, .string a0_4] 23 (0, 0)) (by (with_reducible repeat (first | refine blk_drewN ?_ _ | refine blk_drew ?_ | refine blk_alloc ?_ _)); exact BK126.out)) : gb140 ≠ gb126))
                 have n9_ := Aside0.mk ((by rw [hg]; exact Nat.ne_of_lt (blk_lt (g := gb127) (o := .cells #[.string a1_0, .string a1_1, .string a1_2, .string a1_3, .string a1_4] 23 (0, 0)) (by (with_reducible repeat (first | refine blk_drewN ?_ _ | refine blk_drew ?_ | refine blk_alloc ?_ _)); exact BK127.out)) : gb127 ≠ gb140))
                 have n10_ := Aside0.mk ((by rw [hg]; exact Nat.ne_of_gt (blk_lt (g := gb127) (o := .cells #[.string a1_0, .string a1_1, .string a1_2, .string a1_3, .string a1_4] 23 (0, 0)) (by (with_reducible repeat (first | refine blk_drewN ?_ _ | refine blk_drew ?_ | refine blk_alloc ?_ _)); exact BK127.out)) : gb140 ≠ gb127))
                 have n11_ := Aside0.mk ((by rw [hg]; exact Nat.ne_of_lt (blk_lt (g := gb141) (o := .cells #[.string (⟨#[]⟩ : ByteArray), .string (⟨#[]⟩ : ByteArray), .string (⟨#[]⟩ : ByteArray), .bool false, .string (⟨#[]⟩ : ByteArray), .string (⟨#[]⟩ : ByteArray)] 40 (0, 0)) (by (with_reducible repeat (first | refine blk_drewN ?_ _ | refine blk_drew ?_ | refine blk_alloc ?_ _)); exact BK141.out)) : gb141 ≠ gb140))
                 have n12_ := Aside0.mk ((by rw [hg]; exact Nat.ne_of_gt (blk_lt (g := gb141) (o := .cells #[.string (⟨#[]⟩ : ByteArray), .string (⟨#[]⟩ : ByteArray), .string (⟨#[]⟩ : ByteArray), .bool false, .string (⟨#[]⟩ : ByteArray), .string (⟨#[]⟩ : ByteArray)] 40 (0, 0)) (by (with_reducible repeat (first | refine blk_drewN ?_ _ | refine blk_drew ?_ | refine blk_alloc ?_ _)); exact BK141.out)) : gb140 ≠ gb141))
                 clear BK126
                 clear BK127
                 clear BK141
                 clear HB
                 have BK126 := n0_
                 have BK127 := n1_
                 have BK141 := n2_
                 have HB := n3_
                 have BK140 := n4_
                 have GW140 := n5_
                 have GE140 := n6_
                 have NB126_140 := n7_
                 have NB140_126 := n8_
                 have NB127_140 := n9_
                 have NB140_127 := n10_
                 have NB141_140 := n11_
                 have NB140_141 := n12_
                 clear n0_ n1_ n2_ n3_ n4_ n5_ n6_ n7_ n8_ n9_ n10_ n11_ n12_
                 clear hb hbox hg
                 refine hK.out _ _ ⟨HVia.bc BK126 0 rfl, HVia.bc BK126 1 rfl, HVia.bc BK126 2 rfl, HVia.bc BK126 3 rfl, HVia.bc BK126 4 rfl, HVia.bc BK127 0 rfl, HVia.bc BK127 1 rfl, HVia.bc BK127 2 rfl, HVia.bc BK127 3 rfl, HVia.bc BK127 4 rfl⟩ (fun hHeld => ?_)
                 clear hK K
                 refine norm_ (a' := ?_) ?_ ?_
                 rotate_left
                 · show Act.put _ (some 7) _ = _
                   simp only [Act.put, List.setIfInBounds_toArray, List.set_cons_zero, List.set_cons_succ, i64_w, i32_w]
                   rfl
                 exact norm_ (by first | (simp only [putAll, Act.put, List.setIfInBounds_toArray, List.set_cons_zero, List.set_cons_succ]; done) | (simp only [putAll, Act.put, List.setIfInBounds_toArray, List.set_cons_zero, List.set_cons_succ]; rfl)) (hJ1_4_5 (gb140, gb141) _ ⟨hHeld, (by (with_reducible repeat (first | refine blk_drewN ?_ _ | refine blk_drew ?_ | refine blk_alloc ?_ _)); exact BK126.out), (by (with_reducible repeat (first | refine blk_drewN ?_ _ | refine blk_drew ?_ | refine blk_alloc ?_ _)); exact BK127.out), (by (with_reducible repeat (first | refine blk_drewN ?_ _ | refine blk_drew ?_ | refine blk_alloc ?_ _)); exact BK140.out), (by (with_reducible repeat (first | refine blk_drewN ?_ _ | refine blk_drew ?_ | refine blk_alloc ?_ _)); exact BK141.out), GW140.out, GE140.out, NB126_140.out, NB140_126.out, NB127_140.out, NB140_127.out, NB141_140.out, NB140_141.out, GW141.out, GE141.out, NB126_141.out, NB141_126.out, NB127_141.out, NB141_127.out, (by repeat (first | (with_reducible first | exact HB.out | apply below_alloc | apply pw_below_drewN | apply below_drew1 | refine below_set ?_ GE126.out | refine below_set ?_ GE127.out | refine below_set ?_ GE141.out | refine below_set ?_ GE140.out) | exact HB.out))⟩)
           · skip
             rintro gb140 w13 ⟨hS_, h0_, h1_, h2_, h3_, h4_, h5_, h6_, h7_, h8_, h9_⟩
             have n0_ : Aside0 (w13.heap[gb126]? = some (.cells #[.string a0_0, .string a0_1, .string a0_2, .string a0_3, .string a0_4] 23 (0, 0))) := ⟨h0_⟩
             have n1_ : Aside0 (w13.heap[gb127]? = some (.cells #[.string a1_0, .string a1_1, .string a1_2, .string a1_3, .string a1_4] 23 (0, 0))) := ⟨h1_⟩
             have n2_ : Aside0 (w13.heap[gb140]? = some (.cells #[.string (⟨#[]⟩ : ByteArray), .string (⟨#[]⟩ : ByteArray), .string (⟨#[]⟩ : ByteArray), .bool false, .string (⟨#[]⟩ : ByteArray), .string (⟨#[]⟩ : ByteArray)] 40 (0, 0))) := ⟨h2_⟩
             have n3_ : Aside0 (w.heap.size ≤ gb140) := ⟨h3_⟩
             have n4_ : Aside0 (w.heap.size ≤ gb140) := ⟨h4_⟩
             have n5_ : Aside0 (gb126 ≠ gb140) := ⟨h5_⟩
             have n6_ : Aside0 (gb140 ≠ gb126) := ⟨h6_⟩
             have n7_ : Aside0 (gb127 ≠ gb140) := ⟨h7_⟩
             have n8_ : Aside0 (gb140 ≠ gb127) := ⟨h8_⟩
             have n9_ : Aside0 (Below w.heap.size w w13) := ⟨h9_⟩
             clear BK126
             clear BK127
             clear HB
             clear h0_ h1_ h2_ h3_ h4_ h5_ h6_ h7_ h8_ h9_
             have BK126 := n0_
             have BK127 := n1_
             have BK140 := n2_
             have GW140 := n3_
             have GE140 := n4_
             have NB126_140 := n5_
             have NB140_126 := n6_
             have NB127_140 := n7_
             have NB140_127 := n8_
             have HB := n9_
             clear n0_ n1_ n2_ n3_ n4_ n5_ n6_ n7_ n8_ n9_
             have hHeld : w13.cell? ⟨gb126, 0, none⟩ = some (.string a0_0) ∧ w13.cell? ⟨gb126, 1, none⟩ = some (.string a0_1) ∧ w13.cell? ⟨gb126, 2, none⟩ = some (.string a0_2) ∧ w13.cell? ⟨gb126, 3, none⟩ = some (.string a0_3) ∧ w13.cell? ⟨gb126, 4, none⟩ = some (.string a0_4) ∧ w13.cell? ⟨gb127, 0, none⟩ = some (.string a1_0) ∧ w13.cell? ⟨gb127, 1, none⟩ = some (.string a1_1) ∧ w13.cell? ⟨gb127, 2, none⟩ = some (.string a1_2) ∧ w13.cell? ⟨gb127, 3, none⟩ = some (.string a1_3) ∧ w13.cell? ⟨gb127, 4, none⟩ = some (.string a1_4) := hS_
             refine norm_ (a' := ?_) ?_ ?_
             rotate_left
             · simp only [putAll, Act.put, List.setIfInBounds_toArray, List.set_cons_zero, List.set_cons_succ]
               rfl
             refine two_ (i := 3) (j := 5) (Ni := some 12) (Nj := some 8) b5_ b7_ rfl rfl rfl rfl (two_of HT_.out (by kernel_rfl)) (by decide) (by decide) (fun K hK => ?_) (fun K hK => ?_)
             · skip
               refine goes_ Try.func16 (by kernel_rfl) rfl #[.agg #[.string a1_0, .string a1_1, .string a1_2, .string a1_3, .string a1_4]] (by rfl) rfl rfl (by (try simp only [List.map_toArray, List.map_cons, List.map_nil]); first | done | rfl | (simp only [List.length_drop, List.length_take]; rfl)) ?_
               with_reducible refine (impl_id.calls a1_0 a1_1 a1_2 a1_3 a1_4 t134 t135 t136 t137 t138 t139 _ A4.out).mono ?_
               rintro e w14 ⟨rfl, hb⟩
               refine ⟨_, rfl, ?_⟩
               have n0_ := Aside0.mk (blk_below (g := gb126) (o := .cells #[.string a0_0, .string a0_1, .string a0_2, .string a0_3, .string a0_4] 23 (0, 0)) (by (with_reducible repeat (first | refine blk_drewN ?_ _ | refine blk_drew ?_ | refine blk_alloc ?_ _)); exact BK126.out) hb)
               have n1_ := Aside0.mk (blk_below (g := gb127) (o := .cells #[.string a1_0, .string a1_1, .string a1_2, .string a1_3, .string a1_4] 23 (0, 0)) (by (with_reducible repeat (first | refine blk_drewN ?_ _ | refine blk_drew ?_ | refine blk_alloc ?_ _)); exact BK127.out) hb)
               have n2_ := Aside0.mk (blk_below (g := gb140) (o := .cells #[.string (⟨#[]⟩ : ByteArray), .string (⟨#[]⟩ : ByteArray), .string (⟨#[]⟩ : ByteArray), .bool false, .string (⟨#[]⟩ : ByteArray), .string (⟨#[]⟩ : ByteArray)] 40 (0, 0)) (by (with_reducible repeat (first | refine blk_drewN ?_ _ | refine blk_drew ?_ | refine blk_alloc ?_ _)); exact BK140.out) hb)
               have n3_ := Aside0.mk (below_step (by repeat (first | (with_reducible first | exact HB.out | apply below_alloc | apply pw_below_drewN | apply below_drew1 | refine below_set ?_ GE126.out | refine below_set ?_ GE127.out | refine below_set ?_ GE140.out) | exact HB.out)) hb)
               clear BK126
               clear BK127
               clear BK140
               clear HB
               have BK126 := n0_
               have BK127 := n1_
               have BK140 := n2_
               have HB := n3_
               clear n0_ n1_ n2_ n3_
               (try clear hb)
               (try clear hb2)
               (try clear hk)
               (try clear hi)
               refine hK.out _ _ ⟨HVia.bc BK126 0 rfl, HVia.bc BK126 1 rfl, HVia.bc BK126 2 rfl, HVia.bc BK126 3 rfl, HVia.bc BK126 4 rfl, HVia.bc BK127 0 rfl, HVia.bc BK127 1 rfl, HVia.bc BK127 2 rfl, HVia.bc BK127 3 rfl, HVia.bc BK127 4 rfl⟩ (fun hHeld => ?_)
               clear hK K
               refine norm_ (a' := ?_) ?_ ?_
               rotate_left
               · show Act.put _ (some 12) _ = _
                 simp only [Act.put, List.setIfInBounds_toArray, List.set_cons_zero, List.set_cons_succ, i64_w, i32_w]
                 rfl
               exact norm_ (by first | (simp only [putAll, Act.put, List.setIfInBounds_toArray, List.set_cons_zero, List.set_cons_succ]; done) | (simp only [putAll, Act.put, List.setIfInBounds_toArray, List.set_cons_zero, List.set_cons_succ]; rfl)) (hJ1_3_4 (gb140) _ ⟨hHeld, (by (with_reducible repeat (first | refine blk_drewN ?_ _ | refine blk_drew ?_ | refine blk_alloc ?_ _)); exact BK126.out), (by (with_reducible repeat (first | refine blk_drewN ?_ _ | refine blk_drew ?_ | refine blk_alloc ?_ _)); exact BK127.out), (by (with_reducible repeat (first | refine blk_drewN ?_ _ | refine blk_drew ?_ | refine blk_alloc ?_ _)); exact BK140.out), GW140.out, GE140.out, NB126_140.out, NB140_126.out, NB127_140.out, NB140_127.out, (by repeat (first | (with_reducible first | exact HB.out | apply below_alloc | apply pw_below_drewN | apply below_drew1 | refine below_set ?_ GE126.out | refine below_set ?_ GE127.out | refine below_set ?_ GE140.out) | exact HB.out))⟩)
             · skip
               refine box_step ?hg (N := 8) ?hd (cs := #[.string (⟨#[]⟩ : ByteArray), .string (⟨#[]⟩ : ByteArray), .string (⟨#[]⟩ : ByteArray), .bool false, .string (⟨#[]⟩ : ByteArray), .string (⟨#[]⟩ : ByteArray)]) (t := 40) ?hr ?_; (case hd => rfl); (case hg => rfl); (case hr => first | (go_simp; done) | (go_simp; rfl))
               intro gb141 hg w14 hbox hb
               have n0_ := Aside0.mk (blk_below (g := gb126) (o := .cells #[.string a0_0, .string a0_1, .string a0_2, .string a0_3, .string a0_4] 23 (0, 0)) (by (with_reducible repeat (first | refine blk_drewN ?_ _ | refine blk_drew ?_ | refine blk_alloc ?_ _)); exact BK126.out) hb)
               have n1_ := Aside0.mk (blk_below (g := gb127) (o := .cells #[.string a1_0, .string a1_1, .string a1_2, .string a1_3, .string a1_4] 23 (0, 0)) (by (with_reducible repeat (first | refine blk_drewN ?_ _ | refine blk_drew ?_ | refine blk_alloc ?_ _)); exact BK127.out) hb)
               have n2_ := Aside0.mk (blk_below (g := gb140) (o := .cells #[.string (⟨#[]⟩ : ByteArray), .string (⟨#[]⟩ : ByteArray), .string (⟨#[]⟩ : ByteArray), .bool false, .string (⟨#[]⟩ : ByteArray), .string (⟨#[]⟩ : ByteArray)] 40 (0, 0)) (by (with_reducible repeat (first | refine blk_drewN ?_ _ | refine blk_drew ?_ | refine blk_alloc ?_ _)); exact BK140.out) hb)
               have n3_ := Aside0.mk (below_step (by repeat (first | (with_reducible first | exact HB.out | apply below_alloc | apply pw_below_drewN | apply below_drew1 | refine below_set ?_ GE126.out | refine below_set ?_ GE127.out | refine below_set ?_ GE140.out) | exact HB.out)) hb)
               have n4_ := Aside0.mk (hbox)
               have n5_ := Aside0.mk ((by rw [hg]; exact (below_size (by repeat (first | (with_reducible first | exact HB.out | apply below_alloc | apply pw_below_drewN | apply below_drew1 | refine below_set ?_ GE126.out | refine below_set ?_ GE127.out | refine below_set ?_ GE140.out) | exact HB.out))) : w.heap.size ≤ gb141))
               have n6_ := Aside0.mk ((by rw [hg]; exact (below_size (by repeat (first | (with_reducible first | exact HB.out | apply below_alloc | apply pw_below_drewN | apply below_drew1 | refine below_set ?_ GE126.out | refine below_set ?_ GE127.out | refine below_set ?_ GE140.out) | exact HB.out))) : w.heap.size ≤ gb141))
               have n7_ := Aside0.mk ((by rw [hg]; exact Nat.ne_of_lt (blk_lt (g := gb126) (o := .cells #[.string a0_0, .string a0_1, .string a0_2, .string a0_3, .string a0_4] 23 (0, 0)) (by (with_reducible repeat (first | refine blk_drewN ?_ _ | refine blk_drew ?_ | refine blk_alloc ?_ _)); exact BK126.out)) : gb126 ≠ gb141))
               have n8_ := Aside0.mk ((by rw [hg]; exact Nat.ne_of_gt (blk_lt (g := gb126) (o := .cells #[.string a0_0, .string a0_1, .string a0_2, .string a0_3, .string a0_4] 23 (0, 0)) (by (with_reducible repeat (first | refine blk_drewN ?_ _ | refine blk_drew ?_ | refine blk_alloc ?_ _)); exact BK126.out)) : gb141 ≠ gb126))
               have n9_ := Aside0.mk ((by rw [hg]; exact Nat.ne_of_lt (blk_lt (g := gb127) (o := .cells #[.string a1_0, .string a1_1, .string a1_2, .string a1_3, .string a1_4] 23 (0, 0)) (by (with_reducible repeat (first | refine blk_drewN ?_ _ | refine blk_drew ?_ | refine blk_alloc ?_ _)); exact BK127.out)) : gb127 ≠ gb141))
               have n10_ := Aside0.mk ((by rw [hg]; exact Nat.ne_of_gt (blk_lt (g := gb127) (o := .cells #[.string a1_0, .string a1_1, .string a1_2, .string a1_3, .string a1_4] 23 (0, 0)) (by (with_reducible repeat (first | refine blk_drewN ?_ _ | refine blk_drew ?_ | refine blk_alloc ?_ _)); exact BK127.out)) : gb141 ≠ gb127))
               have n11_ := Aside0.mk ((by rw [hg]; exact Nat.ne_of_lt (blk_lt (g := gb140) (o := .cells #[.string (⟨#[]⟩ : ByteArray), .string (⟨#[]⟩ : ByteArray), .string (⟨#[]⟩ : ByteArray), .bool false, .string (⟨#[]⟩ : ByteArray), .string (⟨#[]⟩ : ByteArray)] 40 (0, 0)) (by (with_reducible repeat (first | refine blk_drewN ?_ _ | refine blk_drew ?_ | refine blk_alloc ?_ _)); exact BK140.out)) : gb140 ≠ gb141))
               have n12_ := Aside0.mk ((by rw [hg]; exact Nat.ne_of_gt (blk_lt (g := gb140) (o := .cells #[.string (⟨#[]⟩ : ByteArray), .string (⟨#[]⟩ : ByteArray), .string (⟨#[]⟩ : ByteArray), .bool false, .string (⟨#[]⟩ : ByteArray), .string (⟨#[]⟩ : ByteArray)] 40 (0, 0)) (by (with_reducible repeat (first | refine blk_drewN ?_ _ | refine blk_drew ?_ | refine blk_alloc ?_ _)); exact BK140.out)) : gb141 ≠ gb140))
               clear BK126
               clear BK127
               clear BK140
               clear HB
               have BK126 := n0_
               have BK127 := n1_
               have BK140 := n2_
               have HB := n3_
               have BK141 := n4_
               have GW141 := n5_
               have GE141 := n6_
               have NB126_141 := n7_
               have NB141_126 := n8_
               have NB127_141 := n9_
               have NB141_127 := n10_
               have NB140_141 := n11_
               have NB141_140 := n12_
               clear n0_ n1_ n2_ n3_ n4_ n5_ n6_ n7_ n8_ n9_ n10_ n11_ n12_
               clear hb hbox hg
               refine hK.out _ _ ⟨HVia.bc BK126 0 rfl, HVia.bc BK126 1 rfl, HVia.bc BK126 2 rfl, HVia.bc BK126 3 rfl, HVia.bc BK126 4 rfl, HVia.bc BK127 0 rfl, HVia.bc BK127 1 rfl, HVia.bc BK127 2 rfl, HVia.bc BK127 3 rfl, HVia.bc BK127 4 rfl⟩ (fun hHeld => ?_)
               clear hK K
               refine norm_ (a' := ?_) ?_ ?_
               rotate_left
               · show Act.put _ (some 8) _ = _
                 simp only [Act.put, List.setIfInBounds_toArray, List.set_cons_zero, List.set_cons_succ, i64_w, i32_w]
                 rfl
               exact norm_ (by first | (simp only [putAll, Act.put, List.setIfInBounds_toArray, List.set_cons_zero, List.set_cons_succ]; done) | (simp only [putAll, Act.put, List.setIfInBounds_toArray, List.set_cons_zero, List.set_cons_succ]; rfl)) (hJ1_4_5 (gb140, gb141) _ ⟨hHeld, (by (with_reducible repeat (first | refine blk_drewN ?_ _ | refine blk_drew ?_ | refine blk_alloc ?_ _)); exact BK126.out), (by (with_reducible repeat (first | refine blk_drewN ?_ _ | refine blk_drew ?_ | refine blk_alloc ?_ _)); exact BK127.out), (by (with_reducible repeat (first | refine blk_drewN ?_ _ | refine blk_drew ?_ | refine blk_alloc ?_ _)); exact BK140.out), (by (with_reducible repeat (first | refine blk_drewN ?_ _ | refine blk_drew ?_ | refine blk_alloc ?_ _)); exact BK141.out), GW140.out, GE140.out, NB126_140.out, NB140_126.out, NB127_140.out, NB140_127.out, NB141_140.out, NB140_141.out, GW141.out, GE141.out, NB126_141.out, NB141_126.out, NB127_141.out, NB141_127.out, (by repeat (first | (with_reducible first | exact HB.out | apply below_alloc | apply pw_below_drewN | apply below_drew1 | refine below_set ?_ GE126.out | refine below_set ?_ GE127.out | refine below_set ?_ GE140.out | refine below_set ?_ GE141.out) | exact HB.out))⟩)
         · skip
           rintro _ w13 ⟨hS_, h0_, h1_, h2_⟩
           have n0_ : Aside0 (w13.heap[gb126]? = some (.cells #[.string a0_0, .string a0_1, .string a0_2, .string a0_3, .string a0_4] 23 (0, 0))) := ⟨h0_⟩
           have n1_ : Aside0 (w13.heap[gb127]? = some (.cells #[.string a1_0, .string a1_1, .string a1_2, .string a1_3, .string a1_4] 23 (0, 0))) := ⟨h1_⟩
           have n2_ : Aside0 (Below w.heap.size w w13) := ⟨h2_⟩
           clear BK126
           clear BK127
           clear HB
           clear h0_ h1_ h2_
           have BK126 := n0_
           have BK127 := n1_
           have HB := n2_
           clear n0_ n1_ n2_
           have hHeld : w13.cell? ⟨gb126, 0, none⟩ = some (.string a0_0) ∧ w13.cell? ⟨gb126, 1, none⟩ = some (.string a0_1) ∧ w13.cell? ⟨gb126, 2, none⟩ = some (.string a0_2) ∧ w13.cell? ⟨gb126, 3, none⟩ = some (.string a0_3) ∧ w13.cell? ⟨gb126, 4, none⟩ = some (.string a0_4) ∧ w13.cell? ⟨gb127, 0, none⟩ = some (.string a1_0) ∧ w13.cell? ⟨gb127, 1, none⟩ = some (.string a1_1) ∧ w13.cell? ⟨gb127, 2, none⟩ = some (.string a1_2) ∧ w13.cell? ⟨gb127, 3, none⟩ = some (.string a1_3) ∧ w13.cell? ⟨gb127, 4, none⟩ = some (.string a1_4) := hS_
           refine norm_ (a' := ?_) ?_ ?_
           rotate_left
           · simp only [putAll, Act.put, List.setIfInBounds_toArray, List.set_cons_zero, List.set_cons_succ]
             rfl
           refine two_ (i := 4) (j := 5) (Ni := some 7) (Nj := some 8) b5_ b6_ rfl rfl rfl rfl (two_of HT_.out (by kernel_rfl)) (by decide) (by decide) (fun K hK => ?_) (fun K hK => ?_)
           · skip
             refine box_step ?hg (N := 7) ?hd (cs := #[.string (⟨#[]⟩ : ByteArray), .string (⟨#[]⟩ : ByteArray), .string (⟨#[]⟩ : ByteArray), .bool false, .string (⟨#[]⟩ : ByteArray), .string (⟨#[]⟩ : ByteArray)]) (t := 40) ?hr ?_; (case hd => rfl); (case hg => rfl); (case hr => first | (go_simp; done) | (go_simp; rfl))
             intro gb140 hg w14 hbox hb
             have n0_ := Aside0.mk (blk_below (g := gb126) (o := .cells #[.string a0_0, .string a0_1, .string a0_2, .string a0_3, .string a0_4] 23 (0, 0)) (by (with_reducible repeat (first | refine blk_drewN ?_ _ | refine blk_drew ?_ | refine blk_alloc ?_ _)); exact BK126.out) hb)
             have n1_ := Aside0.mk (blk_below (g := gb127) (o := .cells #[.string a1_0, .string a1_1, .string a1_2, .string a1_3, .string a1_4] 23 (0, 0)) (by (with_reducible repeat (first | refine blk_drewN ?_ _ | refine blk_drew ?_ | refine blk_alloc ?_ _)); exact BK127.out) hb)
             have n2_ := Aside0.mk (below_step (by repeat (first | (with_reducible first | exact HB.out | apply below_alloc | apply pw_below_drewN | apply below_drew1 | refine below_set ?_ GE126.out | refine below_set ?_ GE127.out) | exact HB.out)) hb)
             have n3_ := Aside0.mk (hbox)
             have n4_ := Aside0.mk ((by rw [hg]; exact (below_size (by repeat (first | (with_reducible first | exact HB.out | apply below_alloc | apply pw_below_drewN | apply below_drew1 | refine below_set ?_ GE126.out | refine below_set ?_ GE127.out) | exact HB.out))) : w.heap.size ≤ gb140))
             have n5_ := Aside0.mk ((by rw [hg]; exact (below_size (by repeat (first | (with_reducible first | exact HB.out | apply below_alloc | apply pw_below_drewN | apply below_drew1 | refine below_set ?_ GE126.out | refine below_set ?_ GE127.out) | exact HB.out))) : w.heap.size ≤ gb140))
             have n6_ := Aside0.mk ((by rw [hg]; exact Nat.ne_of_lt (blk_lt (g := gb126) (o := .cells #[.string a0_0, .string a0_1, .string a0_2, .string a0_3, .string a0_4] 23 (0, 0)) (by (with_reducible repeat (first | refine blk_drewN ?_ _ | refine blk_drew ?_ | refine blk_alloc ?_ _)); exact BK126.out)) : gb126 ≠ gb140))
             have n7_ := Aside0.mk ((by rw [hg]; exact Nat.ne_of_gt (blk_lt (g := gb126) (o := .cells #[.string a0_0, .string a0_1, .string a0_2, .string a0_3, .string a0_4] 23 (0, 0)) (by (with_reducible repeat (first | refine blk_drewN ?_ _ | refine blk_drew ?_ | refine blk_alloc ?_ _)); exact BK126.out)) : gb140 ≠ gb126))
             have n8_ := Aside0.mk ((by rw [hg]; exact Nat.ne_of_lt (blk_lt (g := gb127) (o := .cells #[.string a1_0, .string a1_1, .string a1_2, .string a1_3, .string a1_4] 23 (0, 0)) (by (with_reducible repeat (first | refine blk_drewN ?_ _ | refine blk_drew ?_ | refine blk_alloc ?_ _)); exact BK127.out)) : gb127 ≠ gb140))
             have n9_ := Aside0.mk ((by rw [hg]; exact Nat.ne_of_gt (blk_lt (g := gb127) (o := .cells #[.string a1_0, .string a1_1, .string a1_2, .string a1_3, .string a1_4] 23 (0, 0)) (by (with_reducible repeat (first | refine blk_drewN ?_ _ | refine blk_drew ?_ | refine blk_alloc ?_ _)); exact BK127.out)) : gb140 ≠ gb127))
             clear BK126
             clear BK127
             clear HB
             have BK126 := n0_
             have BK127 := n1_
             have HB := n2_
             have BK140 := n3_
             have GW140 := n4_
             have GE140 := n5_
             have NB126_140 := n6_
             have NB140_126 := n7_
             have NB127_140 := n8_
             have NB140_127 := n9_
             clear n0_ n1_ n2_ n3_ n4_ n5_ n6_ n7_ n8_ n9_
             clear hb hbox hg
             refine hK.out _ _ ⟨HVia.bc BK126 0 rfl, HVia.bc BK126 1 rfl, HVia.bc BK126 2 rfl, HVia.bc BK126 3 rfl, HVia.bc BK126 4 rfl, HVia.bc BK127 0 rfl, HVia.bc BK127 1 rfl, HVia.bc BK127 2 rfl, HVia.bc BK127 3 rfl, HVia.bc BK127 4 rfl⟩ (fun hHeld => ?_)
             clear hK K
             refine norm_ (a' := ?_) ?_ ?_
             rotate_left
             · show Act.put _ (some 7) _ = _
               simp only [Act.put, List.setIfInBounds_toArray, List.set_cons_zero, List.set_cons_succ, i64_w, i32_w]
               rfl
             exact norm_ (by first | (simp only [putAll, Act.put, List.setIfInBounds_toArray, List.set_cons_zero, List.set_cons_succ]; done) | (simp only [putAll, Act.put, List.setIfInBounds_toArray, List.set_cons_zero, List.set_cons_succ]; rfl)) (hJ1_3_4 (gb140) _ ⟨hHeld, (by (with_reducible repeat (first | refine blk_drewN ?_ _ | refine blk_drew ?_ | refine blk_alloc ?_ _)); exact BK126.out), (by (with_reducible repeat (first | refine blk_drewN ?_ _ | refine blk_drew ?_ | refine blk_alloc ?_ _)); exact BK127.out), (by (with_reducible repeat (first | refine blk_drewN ?_ _ | refine blk_drew ?_ | refine blk_alloc ?_ _)); exact BK140.out), GW140.out, GE140.out, NB126_140.out, NB140_126.out, NB127_140.out, NB140_127.out, (by repeat (first | (with_reducible first | exact HB.out | apply below_alloc | apply pw_below_drewN | apply below_drew1 | refine below_set ?_ GE126.out | refine below_set ?_ GE127.out | refine below_set ?_ GE140.out) | exact HB.out))⟩)
           · skip
             refine box_step ?hg (N := 8) ?hd (cs := #[.string (⟨#[]⟩ : ByteArray), .string (⟨#[]⟩ : ByteArray), .string (⟨#[]⟩ : ByteArray), .bool false, .string (⟨#[]⟩ : ByteArray), .string (⟨#[]⟩ : ByteArray)]) (t := 40) ?hr ?_; (case hd => rfl); (case hg => rfl); (case hr => first | (go_simp; done) | (go_simp; rfl))
             intro gb141 hg w14 hbox hb
             have n0_ := Aside0.mk (blk_below (g := gb126) (o := .cells #[.string a0_0, .string a0_1, .string a0_2, .string a0_3, .string a0_4] 23 (0, 0)) (by (with_reducible repeat (first | refine blk_drewN ?_ _ | refine blk_drew ?_ | refine blk_alloc ?_ _)); exact BK126.out) hb)
             have n1_ := Aside0.mk (blk_below (g := gb127) (o := .cells #[.string a1_0, .string a1_1, .string a1_2, .string a1_3, .string a1_4] 23 (0, 0)) (by (with_reducible repeat (first | refine blk_drewN ?_ _ | refine blk_drew ?_ | refine blk_alloc ?_ _)); exact BK127.out) hb)
             have n2_ := Aside0.mk (below_step (by repeat (first | (with_reducible first | exact HB.out | apply below_alloc | apply pw_below_drewN | apply below_drew1 | refine below_set ?_ GE126.out | refine below_set ?_ GE127.out) | exact HB.out)) hb)
             have n3_ := Aside0.mk (hbox)
             have n4_ := Aside0.mk ((by rw [hg]; exact (below_size (by repeat (first | (with_reducible first | exact HB.out | apply below_alloc | apply pw_below_drewN | apply below_drew1 | refine below_set ?_ GE126.out | refine below_set ?_ GE127.out) | exact HB.out))) : w.heap.size ≤ gb141))
             have n5_ := Aside0.mk ((by rw [hg]; exact (below_size (by repeat (first | (with_reducible first | exact HB.out | apply below_alloc | apply pw_below_drewN | apply below_drew1 | refine below_set ?_ GE126.out | refine below_set ?_ GE127.out) | exact HB.out))) : w.heap.size ≤ gb141))
             have n6_ := Aside0.mk ((by rw [hg]; exact Nat.ne_of_lt (blk_lt (g := gb126) (o := .cells #[.string a0_0, .string a0_1, .string a0_2, .string a0_3, .string a0_4] 23 (0, 0)) (by (with_reducible repeat (first | refine blk_drewN ?_ _ | refine blk_drew ?_ | refine blk_alloc ?_ _)); exact BK126.out)) : gb126 ≠ gb141))
             have n7_ := Aside0.mk ((by rw [hg]; exact Nat.ne_of_gt (blk_lt (g := gb126) (o := .cells #[.string a0_0, .string a0_1, .string a0_2, .string a0_3, .string a0_4] 23 (0, 0)) (by (with_reducible repeat (first | refine blk_drewN ?_ _ | refine blk_drew ?_ | refine blk_alloc ?_ _)); exact BK126.out)) : gb141 ≠ gb126))
             have n8_ := Aside0.mk ((by rw [hg]; exact Nat.ne_of_lt (blk_lt (g := gb127) (o := .cells #[.string a1_0, .string a1_1, .string a1_2, .string a1_3, .string a1_4] 23 (0, 0)) (by (with_reducible repeat (first | refine blk_drewN ?_ _ | refine blk_drew ?_ | refine blk_alloc ?_ _)); exact BK127.out)) : gb127 ≠ gb141))
             have n9_ := Aside0.mk ((by rw [hg]; exact Nat.ne_of_gt (blk_lt (g := gb127) (o := .cells #[.string a1_0, .string a1_1, .string a1_2, .string a1_3, .string a1_4] 23 (0, 0)) (by (with_reducible repeat (first | refine blk_drewN ?_ _ | refine blk_drew ?_ | refine blk_alloc ?_ _)); exact BK127.out)) : gb141 ≠ gb127))
             clear BK126
             clear BK127
             clear HB
             have BK126 := n0_
             have BK127 := n1_
             have HB := n2_
             have BK141 := n3_
             have GW141 := n4_
             have GE141 := n5_
             have NB126_141 := n6_
             have NB141_126 := n7_
             have NB127_141 := n8_
             have NB141_127 := n9_
             clear n0_ n1_ n2_ n3_ n4_ n5_ n6_ n7_ n8_ n9_
             clear hb hbox hg
             refine hK.out _ _ ⟨HVia.bc BK126 0 rfl, HVia.bc BK126 1 rfl, HVia.bc BK126 2 rfl, HVia.bc BK126 3 rfl, HVia.bc BK126 4 rfl, HVia.bc BK127 0 rfl, HVia.bc BK127 1 rfl, HVia.bc BK127 2 rfl, HVia.bc BK127 3 rfl, HVia.bc BK127 4 rfl⟩ (fun hHeld => ?_)
             clear hK K
             refine norm_ (a' := ?_) ?_ ?_
             rotate_left
             · show Act.put _ (some 8) _ = _
               simp only [Act.put, List.setIfInBounds_toArray, List.set_cons_zero, List.set_cons_succ, i64_w, i32_w]
               rfl
             exact norm_ (by first | (simp only [putAll, Act.put, List.setIfInBounds_toArray, List.set_cons_zero, List.set_cons_succ]; done) | (simp only [putAll, Act.put, List.setIfInBounds_toArray, List.set_cons_zero, List.set_cons_succ]; rfl)) (hJ1_3_5 (gb141) _ ⟨hHeld, (by (with_reducible repeat (first | refine blk_drewN ?_ _ | refine blk_drew ?_ | refine blk_alloc ?_ _)); exact BK126.out), (by (with_reducible repeat (first | refine blk_drewN ?_ _ | refine blk_drew ?_ | refine blk_alloc ?_ _)); exact BK127.out), (by (with_reducible repeat (first | refine blk_drewN ?_ _ | refine blk_drew ?_ | refine blk_alloc ?_ _)); exact BK141.out), GW141.out, GE141.out, NB126_141.out, NB141_126.out, NB127_141.out, NB141_127.out, (by repeat (first | (with_reducible first | exact HB.out | apply below_alloc | apply pw_below_drewN | apply below_drew1 | refine below_set ?_ GE126.out | refine below_set ?_ GE127.out | refine below_set ?_ GE141.out) | exact HB.out))⟩)
       · skip
         rintro ⟨gb140, gb141⟩ w14 ⟨hS_, h0_, h1_, h2_, h3_, h4_, h5_, h6_, h7_, h8_, h9_, h10_, h11_, h12_, h13_, h14_, h15_, h16_, h17_, h18_⟩
         have n0_ : Aside0 (w14.heap[gb126]? = some (.cells #[.string a0_0, .string a0_1, .string a0_2, .string a0_3, .string a0_4] 23 (0, 0))) := ⟨h0_⟩
         have n1_ : Aside0 (w14.heap[gb127]? = some (.cells #[.string a1_0, .string a1_1, .string a1_2, .string a1_3, .string a1_4] 23 (0, 0))) := ⟨h1_⟩
         have n2_ : Aside0 (w14.heap[gb140]? = some (.cells #[.string (⟨#[]⟩ : ByteArray), .string (⟨#[]⟩ : ByteArray), .string (⟨#[]⟩ : ByteArray), .bool false, .string (⟨#[]⟩ : ByteArray), .string (⟨#[]⟩ : ByteArray)] 40 (0, 0))) := ⟨h2_⟩
         have n3_ : Aside0 (w14.heap[gb141]? = some (.cells #[.string (⟨#[]⟩ : ByteArray), .string (⟨#[]⟩ : ByteArray), .string (⟨#[]⟩ : ByteArray), .bool false, .string (⟨#[]⟩ : ByteArray), .string (⟨#[]⟩ : ByteArray)] 40 (0, 0))) := ⟨h3_⟩
         have n4_ : Aside0 (w.heap.size ≤ gb140) := ⟨h4_⟩
         have n5_ : Aside0 (w.heap.size ≤ gb140) := ⟨h5_⟩
         have n6_ : Aside0 (gb126 ≠ gb140) := ⟨h6_⟩
         have n7_ : Aside0 (gb140 ≠ gb126) := ⟨h7_⟩
         have n8_ : Aside0 (gb127 ≠ gb140) := ⟨h8_⟩
         have n9_ : Aside0 (gb140 ≠ gb127) := ⟨h9_⟩
         have n10_ : Aside0 (gb141 ≠ gb140) := ⟨h10_⟩
         have n11_ : Aside0 (gb140 ≠ gb141) := ⟨h11_⟩
         have n12_ : Aside0 (w.heap.size ≤ gb141) := ⟨h12_⟩
         have n13_ : Aside0 (w.heap.size ≤ gb141) := ⟨h13_⟩
         have n14_ : Aside0 (gb126 ≠ gb141) := ⟨h14_⟩
         have n15_ : Aside0 (gb141 ≠ gb126) := ⟨h15_⟩
         have n16_ : Aside0 (gb127 ≠ gb141) := ⟨h16_⟩
         have n17_ : Aside0 (gb141 ≠ gb127) := ⟨h17_⟩
         have n18_ : Aside0 (Below w.heap.size w w14) := ⟨h18_⟩
         clear BK126
         clear BK127
         clear HB
         clear h0_ h1_ h2_ h3_ h4_ h5_ h6_ h7_ h8_ h9_ h10_ h11_ h12_ h13_ h14_ h15_ h16_ h17_ h18_
         have BK126 := n0_
         have BK127 := n1_
         have BK140 := n2_
         have BK141 := n3_
         have GW140 := n4_
         have GE140 := n5_
         have NB126_140 := n6_
         have NB140_126 := n7_
         have NB127_140 := n8_
         have NB140_127 := n9_
         have NB141_140 := n10_
         have NB140_141 := n11_
         have GW141 := n12_
         have GE141 := n13_
         have NB126_141 := n14_
         have NB141_126 := n15_
         have NB127_141 := n16_
         have NB141_127 := n17_
         have HB := n18_
         clear n0_ n1_ n2_ n3_ n4_ n5_ n6_ n7_ n8_ n9_ n10_ n11_ n12_ n13_ n14_ n15_ n16_ n17_ n18_
         have hHeld : w14.cell? ⟨gb126, 0, none⟩ = some (.string a0_0) ∧ w14.cell? ⟨gb126, 1, none⟩ = some (.string a0_1) ∧ w14.cell? ⟨gb126, 2, none⟩ = some (.string a0_2) ∧ w14.cell? ⟨gb126, 3, none⟩ = some (.string a0_3) ∧ w14.cell? ⟨gb126, 4, none⟩ = some (.string a0_4) ∧ w14.cell? ⟨gb127, 0, none⟩ = some (.string a1_0) ∧ w14.cell? ⟨gb127, 1, none⟩ = some (.string a1_1) ∧ w14.cell? ⟨gb127, 2, none⟩ = some (.string a1_2) ∧ w14.cell? ⟨gb127, 3, none⟩ = some (.string a1_3) ∧ w14.cell? ⟨gb127, 4, none⟩ = some (.string a1_4) := hS_
         refine norm_ (a' := ?_) ?_ ?_
         rotate_left
         · simp only [putAll, Act.put, List.setIfInBounds_toArray, List.set_cons_zero, List.set_cons_succ]
           rfl
         refine one_ (i := 3) (N := some 12) b4_ rfl rfl (one_of HT_.out (by kernel_rfl)) (by decide) (fun K hK => ?_)
         refine goes_ Try.func16 (by kernel_rfl) rfl #[.agg #[.string a1_0, .string a1_1, .string a1_2, .string a1_3, .string a1_4]] (by rfl) rfl rfl (by (try simp only [List.map_toArray, List.map_cons, List.map_nil]); first | done | rfl | (simp only [List.length_drop, List.length_take]; rfl)) ?_
         with_reducible refine (impl_id.calls a1_0 a1_1 a1_2 a1_3 a1_4 t134 t135 t136 t137 t138 t139 _ A4.out).mono ?_
         rintro e w15 ⟨rfl, hb⟩
         refine ⟨_, rfl, ?_⟩
         have n0_ := Aside0.mk (blk_below (g := gb126) (o := .cells #[.string a0_0, .string a0_1, .string a0_2, .string a0_3, .string a0_4] 23 (0, 0)) (by (with_reducible repeat (first | refine blk_drewN ?_ _ | refine blk_drew ?_ | refine blk_alloc ?_ _)); exact BK126.out) hb)
         have n1_ := Aside0.mk (blk_below (g := gb127) (o := .cells #[.string a1_0, .string a1_1, .string a1_2, .string a1_3, .string a1_4] 23 (0, 0)) (by (with_reducible repeat (first | refine blk_drewN ?_ _ | refine blk_drew ?_ | refine blk_alloc ?_ _)); exact BK127.out) hb)
         have n2_ := Aside0.mk (blk_below (g := gb140) (o := .cells #[.string (⟨#[]⟩ : ByteArray), .string (⟨#[]⟩ : ByteArray), .string (⟨#[]⟩ : ByteArray), .bool false, .string (⟨#[]⟩ : ByteArray), .string (⟨#[]⟩ : ByteArray)] 40 (0, 0)) (by (with_reducible repeat (first | refine blk_drewN ?_ _ | refine blk_drew ?_ | refine blk_alloc ?_ _)); exact BK140.out) hb)
         have n3_ := Aside0.mk (blk_below (g := gb141) (o := .cells #[.string (⟨#[]⟩ : ByteArray), .string (⟨#[]⟩ : ByteArray), .string (⟨#[]⟩ : ByteArray), .bool false, .string (⟨#[]⟩ : ByteArray), .string (⟨#[]⟩ : ByteArray)] 40 (0, 0)) (by (with_reducible repeat (first | refine blk_drewN ?_ _ | refine blk_drew ?_ | refine blk_alloc ?_ _)); exact BK141.out) hb)
         have n4_ := Aside0.mk (below_step (by repeat (first | (with_reducible first | exact HB.out | apply below_alloc | apply pw_below_drewN | apply below_drew1 | refine below_set ?_ GE126.out | refine below_set ?_ GE127.out | refine below_set ?_ GE140.out | refine below_set ?_ GE141.out) | exact HB.out)) hb)
         clear BK126
         clear BK127
         clear BK140
         clear BK141
         clear HB
         have BK126 := n0_
         have BK127 := n1_
         have BK140 := n2_
         have BK141 := n3_
         have HB := n4_
         clear n0_ n1_ n2_ n3_ n4_
         (try clear hb)
         (try clear hb2)
         (try clear hk)
         (try clear hi)
         refine hK.out _ _ ⟨HVia.bc BK126 0 rfl, HVia.bc BK126 1 rfl, HVia.bc BK126 2 rfl, HVia.bc BK126 3 rfl, HVia.bc BK126 4 rfl, HVia.bc BK127 0 rfl, HVia.bc BK127 1 rfl, HVia.bc BK127 2 rfl, HVia.bc BK127 3 rfl, HVia.bc BK127 4 rfl⟩ (fun hHeld => ?_)
         clear hK K
         refine norm_ (a' := ?_) ?_ ?_
         rotate_left
         · show Act.put _ (some 12) _ = _
           simp only [Act.put, List.setIfInBounds_toArray, List.set_cons_zero, List.set_cons_succ, i64_w, i32_w]
           rfl
         exact norm_ (by first | (simp only [putAll, Act.put, List.setIfInBounds_toArray, List.set_cons_zero, List.set_cons_succ]; done) | (simp only [putAll, Act.put, List.setIfInBounds_toArray, List.set_cons_zero, List.set_cons_succ]; rfl)) (hJ1_3_4_5 (gb140, gb141) _ ⟨hHeld, (by (with_reducible repeat (first | refine blk_drewN ?_ _ | refine blk_drew ?_ | refine blk_alloc ?_ _)); exact BK126.out), (by (with_reducible repeat (first | refine blk_drewN ?_ _ | refine blk_drew ?_ | refine blk_alloc ?_ _)); exact BK127.out), (by (with_reducible repeat (first | refine blk_drewN ?_ _ | refine blk_drew ?_ | refine blk_alloc ?_ _)); exact BK140.out), (by (with_reducible repeat (first | refine blk_drewN ?_ _ | refine blk_drew ?_ | refine blk_alloc ?_ _)); exact BK141.out), GW140.out, GE140.out, NB126_140.out, NB140_126.out, NB127_140.out, NB140_127.out, NB141_140.out, NB140_141.out, GW141.out, GE141.out, NB126_141.out, NB141_126.out, NB127_141.out, NB141_127.out, (by repeat (first | (with_reducible first | exact HB.out | apply below_alloc | apply pw_below_drewN | apply below_drew1 | refine below_set ?_ GE126.out | refine below_set ?_ GE127.out | refine below_set ?_ GE140.out | refine below_set ?_ GE141.out) | exact HB.out))⟩)
     · skip
       rintro gb141 w14 ⟨hS_, h0_, h1_, h2_, h3_, h4_, h5_, h6_, h7_, h8_, h9_⟩
       have n0_ : Aside0 (w14.heap[gb126]? = some (.cells #[.string a0_0, .string a0_1, .string a0_2, .string a0_3, .string a0_4] 23 (0, 0))) := ⟨h0_⟩
       have n1_ : Aside0 (w14.heap[gb127]? = some (.cells #[.string a1_0, .string a1_1, .string a1_2, .string a1_3, .string a1_4] 23 (0, 0))) := ⟨h1_⟩
       have n2_ : Aside0 (w14.heap[gb141]? = some (.cells #[.string (⟨#[]⟩ : ByteArray), .string (⟨#[]⟩ : ByteArray), .string (⟨#[]⟩ : ByteArray), .bool false, .string (⟨#[]⟩ : ByteArray), .string (⟨#[]⟩ : ByteArray)] 40 (0, 0))) := ⟨h2_⟩
       have n3_ : Aside0 (w.heap.size ≤ gb141) := ⟨h3_⟩
       have n4_ : Aside0 (w.heap.size ≤ gb141) := ⟨h4_⟩
       have n5_ : Aside0 (gb126 ≠ gb141) := ⟨h5_⟩
       have n6_ : Aside0 (gb141 ≠ gb126) := ⟨h6_⟩
       have n7_ : Aside0 (gb127 ≠ gb141) := ⟨h7_⟩
       have n8_ : Aside0 (gb141 ≠ gb127) := ⟨h8_⟩
       have n9_ : Aside0 (Below w.heap.size w w14) := ⟨h9_⟩
       clear BK126
       clear BK127
       clear HB
       clear h0_ h1_ h2_ h3_ h4_ h5_ h6_ h7_ h8_ h9_
       have BK126 := n0_
       have BK127 := n1_
       have BK141 := n2_
       have GW141 := n3_
       have GE141 := n4_
       have NB126_141 := n5_
       have NB141_126 := n6_
       have NB127_141 := n7_
       have NB141_127 := n8_
       have HB := n9_
       clear n0_ n1_ n2_ n3_ n4_ n5_ n6_ n7_ n8_ n9_
       have hHeld : w14.cell? ⟨gb126, 0, none⟩ = some (.string a0_0) ∧ w14.cell? ⟨gb126, 1, none⟩ = some (.string a0_1) ∧ w14.cell? ⟨gb126, 2, none⟩ = some (.string a0_2) ∧ w14.cell? ⟨gb126, 3, none⟩ = some (.string a0_3) ∧ w14.cell? ⟨gb126, 4, none⟩ = some (.string a0_4) ∧ w14.cell? ⟨gb127, 0, none⟩ = some (.string a1_0) ∧ w14.cell? ⟨gb127, 1, none⟩ = some (.string a1_1) ∧ w14.cell? ⟨gb127, 2, none⟩ = some (.string a1_2) ∧ w14.cell? ⟨gb127, 3, none⟩ = some (.string a1_3) ∧ w14.cell? ⟨gb127, 4, none⟩ = some (.string a1_4) := hS_
       refine norm_ (a' := ?_) ?_ ?_
       rotate_left
       · simp only [putAll, Act.put, List.setIfInBounds_toArray, List.set_cons_zero, List.set_cons_succ]
         rfl
       refine one_ (i := 4) (N := some 7) b4_ rfl rfl (one_of HT_.out (by kernel_rfl)) (by decide) (fun K hK => ?_)
       refine box_step ?hg (N := 7) ?hd (cs := #[.string (⟨#[]⟩ : ByteArray), .string (⟨#[]⟩ : ByteArray), .string (⟨#[]⟩ : ByteArray), .bool false, .string (⟨#[]⟩ : ByteArray), .string (⟨#[]⟩ : ByteArray)]) (t := 40) ?hr ?_; (case hd => rfl); (case hg => rfl); (case hr => first | (go_simp; done) | (go_simp; rfl))
       intro gb140 hg w15 hbox hb
       have n0_ := Aside0.mk (blk_below (g := gb126) (o := .cells #[.string a0_0, .string a0_1, .string a0_2, .string a0_3, .string a0_4] 23 (0, 0)) (by (with_reducible repeat (first | refine blk_drewN ?_ _ | refine blk_drew ?_ | refine blk_alloc ?_ _)); exact BK126.out) hb)
       have n1_ := Aside0.mk (blk_below (g := gb127) (o := .cells #[.string a1_0, .string a1_1, .string a1_2, .string a1_3, .string a1_4] 23 (0, 0)) (by (with_reducible repeat (first | refine blk_drewN ?_ _ | refine blk_drew ?_ | refine blk_alloc ?_ _)); exact BK127.out) hb)
       have n2_ := Aside0.mk (blk_below (g := gb141) (o := .cells #[.string (⟨#[]⟩ : ByteArray), .string (⟨#[]⟩ : ByteArray), .string (⟨#[]⟩ : ByteArray), .bool false, .string (⟨#[]⟩ : ByteArray), .string (⟨#[]⟩ : ByteArray)] 40 (0, 0)) (by (with_reducible repeat (first | refine blk_drewN ?_ _ | refine blk_drew ?_ | refine blk_alloc ?_ _)); exact BK141.out) hb)
       have n3_ := Aside0.mk (below_step (by repeat (first | (with_reducible first | exact HB.out | apply below_alloc | apply pw_below_drewN | apply below_drew1 | refine below_set ?_ GE126.out | refine below_set ?_ GE127.out | refine below_set ?_ GE141.out) | exact HB.out)) hb)
       have n4_ := Aside0.mk (hbox)
       have n5_ := Aside0.mk ((by rw [hg]; exact (below_size (by repeat (first | (with_reducible first | exact HB.out | apply below_alloc | apply pw_below_drewN | apply below_drew1 | refine below_set ?_ GE126.out | refine below_set ?_ GE127.out | refine below_set ?_ GE141.out) | exact HB.out))) : w.heap.size ≤ gb140))
       have n6_ := Aside0.mk ((by rw [hg]; exact (below_size (by repeat (first | (with_reducible first | exact HB.out | apply below_alloc | apply pw_below_drewN | apply below_drew1 | refine below_set ?_ GE126.out | refine below_set ?_ GE127.out | refine below_set ?_ GE141.out) | exact HB.out))) : w.heap.size ≤ gb140))
       have n7_ := Aside0.mk ((by rw [hg]; exact Nat.ne_of_lt (blk_lt (g := gb126) (o := .cells #[.string a0_0, .string a0_1, .string a0_2, .string a0_3, .string a0_4] 23 (0, 0)) (by (with_reducible repeat (first | refine blk_drewN ?_ _ | refine blk_drew ?_ | refine blk_alloc ?_ _)); exact BK126.out)) : gb126 ≠ gb140))
       have n8_ := Aside0.mk ((by rw [hg]; exact Nat.ne_of_gt (blk_lt (g := gb126) (o := .cells #[.string a0_0, .string a0_1, .string a0_2, .string a0_3, .string a0_4] 23 (0, 0)) (by (with_reducible repeat (first | refine blk_drewN ?_ _ | refine blk_drew ?_ | refine blk_alloc ?_ _)); exact BK126.out)) : gb140 ≠ gb126))
       have n9_ := Aside0.mk ((by rw [hg]; exact Nat.ne_of_lt (blk_lt (g := gb127) (o := .cells #[.string a1_0, .string a1_1, .string a1_2, .string a1_3, .string a1_4] 23 (0, 0)) (by (with_reducible repeat (first | refine blk_drewN ?_ _ | refine blk_drew ?_ | refine blk_alloc ?_ _)); exact BK127.out)) : gb127 ≠ gb140))
       have n10_ := Aside0.mk ((by rw [hg]; exact Nat.ne_of_gt (blk_lt (g := gb127) (o := .cells #[.string a1_0, .string a1_1, .string a1_2, .string a1_3, .string a1_4] 23 (0, 0)) (by (with_reducible repeat (first | refine blk_drewN ?_ _ | refine blk_drew ?_ | refine blk_alloc ?_ _)); exact BK127.out)) : gb140 ≠ gb127))
       have n11_ := Aside0.mk ((by rw [hg]; exact Nat.ne_of_lt (blk_lt (g := gb141) (o := .cells #[.string (⟨#[]⟩ : ByteArray), .string (⟨#[]⟩ : ByteArray), .string (⟨#[]⟩ : ByteArray), .bool false, .string (⟨#[]⟩ : ByteArray), .string (⟨#[]⟩ : ByteArray)] 40 (0, 0)) (by (with_reducible repeat (first | refine blk_drewN ?_ _ | refine blk_drew ?_ | refine blk_alloc ?_ _)); exact BK141.out)) : gb141 ≠ gb140))
       have n12_ := Aside0.mk ((by rw [hg]; exact Nat.ne_of_gt (blk_lt (g := gb141) (o := .cells #[.string (⟨#[]⟩ : ByteArray), .string (⟨#[]⟩ : ByteArray), .string (⟨#[]⟩ : ByteArray), .bool false, .string (⟨#[]⟩ : ByteArray), .string (⟨#[]⟩ : ByteArray)] 40 (0, 0)) (by (with_reducible repeat (first | refine blk_drewN ?_ _ | refine blk_drew ?_ | refine blk_alloc ?_ _)); exact BK141.out)) : gb140 ≠ gb141))
       clear BK126
       clear BK127
       clear BK141
       clear HB
       have BK126 := n0_
       have BK127 := n1_
       have BK141 := n2_
       have HB := n3_
       have BK140 := n4_
       have GW140 := n5_
       have GE140 := n6_
       have NB126_140 := n7_
       have NB140_126 := n8_
       have NB127_140 := n9_
       have NB140_127 := n10_
       have NB141_140 := n11_
       have NB140_141 := n12_
       clear n0_ n1_ n2_ n3_ n4_ n5_ n6_ n7_ n8_ n9_ n10_ n11_ n12_
       clear hb hbox hg
       refine hK.out _ _ ⟨HVia.bc BK126 0 rfl, HVia.bc BK126 1 rfl, HVia.bc BK126 2 rfl, HVia.bc BK126 3 rfl, HVia.bc BK126 4 rfl, HVia.bc BK127 0 rfl, HVia.bc BK127 1 rfl, HVia.bc BK127 2 rfl, HVia.bc BK127 3 rfl, HVia.bc BK127 4 rfl⟩ (fun hHeld => ?_)
       clear hK K
       refine norm_ (a' := ?_) ?_ ?_
       rotate_left
       · show Act.put _ (some 7) _ = _
         simp only [Act.put, List.setIfInBounds_toArray, List.set_cons_zero, List.set_cons_succ, i64_w, i32_w]
         rfl
       exact norm_ (by first | (simp only [putAll, Act.put, List.setIfInBounds_toArray, List.set_cons_zero, List.set_cons_succ]; done) | (simp only [putAll, Act.put, List.setIfInBounds_toArray, List.set_cons_zero, List.set_cons_succ]; rfl)) (hJ1_3_4_5 (gb140, gb141) _ ⟨hHeld, (by (with_reducible repeat (first | refine blk_drewN ?_ _ | refine blk_drew ?_ | refine blk_alloc ?_ _)); exact BK126.out), (by (with_reducible repeat (first | refine blk_drewN ?_ _ | refine blk_drew ?_ | refine blk_alloc ?_ _)); exact BK127.out), (by (with_reducible repeat (first | refine blk_drewN ?_ _ | refine blk_drew ?_ | refine blk_alloc ?_ _)); exact BK140.out), (by (with_reducible repeat (first | refine blk_drewN ?_ _ | refine blk_drew ?_ | refine blk_alloc ?_ _)); exact BK141.out), GW140.out, GE140.out, NB126_140.out, NB140_126.out, NB127_140.out, NB140_127.out, NB141_140.out, NB140_141.out, GW141.out, GE141.out, NB126_141.out, NB141_126.out, NB127_141.out, NB141_127.out, (by repeat (first | (with_reducible first | exact HB.out | apply below_alloc | apply pw_below_drewN | apply below_drew1 | refine below_set ?_ GE126.out | refine below_set ?_ GE127.out | refine below_set ?_ GE141.out | refine below_set ?_ GE140.out) | exact HB.out))⟩)
   · skip
     rintro gb140 w14 ⟨hS_, h0_, h1_, h2_, h3_, h4_, h5_, h6_, h7_, h8_, h9_⟩
     have n0_ : Aside0 (w14.heap[gb126]? = some (.cells #[.string a0_0, .string a0_1, .string a0_2, .string a0_3, .string a0_4] 23 (0, 0))) := ⟨h0_⟩
     have n1_ : Aside0 (w14.heap[gb127]? = some (.cells #[.string a1_0, .string a1_1, .string a1_2, .string a1_3, .string a1_4] 23 (0, 0))) := ⟨h1_⟩
     have n2_ : Aside0 (w14.heap[gb140]? = some (.cells #[.string (⟨#[]⟩ : ByteArray), .string (⟨#[]⟩ : ByteArray), .string (⟨#[]⟩ : ByteArray), .bool false, .string (⟨#[]⟩ : ByteArray), .string (⟨#[]⟩ : ByteArray)] 40 (0, 0))) := ⟨h2_⟩
     have n3_ : Aside0 (w.heap.size ≤ gb140) := ⟨h3_⟩
     have n4_ : Aside0 (w.heap.size ≤ gb140) := ⟨h4_⟩
     have n5_ : Aside0 (gb126 ≠ gb140) := ⟨h5_⟩
     have n6_ : Aside0 (gb140 ≠ gb126) := ⟨h6_⟩
     have n7_ : Aside0 (gb127 ≠ gb140) := ⟨h7_⟩
     have n8_ : Aside0 (gb140 ≠ gb127) := ⟨h8_⟩
     have n9_ : Aside0 (Below w.heap.size w w14) := ⟨h9_⟩
     clear BK126
     clear BK127
     clear HB
     clear h0_ h1_ h2_ h3_ h4_ h5_ h6_ h7_ h8_ h9_
     have BK126 := n0_
     have BK127 := n1_
     have BK140 := n2_
     have GW140 := n3_
     have GE140 := n4_
     have NB126_140 := n5_
     have NB140_126 := n6_
     have NB127_140 := n7_
     have NB140_127 := n8_
     have HB := n9_
     clear n0_ n1_ n2_ n3_ n4_ n5_ n6_ n7_ n8_ n9_
     have hHeld : w14.cell? ⟨gb126, 0, none⟩ = some (.string a0_0) ∧ w14.cell? ⟨gb126, 1, none⟩ = some (.string a0_1) ∧ w14.cell? ⟨gb126, 2, none⟩ = some (.string a0_2) ∧ w14.cell? ⟨gb126, 3, none⟩ = some (.string a0_3) ∧ w14.cell? ⟨gb126, 4, none⟩ = some (.string a0_4) ∧ w14.cell? ⟨gb127, 0, none⟩ = some (.string a1_0) ∧ w14.cell? ⟨gb127, 1, none⟩ = some (.string a1_1) ∧ w14.cell? ⟨gb127, 2, none⟩ = some (.string a1_2) ∧ w14.cell? ⟨gb127, 3, none⟩ = some (.string a1_3) ∧ w14.cell? ⟨gb127, 4, none⟩ = some (.string a1_4) := hS_
     refine norm_ (a' := ?_) ?_ ?_
     rotate_left
     · simp only [putAll, Act.put, List.setIfInBounds_toArray, List.set_cons_zero, List.set_cons_succ]
       rfl
     refine one_ (i := 5) (N := some 8) b4_ rfl rfl (one_of HT_.out (by kernel_rfl)) (by decide) (fun K hK => ?_)
     refine box_step ?hg (N := 8) ?hd (cs := #[.string (⟨#[]⟩ : ByteArray), .string (⟨#[]⟩ : ByteArray), .string (⟨#[]⟩ : ByteArray), .bool false, .string (⟨#[]⟩ : ByteArray), .string (⟨#[]⟩ : ByteArray)]) (t := 40) ?hr ?_; (case hd => rfl); (case hg => rfl); (case hr => first | (go_simp; done) | (go_simp; rfl))
     intro gb141 hg w15 hbox hb
     have n0_ := Aside0.mk (blk_below (g := gb126) (o := .cells #[.string a0_0, .string a0_1, .string a0_2, .string a0_3, .string a0_4] 23 (0, 0)) (by (with_reducible repeat (first | refine blk_drewN ?_ _ | refine blk_drew ?_ | refine blk_alloc ?_ _)); exact BK126.out) hb)
     have n1_ := Aside0.mk (blk_below (g := gb127) (o := .cells #[.string a1_0, .string a1_1, .string a1_2, .string a1_3, .string a1_4] 23 (0, 0)) (by (with_reducible repeat (first | refine blk_drewN ?_ _ | refine blk_drew ?_ | refine blk_alloc ?_ _)); exact BK127.out) hb)
     have n2_ := Aside0.mk (blk_below (g := gb140) (o := .cells #[.string (⟨#[]⟩ : ByteArray), .string (⟨#[]⟩ : ByteArray), .string (⟨#[]⟩ : ByteArray), .bool false, .string (⟨#[]⟩ : ByteArray), .string (⟨#[]⟩ : ByteArray)] 40 (0, 0)) (by (with_reducible repeat (first | refine blk_drewN ?_ _ | refine blk_drew ?_ | refine blk_alloc ?_ _)); exact BK140.out) hb)
     have n3_ := Aside0.mk (below_step (by repeat (first | (with_reducible first | exact HB.out | apply below_alloc | apply pw_below_drewN | apply below_drew1 | refine below_set ?_ GE126.out | refine below_set ?_ GE127.out | refine below_set ?_ GE140.out) | exact HB.out)) hb)
     have n4_ := Aside0.mk (hbox)
     have n5_ := Aside0.mk ((by rw [hg]; exact (below_size (by repeat (first | (with_reducible first | exact HB.out | apply below_alloc | apply pw_below_drewN | apply below_drew1 | refine below_set ?_ GE126.out | refine below_set ?_ GE127.out | refine below_set ?_ GE140.out) | exact HB.out))) : w.heap.size ≤ gb141))
     have n6_ := Aside0.mk ((by rw [hg]; exact (below_size (by repeat (first | (with_reducible first | exact HB.out | apply below_alloc | apply pw_below_drewN | apply below_drew1 | refine below_set ?_ GE126.out | refine below_set ?_ GE127.out | refine below_set ?_ GE140.out) | exact HB.out))) : w.heap.size ≤ gb141))
     have n7_ := Aside0.mk ((by rw [hg]; exact Nat.ne_of_lt (blk_lt (g := gb126) (o := .cells #[.string a0_0, .string a0_1, .string a0_2, .string a0_3, .string a0_4] 23 (0, 0)) (by (with_reducible repeat (first | refine blk_drewN ?_ _ | refine blk_drew ?_ | refine blk_alloc ?_ _)); exact BK126.out)) : gb126 ≠ gb141))
     have n8_ := Aside0.mk ((by rw [hg]; exact Nat.ne_of_gt (blk_lt (g := gb126) (o := .cells #[.string a0_0, .string a0_1, .string a0_2, .string a0_3, .string a0_4] 23 (0, 0)) (by (with_reducible repeat (first | refine blk_drewN ?_ _ | refine blk_drew ?_ | refine blk_alloc ?_ _)); exact BK126.out)) : gb141 ≠ gb126))
     have n9_ := Aside0.mk ((by rw [hg]; exact Nat.ne_of_lt (blk_lt (g := gb127) (o := .cells #[.string a1_0, .string a1_1, .string a1_2, .string a1_3, .string a1_4] 23 (0, 0)) (by (with_reducible repeat (first | refine blk_drewN ?_ _ | refine blk_drew ?_ | refine blk_alloc ?_ _)); exact BK127.out)) : gb127 ≠ gb141))
     have n10_ := Aside0.mk ((by rw [hg]; exact Nat.ne_of_gt (blk_lt (g := gb127) (o := .cells #[.string a1_0, .string a1_1, .string a1_2, .string a1_3, .string a1_4] 23 (0, 0)) (by (with_reducible repeat (first | refine blk_drewN ?_ _ | refine blk_drew ?_ | refine blk_alloc ?_ _)); exact BK127.out)) : gb141 ≠ gb127))
     have n11_ := Aside0.mk ((by rw [hg]; exact Nat.ne_of_lt (blk_lt (g := gb140) (o := .cells #[.string (⟨#[]⟩ : ByteArray), .string (⟨#[]⟩ : ByteArray), .string (⟨#[]⟩ : ByteArray), .bool false, .string (⟨#[]⟩ : ByteArray), .string (⟨#[]⟩ : ByteArray)] 40 (0, 0)) (by (with_reducible repeat (first | refine blk_drewN ?_ _ | refine blk_drew ?_ | refine blk_alloc ?_ _)); exact BK140.out)) : gb140 ≠ gb141))
     have n12_ := Aside0.mk ((by rw [hg]; exact Nat.ne_of_gt (blk_lt (g := gb140) (o := .cells #[.string (⟨#[]⟩ : ByteArray), .string (⟨#[]⟩ : ByteArray), .string (⟨#[]⟩ : ByteArray), .bool false, .string (⟨#[]⟩ : ByteArray), .string (⟨#[]⟩ : ByteArray)] 40 (0, 0)) (by (with_reducible repeat (first | refine blk_drewN ?_ _ | refine blk_drew ?_ | refine blk_alloc ?_ _)); exact BK140.out)) : gb141 ≠ gb140))
     clear BK126
     clear BK127
     clear BK140
     clear HB
     have BK126 := n0_
     have BK127 := n1_
     have BK140 := n2_
     have HB := n3_
     have BK141 := n4_
     have GW141 := n5_
     have GE141 := n6_
     have NB126_141 := n7_
     have NB141_126 := n8_
     have NB127_141 := n9_
     have NB141_127 := n10_
     have NB140_141 := n11_
     have NB141_140 := n12_
     clear n0_ n1_ n2_ n3_ n4_ n5_ n6_ n7_ n8_ n9_ n10_ n11_ n12_
     clear hb hbox hg
     refine hK.out _ _ ⟨HVia.bc BK126 0 rfl, HVia.bc BK126 1 rfl, HVia.bc BK126 2 rfl, HVia.bc BK126 3 rfl, HVia.bc BK126 4 rfl, HVia.bc BK127 0 rfl, HVia.bc BK127 1 rfl, HVia.bc BK127 2 rfl, HVia.bc BK127 3 rfl, HVia.bc BK127 4 rfl⟩ (fun hHeld => ?_)
     clear hK K
     refine norm_ (a' := ?_) ?_ ?_
     rotate_left
     · show Act.put _ (some 8) _ = _
       simp only [Act.put, List.setIfInBounds_toArray, List.set_cons_zero, List.set_cons_succ, i64_w, i32_w]
       rfl
     exact norm_ (by first | (simp only [putAll, Act.put, List.setIfInBounds_toArray, List.set_cons_zero, List.set_cons_succ]; done) | (simp only [putAll, Act.put, List.setIfInBounds_toArray, List.set_cons_zero, List.set_cons_succ]; rfl)) (hJ1_3_4_5 (gb140, gb141) _ ⟨hHeld, (by (with_reducible repeat (first | refine blk_drewN ?_ _ | refine blk_drew ?_ | refine blk_alloc ?_ _)); exact BK126.out), (by (with_reducible repeat (first | refine blk_drewN ?_ _ | refine blk_drew ?_ | refine blk_alloc ?_ _)); exact BK127.out), (by (with_reducible repeat (first | refine blk_drewN ?_ _ | refine blk_drew ?_ | refine blk_alloc ?_ _)); exact BK140.out), (by (with_reducible repeat (first | refine blk_drewN ?_ _ | refine blk_drew ?_ | refine blk_alloc ?_ _)); exact BK141.out), GW140.out, GE140.out, NB126_140.out, NB140_126.out, NB127_140.out, NB140_127.out, NB141_140.out, NB140_141.out, GW141.out, GE141.out, NB126_141.out, NB141_126.out, NB127_141.out, NB141_127.out, (by repeat (first | (with_reducible first | exact HB.out | apply below_alloc | apply pw_below_drewN | apply below_drew1 | refine below_set ?_ GE126.out | refine below_set ?_ GE127.out | refine below_set ?_ GE140.out | refine below_set ?_ GE141.out) | exact HB.out))⟩)
 rintro ⟨gb140, gb141⟩ w15 ⟨hS_, h0_, h1_, h2_, h3_, h4_, h5_, h6_, h7_, h8_, h9_, h10_, h11_, h12_, h13_, h14_, h15_, h16_, h17_, h18_⟩
 have n0_ : Aside0 (w15.heap[gb126]? = some (.cells #[.string a0_0, .string a0_1, .string a0_2, .string a0_3, .string a0_4] 23 (0, 0))) := ⟨h0_⟩
 have n1_ : Aside0 (w15.heap[gb127]? = some (.cells #[.string a1_0, .string a1_1, .string a1_2, .string a1_3, .string a1_4] 23 (0, 0))) := ⟨h1_⟩
 have n2_ : Aside0 (w15.heap[gb140]? = some (.cells #[.string (⟨#[]⟩ : ByteArray), .string (⟨#[]⟩ : ByteArray), .string (⟨#[]⟩ : ByteArray), .bool false, .string (⟨#[]⟩ : ByteArray), .string (⟨#[]⟩ : ByteArray)] 40 (0, 0))) := ⟨h2_⟩
 have n3_ : Aside0 (w15.heap[gb141]? = some (.cells #[.string (⟨#[]⟩ : ByteArray), .string (⟨#[]⟩ : ByteArray), .string (⟨#[]⟩ : ByteArray), .bool false, .string (⟨#[]⟩ : ByteArray), .string (⟨#[]⟩ : ByteArray)] 40 (0, 0))) := ⟨h3_⟩
 have n4_ : Aside0 (w.heap.size ≤ gb140) := ⟨h4_⟩
 have n5_ : Aside0 (w.heap.size ≤ gb140) := ⟨h5_⟩
 have n6_ : Aside0 (gb126 ≠ gb140) := ⟨h6_⟩
 have n7_ : Aside0 (gb140 ≠ gb126) := ⟨h7_⟩
 have n8_ : Aside0 (gb127 ≠ gb140) := ⟨h8_⟩
 have n9_ : Aside0 (gb140 ≠ gb127) := ⟨h9_⟩
 have n10_ : Aside0 (gb141 ≠ gb140) := ⟨h10_⟩
 have n11_ : Aside0 (gb140 ≠ gb141) := ⟨h11_⟩
 have n12_ : Aside0 (w.heap.size ≤ gb141) := ⟨h12_⟩
 have n13_ : Aside0 (w.heap.size ≤ gb141) := ⟨h13_⟩
 have n14_ : Aside0 (gb126 ≠ gb141) := ⟨h14_⟩
 have n15_ : Aside0 (gb141 ≠ gb126) := ⟨h15_⟩
 have n16_ : Aside0 (gb127 ≠ gb141) := ⟨h16_⟩
 have n17_ : Aside0 (gb141 ≠ gb127) := ⟨h17_⟩
 have n18_ : Aside0 (Below w.heap.size w w15) := ⟨h18_⟩
 clear BK126
 clear BK127
 clear HB
 clear h0_ h1_ h2_ h3_ h4_ h5_ h6_ h7_ h8_ h9_ h10_ h11_ h12_ h13_ h14_ h15_ h16_ h17_ h18_
 have BK126 := n0_
 have BK127 := n1_
 have BK140 := n2_
 have BK141 := n3_
 have GW140 := n4_
 have GE140 := n5_
 have NB126_140 := n6_
 have NB140_126 := n7_
 have NB127_140 := n8_
 have NB140_127 := n9_
 have NB141_140 := n10_
 have NB140_141 := n11_
 have GW141 := n12_
 have GE141 := n13_
 have NB126_141 := n14_
 have NB141_126 := n15_
 have NB127_141 := n16_
 have NB141_127 := n17_
 have HB := n18_
 clear n0_ n1_ n2_ n3_ n4_ n5_ n6_ n7_ n8_ n9_ n10_ n11_ n12_ n13_ n14_ n15_ n16_ n17_ n18_
 have hHeld : w15.cell? ⟨gb126, 0, none⟩ = some (.string a0_0) ∧ w15.cell? ⟨gb126, 1, none⟩ = some (.string a0_1) ∧ w15.cell? ⟨gb126, 2, none⟩ = some (.string a0_2) ∧ w15.cell? ⟨gb126, 3, none⟩ = some (.string a0_3) ∧ w15.cell? ⟨gb126, 4, none⟩ = some (.string a0_4) ∧ w15.cell? ⟨gb127, 0, none⟩ = some (.string a1_0) ∧ w15.cell? ⟨gb127, 1, none⟩ = some (.string a1_1) ∧ w15.cell? ⟨gb127, 2, none⟩ = some (.string a1_2) ∧ w15.cell? ⟨gb127, 3, none⟩ = some (.string a1_3) ∧ w15.cell? ⟨gb127, 4, none⟩ = some (.string a1_4) := hS_
 refine norm_ (a' := ?_) ?_ ?_
 rotate_left
 · simp only [putAll, Act.put, List.setIfInBounds_toArray, List.set_cons_zero, List.set_cons_succ]
   rfl
 refine one_ (i := 6) (N := none) b15_ rfl rfl (one_of HT_.out (by kernel_rfl)) (by decide) (fun K hK => ?_)
 have hs16 : w15.cell? ⟨gb140, 0, none⟩ = some (.string (⟨#[]⟩ : ByteArray)) := HVia.bc BK140 0 rfl
 have hfs16 := blk_frozen BK140.out 0
 have hns16_0 := NB126_140.out
 have hns16_1 := NB127_140.out
 have hns16_3 := NB141_140.out
 have hms16_0 := NB140_126.out
 have hms16_1 := NB140_127.out
 have hms16_3 := NB140_141.out
 have hs17 : w15.cell? ⟨gb140, 1, none⟩ = some (.string (⟨#[]⟩ : ByteArray)) := HVia.bc BK140 1 rfl
 have hfs17 := blk_frozen BK140.out 1
 have hns17_0 := NB126_140.out
 have hns17_1 := NB127_140.out
 have hns17_3 := NB141_140.out
 have hms17_0 := NB140_126.out
 have hms17_1 := NB140_127.out
 have hms17_3 := NB140_141.out
 have hs18 : w15.cell? ⟨gb140, 2, none⟩ = some (.string (⟨#[]⟩ : ByteArray)) := HVia.bc BK140 2 rfl
 have hfs18 := blk_frozen BK140.out 2
 have hns18_0 := NB126_140.out
 have hns18_1 := NB127_140.out
 have hns18_3 := NB141_140.out
 have hms18_0 := NB140_126.out
 have hms18_1 := NB140_127.out
 have hms18_3 := NB140_141.out
 have hs19 : w15.cell? ⟨gb140, 3, none⟩ = some (.bool false) := HVia.bc BK140 3 rfl
 have hfs19 := blk_frozen BK140.out 3
 have hns19_0 := NB126_140.out
 have hns19_1 := NB127_140.out
 have hns19_3 := NB141_140.out
 have hms19_0 := NB140_126.out
 have hms19_1 := NB140_127.out
 have hms19_3 := NB140_141.out
 have hs20 : w15.cell? ⟨gb140, 4, none⟩ = some (.string (⟨#[]⟩ : ByteArray)) := HVia.bc BK140 4 rfl
 have hfs20 := blk_frozen BK140.out 4
 have hns20_0 := NB126_140.out
 have hns20_1 := NB127_140.out
 have hns20_3 := NB141_140.out
 have hms20_0 := NB140_126.out
 have hms20_1 := NB140_127.out
 have hms20_3 := NB140_141.out
 have hs21 : w15.cell? ⟨gb140, 5, none⟩ = some (.string (⟨#[]⟩ : ByteArray)) := HVia.bc BK140 5 rfl
 have hfs21 := blk_frozen BK140.out 5
 have hns21_0 := NB126_140.out
 have hns21_1 := NB127_140.out
 have hns21_3 := NB141_140.out
 have hms21_0 := NB140_126.out
 have hms21_1 := NB140_127.out
 have hms21_3 := NB140_141.out
 refine skip_ (w1 := ?_) (by rfl) rfl ?_ ?_
 rotate_left
 · go_simp
   rfl
 refine hK.out _ _ ⟨((cell_far (p := ⟨gb140, _, none⟩) NB126_140.out _).trans (((cell_far (p := ⟨gb140, _, none⟩) NB126_140.out _).trans (((cell_far (p := ⟨gb140, _, none⟩) NB126_140.out _).trans (((cell_far (p := ⟨gb140, _, none⟩) NB126_140.out _).trans (((cell_far (p := ⟨gb140, _, none⟩) NB126_140.out _).trans (((cell_far (p := ⟨gb140, _, none⟩) NB126_140.out _).trans (hHeld.1)))))))))))), ((cell_far (p := ⟨gb140, _, none⟩) NB126_140.out _).trans (((cell_far (p := ⟨gb140, _, none⟩) NB126_140.out _).trans (((cell_far (p := ⟨gb140, _, none⟩) NB126_140.out _).trans (((cell_far (p := ⟨gb140, _, none⟩) NB126_140.out _).trans (((cell_far (p := ⟨gb140, _, none⟩) NB126_140.out _).trans (((cell_far (p := ⟨gb140, _, none⟩) NB126_140.out _).trans (hHeld.2.1)))))))))))), ((cell_far (p := ⟨gb140, _, none⟩) NB126_140.out _).trans (((cell_far (p := ⟨gb140, _, none⟩) NB126_140.out _).trans (((cell_far (p := ⟨gb140, _, none⟩) NB126_140.out _).trans (((cell_far (p := ⟨gb140, _, none⟩) NB126_140.out _).trans (((cell_far (p := ⟨gb140, _, none⟩) NB126_140.out _).trans (((cell_far (p := ⟨gb140, _, none⟩) NB126_140.out _).trans (hHeld.2.2.1)))))))))))), ((cell_far (p := ⟨gb140, _, none⟩) NB126_140.out _).trans (((cell_far (p := ⟨gb140, _, none⟩) NB126_140.out _).trans (((cell_far (p := ⟨gb140, _, none⟩) NB126_140.out _).trans (((cell_far (p := ⟨gb140, _, none⟩) NB126_140.out _).trans (((cell_far (p := ⟨gb140, _, none⟩) NB126_140.out _).trans (((cell_far (p := ⟨gb140, _, none⟩) NB126_140.out _).trans (hHeld.2.2.2.1)))))))))))), ((cell_far (p := ⟨gb140, _, none⟩) NB126_140.out _).trans (((cell_far (p := ⟨gb140, _, none⟩) NB126_140.out _).trans (((cell_far (p := ⟨gb140, _, none⟩) NB126_140.out _).trans (((cell_far (p := ⟨gb140, _, none⟩) NB126_140.out _).trans (((cell_far (p := ⟨gb140, _, none⟩) NB126_140.out _).trans (((cell_far (p := ⟨gb140, _, none⟩) NB126_140.out _).trans (hHeld.2.2.2.2.1)))))))))))), ((cell_far (p := ⟨gb140, _, none⟩) NB127_140.out _).trans (((cell_far (p := ⟨gb140, _, none⟩) NB127_140.out _).trans (((cell_far (p := ⟨gb140, _, none⟩) NB127_140.out _).trans (((cell_far (p := ⟨gb140, _, none⟩) NB127_140.out _).trans (((cell_far (p := ⟨gb140, _, none⟩) NB127_140.out _).trans (((cell_far (p := ⟨gb140, _, none⟩) NB127_140.out _).trans (hHeld.2.2.2.2.2.1)))))))))))), ((cell_far (p := ⟨gb140, _, none⟩) NB127_140.out _).trans (((cell_far (p := ⟨gb140, _, none⟩) NB127_140.out _).trans (((cell_far (p := ⟨gb140, _, none⟩) NB127_140.out _).trans (((cell_far (p := ⟨gb140, _, none⟩) NB127_140.out _).trans (((cell_far (p := ⟨gb140, _, none⟩) NB127_140.out _).trans (((cell_far (p := ⟨gb140, _, none⟩) NB127_140.out _).trans (hHeld.2.2.2.2.2.2.1)))))))))))), ((cell_far (p := ⟨gb140, _, none⟩) NB127_140.out _).trans (((cell_far (p := ⟨gb140, _, none⟩) NB127_140.out _).trans (((cell_far (p := ⟨gb140, _, none⟩) NB127_140.out _).trans (((cell_far (p := ⟨gb140, _, none⟩) NB127_140.out _).trans (((cell_far (p := ⟨gb140, _, none⟩) NB127_140.out _).trans (((cell_far (p := ⟨gb140, _, none⟩) NB127_140.out _).trans (hHeld.2.2.2.2.2.2.2.1)))))))))))), ((cell_far (p := ⟨gb140, _, none⟩) NB127_140.out _).trans (((cell_far (p := ⟨gb140, _, none⟩) NB127_140.out _).trans (((cell_far (p := ⟨gb140, _, none⟩) NB127_140.out _).trans (((cell_far (p := ⟨gb140, _, none⟩) NB127_140.out _).trans (((cell_far (p := ⟨gb140, _, none⟩) NB127_140.out _).trans (((cell_far (p := ⟨gb140, _, none⟩) NB127_140.out _).trans (hHeld.2.2.2.2.2.2.2.2.1)))))))))))), ((cell_far (p := ⟨gb140, _, none⟩) NB127_140.out _).trans (((cell_far (p := ⟨gb140, _, none⟩) NB127_140.out _).trans (((cell_far (p := ⟨gb140, _, none⟩) NB127_140.out _).trans (((cell_far (p := ⟨gb140, _, none⟩) NB127_140.out _).trans (((cell_far (p := ⟨gb140, _, none⟩) NB127_140.out _).trans (((cell_far (p := ⟨gb140, _, none⟩) NB127_140.out _).trans (hHeld.2.2.2.2.2.2.2.2.2))))))))))))⟩ (fun hHeld => ?_)
 clear hK K
 refine one_ (i := 7) (N := none) b16_ rfl rfl (one_of HT_.out (by kernel_rfl)) (by decide) (fun K hK => ?_)
 have hs22 : w15.cell? ⟨gb141, 0, none⟩ = some (.string (⟨#[]⟩ : ByteArray)) := HVia.bc BK141 0 rfl
 have hfs22 := blk_frozen BK141.out 0
 have hns22_0 := NB126_141.out
 have hns22_1 := NB127_141.out
 have hns22_2 := NB140_141.out
 have hms22_0 := NB141_126.out
 have hms22_1 := NB141_127.out
 have hms22_2 := NB141_140.out
 have hs23 : w15.cell? ⟨gb141, 1, none⟩ = some (.string (⟨#[]⟩ : ByteArray)) := HVia.bc BK141 1 rfl
 have hfs23 := blk_frozen BK141.out 1
 have hns23_0 := NB126_141.out
 have hns23_1 := NB127_141.out
 have hns23_2 := NB140_141.out
 have hms23_0 := NB141_126.out
 have hms23_1 := NB141_127.out
 have hms23_2 := NB141_140.out
 have hs24 : w15.cell? ⟨gb141, 2, none⟩ = some (.string (⟨#[]⟩ : ByteArray)) := HVia.bc BK141 2 rfl
 have hfs24 := blk_frozen BK141.out 2
 have hns24_0 := NB126_141.out
 have hns24_1 := NB127_141.out
 have hns24_2 := NB140_141.out
 have hms24_0 := NB141_126.out
 have hms24_1 := NB141_127.out
 have hms24_2 := NB141_140.out
 have hs25 : w15.cell? ⟨gb141, 3, none⟩ = some (.bool false) := HVia.bc BK141 3 rfl
 have hfs25 := blk_frozen BK141.out 3
 have hns25_0 := NB126_141.out
 have hns25_1 := NB127_141.out
 have hns25_2 := NB140_141.out
 have hms25_0 := NB141_126.out
 have hms25_1 := NB141_127.out
 have hms25_2 := NB141_140.out
 have hs26 : w15.cell? ⟨gb141, 4, none⟩ = some (.string (⟨#[]⟩ : ByteArray)) := HVia.bc BK141 4 rfl
 have hfs26 := blk_frozen BK141.out 4
 have hns26_0 := NB126_141.out
 have hns26_1 := NB127_141.out
 have hns26_2 := NB140_141.out
 have hms26_0 := NB141_126.out
 have hms26_1 := NB141_127.out
 have hms26_2 := NB141_140.out
 have hs27 : w15.cell? ⟨gb141, 5, none⟩ = some (.string (⟨#[]⟩ : ByteArray)) := HVia.bc BK141 5 rfl
 have hfs27 := blk_frozen BK141.out 5
 have hns27_0 := NB126_141.out
 have hns27_1 := NB127_141.out
 have hns27_2 := NB140_141.out
 have hms27_0 := NB141_126.out
 have hms27_1 := NB141_127.out
 have hms27_2 := NB141_140.out
 refine skip_ (w1 := ?_) (by rfl) rfl ?_ ?_
 rotate_left
 · go_simp
   rfl
 refine hK.out _ _ ⟨((cell_far (p := ⟨gb141, _, none⟩) NB126_141.out _).trans (((cell_far (p := ⟨gb141, _, none⟩) NB126_141.out _).trans (((cell_far (p := ⟨gb141, _, none⟩) NB126_141.out _).trans (((cell_far (p := ⟨gb141, _, none⟩) NB126_141.out _).trans (((cell_far (p := ⟨gb141, _, none⟩) NB126_141.out _).trans (((cell_far (p := ⟨gb141, _, none⟩) NB126_141.out _).trans (hHeld.1)))))))))))), ((cell_far (p := ⟨gb141, _, none⟩) NB126_141.out _).trans (((cell_far (p := ⟨gb141, _, none⟩) NB126_141.out _).trans (((cell_far (p := ⟨gb141, _, none⟩) NB126_141.out _).trans (((cell_far (p := ⟨gb141, _, none⟩) NB126_141.out _).trans (((cell_far (p := ⟨gb141, _, none⟩) NB126_141.out _).trans (((cell_far (p := ⟨gb141, _, none⟩) NB126_141.out _).trans (hHeld.2.1)))))))))))), ((cell_far (p := ⟨gb141, _, none⟩) NB126_141.out _).trans (((cell_far (p := ⟨gb141, _, none⟩) NB126_141.out _).trans (((cell_far (p := ⟨gb141, _, none⟩) NB126_141.out _).trans (((cell_far (p := ⟨gb141, _, none⟩) NB126_141.out _).trans (((cell_far (p := ⟨gb141, _, none⟩) NB126_141.out _).trans (((cell_far (p := ⟨gb141, _, none⟩) NB126_141.out _).trans (hHeld.2.2.1)))))))))))), ((cell_far (p := ⟨gb141, _, none⟩) NB126_141.out _).trans (((cell_far (p := ⟨gb141, _, none⟩) NB126_141.out _).trans (((cell_far (p := ⟨gb141, _, none⟩) NB126_141.out _).trans (((cell_far (p := ⟨gb141, _, none⟩) NB126_141.out _).trans (((cell_far (p := ⟨gb141, _, none⟩) NB126_141.out _).trans (((cell_far (p := ⟨gb141, _, none⟩) NB126_141.out _).trans (hHeld.2.2.2.1)))))))))))), ((cell_far (p := ⟨gb141, _, none⟩) NB126_141.out _).trans (((cell_far (p := ⟨gb141, _, none⟩) NB126_141.out _).trans (((cell_far (p := ⟨gb141, _, none⟩) NB126_141.out _).trans (((cell_far (p := ⟨gb141, _, none⟩) NB126_141.out _).trans (((cell_far (p := ⟨gb141, _, none⟩) NB126_141.out _).trans (((cell_far (p := ⟨gb141, _, none⟩) NB126_141.out _).trans (hHeld.2.2.2.2.1)))))))))))), ((cell_far (p := ⟨gb141, _, none⟩) NB127_141.out _).trans (((cell_far (p := ⟨gb141, _, none⟩) NB127_141.out _).trans (((cell_far (p := ⟨gb141, _, none⟩) NB127_141.out _).trans (((cell_far (p := ⟨gb141, _, none⟩) NB127_141.out _).trans (((cell_far (p := ⟨gb141, _, none⟩) NB127_141.out _).trans (((cell_far (p := ⟨gb141, _, none⟩) NB127_141.out _).trans (hHeld.2.2.2.2.2.1)))))))))))), ((cell_far (p := ⟨gb141, _, none⟩) NB127_141.out _).trans (((cell_far (p := ⟨gb141, _, none⟩) NB127_141.out _).trans (((cell_far (p := ⟨gb141, _, none⟩) NB127_141.out _).trans (((cell_far (p := ⟨gb141, _, none⟩) NB127_141.out _).trans (((cell_far (p := ⟨gb141, _, none⟩) NB127_141.out _).trans (((cell_far (p := ⟨gb141, _, none⟩) NB127_141.out _).trans (hHeld.2.2.2.2.2.2.1)))))))))))), ((cell_far (p := ⟨gb141, _, none⟩) NB127_141.out _).trans (((cell_far (p := ⟨gb141, _, none⟩) NB127_141.out _).trans (((cell_far (p := ⟨gb141, _, none⟩) NB127_141.out _).trans (((cell_far (p := ⟨gb141, _, none⟩) NB127_141.out _).trans (((cell_far (p := ⟨gb141, _, none⟩) NB127_141.out _).trans (((cell_far (p := ⟨gb141, _, none⟩) NB127_141.out _).trans (hHeld.2.2.2.2.2.2.2.1)))))))))))), ((cell_far (p := ⟨gb141, _, none⟩) NB127_141.out _).trans (((cell_far (p := ⟨gb141, _, none⟩) NB127_141.out _).trans (((cell_far (p := ⟨gb141, _, none⟩) NB127_141.out _).trans (((cell_far (p := ⟨gb141, _, none⟩) NB127_141.out _).trans (((cell_far (p := ⟨gb141, _, none⟩) NB127_141.out _).trans (((cell_far (p := ⟨gb141, _, none⟩) NB127_141.out _).trans (hHeld.2.2.2.2.2.2.2.2.1)))))))))))), ((cell_far (p := ⟨gb141, _, none⟩) NB127_141.out _).trans (((cell_far (p := ⟨gb141, _, none⟩) NB127_141.out _).trans (((cell_far (p := ⟨gb141, _, none⟩) NB127_141.out _).trans (((cell_far (p := ⟨gb141, _, none⟩) NB127_141.out _).trans (((cell_far (p := ⟨gb141, _, none⟩) NB127_141.out _).trans (((cell_far (p := ⟨gb141, _, none⟩) NB127_141.out _).trans (hHeld.2.2.2.2.2.2.2.2.2))))))))))))⟩ (fun hHeld => ?_)
 clear hK K
 refine done_ (done_of HT_.out (by kernel_rfl)) ?_
 try go_wp2
 have n0_ : Aside0 (((((((((((((w15.setCell ⟨gb140, 0, none⟩ (.string t128)).setCell ⟨gb140, 1, none⟩ (.string t129)).setCell ⟨gb140, 2, none⟩ (.string t130)).setCell ⟨gb140, 3, none⟩ (.bool t131)).setCell ⟨gb140, 4, none⟩ (.string t132)).setCell ⟨gb140, 5, none⟩ (.string t133)).setCell ⟨gb141, 0, none⟩ (.string t134)).setCell ⟨gb141, 1, none⟩ (.string t135)).setCell ⟨gb141, 2, none⟩ (.string t136)).setCell ⟨gb141, 3, none⟩ (.bool t137)).setCell ⟨gb141, 4, none⟩ (.string t138)).setCell ⟨gb141, 5, none⟩ (.string t139)).heap[gb126]? = some (.cells #[.string a0_0, .string a0_1, .string a0_2, .string a0_3, .string a0_4] 23 (0, 0))) := ⟨by (with_reducible repeat (first | refine blk_drewN ?_ _ | refine blk_drew ?_ | refine blk_alloc ?_ _)); refine blk_far ?_ NB126_141.out _; (with_reducible repeat (first | refine blk_drewN ?_ _ | refine blk_drew ?_ | refine blk_alloc ?_ _)); refine blk_far ?_ NB126_141.out _; (with_reducible repeat (first | refine blk_drewN ?_ _ | refine blk_drew ?_ | refine blk_alloc ?_ _)); refine blk_far ?_ NB126_141.out _; (with_reducible repeat (first | refine blk_drewN ?_ _ | refine blk_drew ?_ | refine blk_alloc ?_ _)); refine blk_far ?_ NB126_141.out _; (with_reducible repeat (first | refine blk_drewN ?_ _ | refine blk_drew ?_ | refine blk_alloc ?_ _)); refine blk_far ?_ NB126_141.out _; (with_reducible repeat (first | refine blk_drewN ?_ _ | refine blk_drew ?_ | refine blk_alloc ?_ _)); refine blk_far ?_ NB126_141.out _; (with_reducible repeat (first | refine blk_drewN ?_ _ | refine blk_drew ?_ | refine blk_alloc ?_ _)); refine blk_far ?_ NB126_140.out _; (with_reducible repeat (first | refine blk_drewN ?_ _ | refine blk_drew ?_ | refine blk_alloc ?_ _)); refine blk_far ?_ NB126_140.out _; (with_reducible repeat (first | refine blk_drewN ?_ _ | refine blk_drew ?_ | refine blk_alloc ?_ _)); refine blk_far ?_ NB126_140.out _; (with_reducible repeat (first | refine blk_drewN ?_ _ | refine blk_drew ?_ | refine blk_alloc ?_ _)); refine blk_far ?_ NB126_140.out _; (with_reducible repeat (first | refine blk_drewN ?_ _ | refine blk_drew ?_ | refine blk_alloc ?_ _)); refine blk_far ?_ NB126_140.out _; (with_reducible repeat (first | refine blk_drewN ?_ _ | refine blk_drew ?_ | refine blk_alloc ?_ _)); refine blk_far ?_ NB126_140.out _; (with_reducible repeat (first | refine blk_drewN ?_ _ | refine blk_drew ?_ | refine blk_alloc ?_ _)); exact BK126.out⟩
 have n1_ : Aside0 (((((((((((((w15.setCell ⟨gb140, 0, none⟩ (.string t128)).setCell ⟨gb140, 1, none⟩ (.string t129)).setCell ⟨gb140, 2, none⟩ (.string t130)).setCell ⟨gb140, 3, none⟩ (.bool t131)).setCell ⟨gb140, 4, none⟩ (.string t132)).setCell ⟨gb140, 5, none⟩ (.string t133)).setCell ⟨gb141, 0, none⟩ (.string t134)).setCell ⟨gb141, 1, none⟩ (.string t135)).setCell ⟨gb141, 2, none⟩ (.string t136)).setCell ⟨gb141, 3, none⟩ (.bool t137)).setCell ⟨gb141, 4, none⟩ (.string t138)).setCell ⟨gb141, 5, none⟩ (.string t139)).heap[gb127]? = some (.cells #[.string a1_0, .string a1_1, .string a1_2, .string a1_3, .string a1_4] 23 (0, 0))) := ⟨by (with_reducible repeat (first | refine blk_drewN ?_ _ | refine blk_drew ?_ | refine blk_alloc ?_ _)); refine blk_far ?_ NB127_141.out _; (with_reducible repeat (first | refine blk_drewN ?_ _ | refine blk_drew ?_ | refine blk_alloc ?_ _)); refine blk_far ?_ NB127_141.out _; (with_reducible repeat (first | refine blk_drewN ?_ _ | refine blk_drew ?_ | refine blk_alloc ?_ _)); refine blk_far ?_ NB127_141.out _; (with_reducible repeat (first | refine blk_drewN ?_ _ | refine blk_drew ?_ | refine blk_alloc ?_ _)); refine blk_far ?_ NB127_141.out _; (with_reducible repeat (first | refine blk_drewN ?_ _ | refine blk_drew ?_ | refine blk_alloc ?_ _)); refine blk_far ?_ NB127_141.out _; (with_reducible repeat (first | refine blk_drewN ?_ _ | refine blk_drew ?_ | refine blk_alloc ?_ _)); refine blk_far ?_ NB127_141.out _; (with_reducible repeat (first | refine blk_drewN ?_ _ | refine blk_drew ?_ | refine blk_alloc ?_ _)); refine blk_far ?_ NB127_140.out _; (with_reducible repeat (first | refine blk_drewN ?_ _ | refine blk_drew ?_ | refine blk_alloc ?_ _)); refine blk_far ?_ NB127_140.out _; (with_reducible repeat (first | refine blk_drewN ?_ _ | refine blk_drew ?_ | refine blk_alloc ?_ _)); refine blk_far ?_ NB127_140.out _; (with_reducible repeat (first | refine blk_drewN ?_ _ | refine blk_drew ?_ | refine blk_alloc ?_ _)); refine blk_far ?_ NB127_140.out _; (with_reducible repeat (first | refine blk_drewN ?_ _ | refine blk_drew ?_ | refine blk_alloc ?_ _)); refine blk_far ?_ NB127_140.out _; (with_reducible repeat (first | refine blk_drewN ?_ _ | refine blk_drew ?_ | refine blk_alloc ?_ _)); refine blk_far ?_ NB127_140.out _; (with_reducible repeat (first | refine blk_drewN ?_ _ | refine blk_drew ?_ | refine blk_alloc ?_ _)); exact BK127.out⟩
 have n2_ : Aside0 (((((((((((((w15.setCell ⟨gb140, 0, none⟩ (.string t128)).setCell ⟨gb140, 1, none⟩ (.string t129)).setCell ⟨gb140, 2, none⟩ (.string t130)).setCell ⟨gb140, 3, none⟩ (.bool t131)).setCell ⟨gb140, 4, none⟩ (.string t132)).setCell ⟨gb140, 5, none⟩ (.string t133)).setCell ⟨gb141, 0, none⟩ (.string t134)).setCell ⟨gb141, 1, none⟩ (.string t135)).setCell ⟨gb141, 2, none⟩ (.string t136)).setCell ⟨gb141, 3, none⟩ (.bool t137)).setCell ⟨gb141, 4, none⟩ (.string t138)).setCell ⟨gb141, 5, none⟩ (.string t139)).heap[gb140]? = some (.cells #[.string t128, .string t129, .string t130, .bool t131, .string t132, .string t133] 40 (0, 0))) := ⟨by (with_reducible repeat (first | refine blk_drewN ?_ _ | refine blk_drew ?_ | refine blk_alloc ?_ _)); refine blk_far ?_ NB140_141.out _; (with_reducible repeat (first | refine blk_drewN ?_ _ | refine blk_drew ?_ | refine blk_alloc ?_ _)); refine blk_far ?_ NB140_141.out _; (with_reducible repeat (first | refine blk_drewN ?_ _ | refine blk_drew ?_ | refine blk_alloc ?_ _)); refine blk_far ?_ NB140_141.out _; (with_reducible repeat (first | refine blk_drewN ?_ _ | refine blk_drew ?_ | refine blk_alloc ?_ _)); refine blk_far ?_ NB140_141.out _; (with_reducible repeat (first | refine blk_drewN ?_ _ | refine blk_drew ?_ | refine blk_alloc ?_ _)); refine blk_far ?_ NB140_141.out _; (with_reducible repeat (first | refine blk_drewN ?_ _ | refine blk_drew ?_ | refine blk_alloc ?_ _)); refine blk_far ?_ NB140_141.out _; (with_reducible repeat (first | refine blk_drewN ?_ _ | refine blk_drew ?_ | refine blk_alloc ?_ _)); refine blk_put (cs := #[.string t128, .string t129, .string t130, .bool t131, .string t132, .string (⟨#[]⟩ : ByteArray)]) ?_ 5 _ rfl; (with_reducible repeat (first | refine blk_drewN ?_ _ | refine blk_drew ?_ | refine blk_alloc ?_ _)); refine blk_put (cs := #[.string t128, .string t129, .string t130, .bool t131, .string (⟨#[]⟩ : ByteArray), .string (⟨#[]⟩ : ByteArray)]) ?_ 4 _ rfl; (with_reducible repeat (first | refine blk_drewN ?_ _ | refine blk_drew ?_ | refine blk_alloc ?_ _)); refine blk_put (cs := #[.string t128, .string t129, .string t130, .bool false, .string (⟨#[]⟩ : ByteArray), .string (⟨#[]⟩ : ByteArray)]) ?_ 3 _ rfl; (with_reducible repeat (first | refine blk_drewN ?_ _ | refine blk_drew ?_ | refine blk_alloc ?_ _)); refine blk_put (cs := #[.string t128, .string t129, .string (⟨#[]⟩ : ByteArray), .bool false, .string (⟨#[]⟩ : ByteArray), .string (⟨#[]⟩ : ByteArray)]) ?_ 2 _ rfl; (with_reducible repeat (first | refine blk_drewN ?_ _ | refine blk_drew ?_ | refine blk_alloc ?_ _)); refine blk_put (cs := #[.string t128, .string (⟨#[]⟩ : ByteArray), .string (⟨#[]⟩ : ByteArray), .bool false, .string (⟨#[]⟩ : ByteArray), .string (⟨#[]⟩ : ByteArray)]) ?_ 1 _ rfl; (with_reducible repeat (first | refine blk_drewN ?_ _ | refine blk_drew ?_ | refine blk_alloc ?_ _)); refine blk_put (cs := #[.string (⟨#[]⟩ : ByteArray), .string (⟨#[]⟩ : ByteArray), .string (⟨#[]⟩ : ByteArray), .bool false, .string (⟨#[]⟩ : ByteArray), .string (⟨#[]⟩ : ByteArray)]) ?_ 0 _ rfl; (with_reducible repeat (first | refine blk_drewN ?_ _ | refine blk_drew ?_ | refine blk_alloc ?_ _)); exact BK140.out⟩
 have n3_ : Aside0 (((((((((((((w15.setCell ⟨gb140, 0, none⟩ (.string t128)).setCell ⟨gb140, 1, none⟩ (.string t129)).setCell ⟨gb140, 2, none⟩ (.string t130)).setCell ⟨gb140, 3, none⟩ (.bool t131)).setCell ⟨gb140, 4, none⟩ (.string t132)).setCell ⟨gb140, 5, none⟩ (.string t133)).setCell ⟨gb141, 0, none⟩ (.string t134)).setCell ⟨gb141, 1, none⟩ (.string t135)).setCell ⟨gb141, 2, none⟩ (.string t136)).setCell ⟨gb141, 3, none⟩ (.bool t137)).setCell ⟨gb141, 4, none⟩ (.string t138)).setCell ⟨gb141, 5, none⟩ (.string t139)).heap[gb141]? = some (.cells #[.string t134, .string t135, .string t136, .bool t137, .string t138, .string t139] 40 (0, 0))) := ⟨by (with_reducible repeat (first | refine blk_drewN ?_ _ | refine blk_drew ?_ | refine blk_alloc ?_ _)); refine blk_put (cs := #[.string t134, .string t135, .string t136, .bool t137, .string t138, .string (⟨#[]⟩ : ByteArray)]) ?_ 5 _ rfl; (with_reducible repeat (first | refine blk_drewN ?_ _ | refine blk_drew ?_ | refine blk_alloc ?_ _)); refine blk_put (cs := #[.string t134, .string t135, .string t136, .bool t137, .string (⟨#[]⟩ : ByteArray), .string (⟨#[]⟩ : ByteArray)]) ?_ 4 _ rfl; (with_reducible repeat (first | refine blk_drewN ?_ _ | refine blk_drew ?_ | refine blk_alloc ?_ _)); refine blk_put (cs := #[.string t134, .string t135, .string t136, .bool false, .string (⟨#[]⟩ : ByteArray), .string (⟨#[]⟩ : ByteArray)]) ?_ 3 _ rfl; (with_reducible repeat (first | refine blk_drewN ?_ _ | refine blk_drew ?_ | refine blk_alloc ?_ _)); refine blk_put (cs := #[.string t134, .string t135, .string (⟨#[]⟩ : ByteArray), .bool false, .string (⟨#[]⟩ : ByteArray), .string (⟨#[]⟩ : ByteArray)]) ?_ 2 _ rfl; (with_reducible repeat (first | refine blk_drewN ?_ _ | refine blk_drew ?_ | refine blk_alloc ?_ _)); refine blk_put (cs := #[.string t134, .string (⟨#[]⟩ : ByteArray), .string (⟨#[]⟩ : ByteArray), .bool false, .string (⟨#[]⟩ : ByteArray), .string (⟨#[]⟩ : ByteArray)]) ?_ 1 _ rfl; (with_reducible repeat (first | refine blk_drewN ?_ _ | refine blk_drew ?_ | refine blk_alloc ?_ _)); refine blk_put (cs := #[.string (⟨#[]⟩ : ByteArray), .string (⟨#[]⟩ : ByteArray), .string (⟨#[]⟩ : ByteArray), .bool false, .string (⟨#[]⟩ : ByteArray), .string (⟨#[]⟩ : ByteArray)]) ?_ 0 _ rfl; (with_reducible repeat (first | refine blk_drewN ?_ _ | refine blk_drew ?_ | refine blk_alloc ?_ _)); refine blk_far ?_ NB141_140.out _; (with_reducible repeat (first | refine blk_drewN ?_ _ | refine blk_drew ?_ | refine blk_alloc ?_ _)); refine blk_far ?_ NB141_140.out _; (with_reducible repeat (first | refine blk_drewN ?_ _ | refine blk_drew ?_ | refine blk_alloc ?_ _)); refine blk_far ?_ NB141_140.out _; (with_reducible repeat (first | refine blk_drewN ?_ _ | refine blk_drew ?_ | refine blk_alloc ?_ _)); refine blk_far ?_ NB141_140.out _; (with_reducible repeat (first | refine blk_drewN ?_ _ | refine blk_drew ?_ | refine blk_alloc ?_ _)); refine blk_far ?_ NB141_140.out _; (with_reducible repeat (first | refine blk_drewN ?_ _ | refine blk_drew ?_ | refine blk_alloc ?_ _)); refine blk_far ?_ NB141_140.out _; (with_reducible repeat (first | refine blk_drewN ?_ _ | refine blk_drew ?_ | refine blk_alloc ?_ _)); exact BK141.out⟩
 have n4_ : Aside0 (Below w.heap.size w ((((((((((((w15.setCell ⟨gb140, 0, none⟩ (.string t128)).setCell ⟨gb140, 1, none⟩ (.string t129)).setCell ⟨gb140, 2, none⟩ (.string t130)).setCell ⟨gb140, 3, none⟩ (.bool t131)).setCell ⟨gb140, 4, none⟩ (.string t132)).setCell ⟨gb140, 5, none⟩ (.string t133)).setCell ⟨gb141, 0, none⟩ (.string t134)).setCell ⟨gb141, 1, none⟩ (.string t135)).setCell ⟨gb141, 2, none⟩ (.string t136)).setCell ⟨gb141, 3, none⟩ (.bool t137)).setCell ⟨gb141, 4, none⟩ (.string t138)).setCell ⟨gb141, 5, none⟩ (.string t139))) := ⟨by repeat (first | (with_reducible first | exact HB.out | apply below_alloc | apply pw_below_drewN | apply below_drew1 | refine below_set ?_ GE126.out | refine below_set ?_ GE127.out | refine below_set ?_ GE140.out | refine below_set ?_ GE141.out) | exact HB.out)⟩
 (try clear BK126)
 (try clear BK127)
 (try clear BK140)
 (try clear BK141)
 (try clear HB)
 generalize ((((((((((((w15.setCell ⟨gb140, 0, none⟩ (.string t128)).setCell ⟨gb140, 1, none⟩ (.string t129)).setCell ⟨gb140, 2, none⟩ (.string t130)).setCell ⟨gb140, 3, none⟩ (.bool t131)).setCell ⟨gb140, 4, none⟩ (.string t132)).setCell ⟨gb140, 5, none⟩ (.string t133)).setCell ⟨gb141, 0, none⟩ (.string t134)).setCell ⟨gb141, 1, none⟩ (.string t135)).setCell ⟨gb141, 2, none⟩ (.string t136)).setCell ⟨gb141, 3, none⟩ (.bool t137)).setCell ⟨gb141, 4, none⟩ (.string t138)).setCell ⟨gb141, 5, none⟩ (.string t139)) = w28 at n0_ n1_ n2_ n3_ n4_ ⊢
 have BK126 := n0_
 have BK127 := n1_
 have BK140 := n2_
 have BK141 := n3_
 have HB := n4_
 clear n0_ n1_ n2_ n3_ n4_
 have n0_ := Aside0.mk (blk_drew BK126.out)
 have n1_ := Aside0.mk (blk_drew BK127.out)
 have n2_ := Aside0.mk (blk_drew BK140.out)
 have n3_ := Aside0.mk (blk_drew BK141.out)
 have n4_ := Aside0.mk (below_drew1 HB.out)
 clear BK126
 clear BK127
 clear BK140
 clear BK141
 clear HB
 have BK126 := n0_
 have BK127 := n1_
 have BK140 := n2_
 have BK141 := n3_
 have HB := n4_
 clear n0_ n1_ n2_ n3_ n4_
 refine start_ (n := 12) (S := fun w' => w'.cell? ⟨gb140, 0, none⟩ = some (.string t128) ∧ w'.cell? ⟨gb140, 1, none⟩ = some (.string t129) ∧ w'.cell? ⟨gb140, 2, none⟩ = some (.string t130) ∧ w'.cell? ⟨gb140, 3, none⟩ = some (.bool t131) ∧ w'.cell? ⟨gb140, 4, none⟩ = some (.string t132) ∧ w'.cell? ⟨gb140, 5, none⟩ = some (.string t133) ∧ w'.cell? ⟨gb141, 0, none⟩ = some (.string t134) ∧ w'.cell? ⟨gb141, 1, none⟩ = some (.string t135) ∧ w'.cell? ⟨gb141, 2, none⟩ = some (.string t136) ∧ w'.cell? ⟨gb141, 3, none⟩ = some (.bool t137) ∧ w'.cell? ⟨gb141, 4, none⟩ = some (.string t138) ∧ w'.cell? ⟨gb141, 5, none⟩ = some (.string t139)) (ds := []) b17_ (by kernel_rfl) rfl rfl ⟨HVia.bc BK140 0 rfl, HVia.bc BK140 1 rfl, HVia.bc BK140 2 rfl, HVia.bc BK140 3 rfl, HVia.bc BK140 4 rfl, HVia.bc BK140 5 rfl, HVia.bc BK141 0 rfl, HVia.bc BK141 1 rfl, HVia.bc BK141 2 rfl, HVia.bc BK141 3 rfl, HVia.bc BK141 4 rfl, HVia.bc BK141 5 rfl⟩ (fun hHeld => ?_); refine with_tabW impl_IdEqual.tab2 impl_IdEqual.bits2 (fun HT_ HW_ => ?_)
 generalize w28.drew = w29 at BK126 BK127 BK140 BK141 HB hHeld ⊢
 refine take_ (i := 0) (N := some 13) (v := ?_) (a' := ?_) b18_ rfl rfl (take_ofW HT_.out HW_.out (by kernel_rfl)) (fun _ _ _ h => h) (Or.inl ⟨by rfl, ?_⟩) hHeld ?_ ?_
 rotate_left
 · rintro w' ⟨s0, s1, s2, s3, s4, s5, s6, s7, s8, s9, s10, s11⟩
   go_simp
   with_reducible rfl
 rotate_left
 · simp only [Act.put, List.setIfInBounds_toArray, List.set_cons_zero, List.set_cons_succ, i64_w, i32_w]
   rfl
 refine HVia.tS 1 14 b19_ HT_ HW_ (by kernel_rfl) rfl rfl (fun _ _ _ h => h) hHeld (by rfl) (by rintro w' ⟨s0, s1, s2, s3, s4, s5, s6, s7, s8, s9, s10, s11⟩; go_simp; with_reducible rfl) (by simp only [List.set_cons_zero, List.set_cons_succ]; rfl) ?_
 refine HVia.tS 3 16 b20_ HT_ HW_ (by kernel_rfl) rfl rfl (fun _ _ _ h => h) hHeld (by rfl) (by rintro w' ⟨s0, s1, s2, s3, s4, s5, s6, s7, s8, s9, s10, s11⟩; go_simp; with_reducible rfl) (by simp only [List.set_cons_zero, List.set_cons_succ]; rfl) ?_
 refine HVia.tS 4 17 b21_ HT_ HW_ (by kernel_rfl) rfl rfl (fun _ _ _ h => h) hHeld (by rfl) (by rintro w' ⟨s0, s1, s2, s3, s4, s5, s6, s7, s8, s9, s10, s11⟩; go_simp; with_reducible rfl) (by simp only [List.set_cons_zero, List.set_cons_succ]; rfl) ?_
 refine HVia.tS 6 19 b22_ HT_ HW_ (by kernel_rfl) rfl rfl (fun _ _ _ h => h) hHeld (by rfl) (by rintro w' ⟨s0, s1, s2, s3, s4, s5, s6, s7, s8, s9, s10, s11⟩; go_simp; with_reducible rfl) (by simp only [List.set_cons_zero, List.set_cons_succ]; rfl) ?_
 refine HVia.tS 7 20 b23_ HT_ HW_ (by kernel_rfl) rfl rfl (fun _ _ _ h => h) hHeld (by rfl) (by rintro w' ⟨s0, s1, s2, s3, s4, s5, s6, s7, s8, s9, s10, s11⟩; go_simp; with_reducible rfl) (by simp only [List.set_cons_zero, List.set_cons_succ]; rfl) ?_
 refine one_ (i := 2) (N := some 15) b24_ rfl rfl (one_of HT_.out (by kernel_rfl)) (by decide) (fun K hK => ?_)
 refine goes_ Try.func17 (by kernel_rfl) rfl #[.agg #[.string t128, .string t129, .string t130, .bool t131, .string t132, .string t133], .agg #[.string t134, .string t135, .string t136, .bool t137, .string t138, .string t139]] (by rfl) rfl rfl (by (try simp only [List.map_toArray, List.map_cons, List.map_nil]); first | done | rfl | (simp only [List.length_drop, List.length_take]; rfl)) ?_
 with_reducible refine (resid_ResId_Equals.calls t128 t129 t130 t131 t132 t133 t134 t135 t136 t137 t138 t139 t142 _ A5.out).mono ?_
 rintro e w30 ⟨rfl, hb⟩
 refine ⟨_, rfl, ?_⟩
 have n0_ := Aside0.mk (blk_below (g := gb126) (o := .cells #[.string a0_0, .string a0_1, .string a0_2, .string a0_3, .string a0_4] 23 (0, 0)) (by (with_reducible repeat (first | refine blk_drewN ?_ _ | refine blk_drew ?_ | refine blk_alloc ?_ _)); exact BK126.out) hb)
 have n1_ := Aside0.mk (blk_below (g := gb127) (o := .cells #[.string a1_0, .string a1_1, .string a1_2, .string a1_3, .string a1_4] 23 (0, 0)) (by (with_reducible repeat (first | refine blk_drewN ?_ _ | refine blk_drew ?_ | refine blk_alloc ?_ _)); exact BK127.out) hb)
 have n2_ := Aside0.mk (blk_below (g := gb140) (o := .cells #[.string t128, .string t129, .string t130, .bool t131, .string t132, .string t133] 40 (0, 0)) (by (with_reducible repeat (first | refine blk_drewN ?_ _ | refine blk_drew ?_ | refine blk_alloc ?_ _)); exact BK140.out) hb)
 have n3_ := Aside0.mk (blk_below (g := gb141) (o := .cells #[.string t134, .string t135, .string t136, .bool t137, .string t138, .string t139] 40 (0, 0)) (by (with_reducible repeat (first | refine blk_drewN ?_ _ | refine blk_drew ?_ | refine blk_alloc ?_ _)); exact BK141.out) hb)
 have n4_ := Aside0.mk (below_step (by repeat (first | (with_reducible first | exact HB.out | apply below_alloc | apply pw_below_drewN | apply below_drew1 | refine below_set ?_ GE126.out | refine below_set ?_ GE127.out | refine below_set ?_ GE140.out | refine below_set ?_ GE141.out) | exact HB.out)) hb)
 clear BK126
 clear BK127
 clear BK140
 clear BK141
 clear HB
 have BK126 := n0_
 have BK127 := n1_
 have BK140 := n2_
 have BK141 := n3_
 have HB := n4_
 clear n0_ n1_ n2_ n3_ n4_
 (try clear hb)
 (try clear hb2)
 (try clear hk)
 (try clear hi)
 refine hK.out _ _ ⟨HVia.bc BK140 0 rfl, HVia.bc BK140 1 rfl, HVia.bc BK140 2 rfl, HVia.bc BK140 3 rfl, HVia.bc BK140 4 rfl, HVia.bc BK140 5 rfl, HVia.bc BK141 0 rfl, HVia.bc BK141 1 rfl, HVia.bc BK141 2 rfl, HVia.bc BK141 3 rfl, HVia.bc BK141 4 rfl, HVia.bc BK141 5 rfl⟩ (fun hHeld => ?_)
 clear hK K
 refine norm_ (a' := ?_) ?_ ?_
 rotate_left
 · show Act.put _ (some 15) _ = _
   simp only [Act.put, List.setIfInBounds_toArray, List.set_cons_zero, List.set_cons_succ, i64_w, i32_w]
   rfl
 refine one_ (i := 5) (N := some 18) b25_ rfl rfl (one_of HT_.out (by kernel_rfl)) (by decide) (fun K hK => ?_)
 refine goes_ Try.func18 (by kernel_rfl) rfl #[.agg #[.string t128, .string t129, .string t130, .bool t131, .string t132, .string t133], .agg #[.string t134, .string t135, .string t136, .bool t137, .string t138, .string t139]] (by rfl) rfl rfl (by (try simp only [List.map_toArray, List.map_cons, List.map_nil]); first | done | rfl | (simp only [List.length_drop, List.length_take]; rfl)) ?_
 with_reducible refine (resid_ResId_GvknEquals.calls t128 t129 t130 t131 t132 t133 t134 t135 t136 t137 t138 t139 t143 _ A6.out).mono ?_
 rintro e w31 ⟨rfl, hb⟩
 refine ⟨_, rfl, ?_⟩
 have n0_ := Aside0.mk (blk_below (g := gb126) (o := .cells #[.string a0_0, .string a0_1, .string a0_2, .string a0_3, .string a0_4] 23 (0, 0)) (by (with_reducible repeat (first | refine blk_drewN ?_ _ | refine blk_drew ?_ | refine blk_alloc ?_ _)); exact BK126.out) hb)
 have n1_ := Aside0.mk (blk_below (g := gb127) (o := .cells #[.string a1_0, .string a1_1, .string a1_2, .string a1_3, .string a1_4] 23 (0, 0)) (by (with_reducible repeat (first | refine blk_drewN ?_ _ | refine blk_drew ?_ | refine blk_alloc ?_ _)); exact BK127.out) hb)
 have n2_ := Aside0.mk (blk_below (g := gb140) (o := .cells #[.string t128, .string t129, .string t130, .bool t131, .string t132, .string t133] 40 (0, 0)) (by (with_reducible repeat (first | refine blk_drewN ?_ _ | refine blk_drew ?_ | refine blk_alloc ?_ _)); exact BK140.out) hb)
 have n3_ := Aside0.mk (blk_below (g := gb141) (o := .cells #[.string t134, .string t135, .string t136, .bool t137, .string t138, .string t139] 40 (0, 0)) (by (with_reducible repeat (first | refine blk_drewN ?_ _ | refine blk_drew ?_ | refine blk_alloc ?_ _)); exact BK141.out) hb)
 have n4_ := Aside0.mk (below_step (by repeat (first | (with_reducible first | exact HB.out | apply below_alloc | apply pw_below_drewN | apply below_drew1 | refine below_set ?_ GE126.out | refine below_set ?_ GE127.out | refine below_set ?_ GE140.out | refine below_set ?_ GE141.out) | exact HB.out)) hb)
 clear BK126
 clear BK127
 clear BK140
 clear BK141
 clear HB
 have BK126 := n0_
 have BK127 := n1_
 have BK140 := n2_
 have BK141 := n3_
 have HB := n4_
 clear n0_ n1_ n2_ n3_ n4_
 (try clear hb)
 (try clear hb2)
 (try clear hk)
 (try clear hi)
 refine hK.out _ _ ⟨HVia.bc BK140 0 rfl, HVia.bc BK140 1 rfl, HVia.bc BK140 2 rfl, HVia.bc BK140 3 rfl, HVia.bc BK140 4 rfl, HVia.bc BK140 5 rfl, HVia.bc BK141 0 rfl, HVia.bc BK141 1 rfl, HVia.bc BK141 2 rfl, HVia.bc BK141 3 rfl, HVia.bc BK141 4 rfl, HVia.bc BK141 5 rfl⟩ (fun hHeld => ?_)
 clear hK K
 refine norm_ (a' := ?_) ?_ ?_
 rotate_left
 · show Act.put _ (some 18) _ = _
   simp only [Act.put, List.setIfInBounds_toArray, List.set_cons_zero, List.set_cons_succ, i64_w, i32_w]
   rfl
 refine one_ (i := 8) (N := some 21) b26_ rfl rfl (one_of HT_.out (by kernel_rfl)) (by decide) (fun K hK => ?_)
 refine goes_ Try.func19 (by kernel_rfl) rfl #[.agg #[.string t128, .string t129, .string t130, .bool t131, .string t132, .string t133], .agg #[.string t134, .string t135, .string t136, .bool t137, .string t138, .string t139]] (by rfl) rfl rfl (by (try simp only [List.map_toArray, List.map_cons, List.map_nil]); first | done | rfl | (simp only [List.length_drop, List.length_take]; rfl)) ?_
 with_reducible refine (resid_ResId_IsSelectedBy.calls t128 t129 t130 t131 t132 t133 t134 t135 t136 t137 t138 t139 t144 _ A7.out).mono ?_
 rintro e w32 ⟨rfl, hb⟩
 refine ⟨_, rfl, ?_⟩
 have n0_ := Aside0.mk (blk_below (g := gb126) (o := .cells #[.string a0_0, .string a0_1, .string a0_2, .string a0_3, .string a0_4] 23 (0, 0)) (by (with_reducible repeat (first | refine blk_drewN ?_ _ | refine blk_drew ?_ | refine blk_alloc ?_ _)); exact BK126.out) hb)
 have n1_ := Aside0.mk (blk_below (g := gb127) (o := .cells #[.string a1_0, .string a1_1, .string a1_2, .string a1_3, .string a1_4] 23 (0, 0)) (by (with_reducible repeat (first | refine blk_drewN ?_ _ | refine blk_drew ?_ | refine blk_alloc ?_ _)); exact BK127.out) hb)
 have n2_ := Aside0.mk (blk_below (g := gb140) (o := .cells #[.string t128, .string t129, .string t130, .bool t131, .string t132, .string t133] 40 (0, 0)) (by (with_reducible repeat (first | refine blk_drewN ?_ _ | refine blk_drew ?_ | refine blk_alloc ?_ _)); exact BK140.out) hb)
 have n3_ := Aside0.mk (blk_below (g := gb141) (o := .cells #[.string t134, .string t135, .string t136, .bool t137, .string t138, .string t139] 40 (0, 0)) (by (with_reducible repeat (first | refine blk_drewN ?_ _ | refine blk_drew ?_ | refine blk_alloc ?_ _)); exact BK141.out) hb)
 have n4_ := Aside0.mk (below_step (by repeat (first | (with_reducible first | exact HB.out | apply below_alloc | apply pw_below_drewN | apply below_drew1 | refine below_set ?_ GE126.out | refine below_set ?_ GE127.out | refine below_set ?_ GE140.out | refine below_set ?_ GE141.out) | exact HB.out)) hb)
 clear BK126
 clear BK127
 clear BK140
 clear BK141
 clear HB
 have BK126 := n0_
 have BK127 := n1_
 have BK140 := n2_
 have BK141 := n3_
 have HB := n4_
 clear n0_ n1_ n2_ n3_ n4_
 (try clear hb)
 (try clear hb2)
 (try clear hk)
 (try clear hi)
 refine hK.out _ _ ⟨HVia.bc BK140 0 rfl, HVia.bc BK140 1 rfl, HVia.bc BK140 2 rfl, HVia.bc BK140 3 rfl, HVia.bc BK140 4 rfl, HVia.bc BK140 5 rfl, HVia.bc BK141 0 rfl, HVia.bc BK141 1 rfl, HVia.bc BK141 2 rfl, HVia.bc BK141 3 rfl, HVia.bc BK141 4 rfl, HVia.bc BK141 5 rfl⟩ (fun hHeld => ?_)
 clear hK K
 refine norm_ (a' := ?_) ?_ ?_
 rotate_left
 · show Act.put _ (some 21) _ = _
   simp only [Act.put, List.setIfInBounds_toArray, List.set_cons_zero, List.set_cons_succ, i64_w, i32_w]
   rfl
 refine HVia.pS 9 4 b27_ HT_ (by kernel_rfl) rfl rfl (fun _ _ _ h => h) (by rfl) (by intro w'; go_simp; with_reducible rfl) (by simp only [List.set_cons_zero, List.set_cons_succ]; rfl) ?_
 refine HVia.pS 10 5 b28_ HT_ (by kernel_rfl) rfl rfl (fun _ _ _ h => h) (by rfl) (by intro w'; go_simp; with_reducible rfl) (by simp only [List.set_cons_zero, List.set_cons_succ]; rfl) ?_
 refine HVia.pS 11 6 b29_ HT_ (by kernel_rfl) rfl rfl (fun _ _ _ h => h) (by rfl) (by intro w'; go_simp; with_reducible rfl) (by simp only [List.set_cons_zero, List.set_cons_succ]; rfl) ?_
 refine done_ (done_of HT_.out (by kernel_rfl)) ?_
 try go_wp2
 go_ret3
 exact ⟨by first | rfl | (simp [errW_none, errW_some] <;> rfl) | (simp [*, errW_none, errW_some] <;> rfl), by repeat (first | (with_reducible first | exact HB.out | apply below_alloc | apply pw_below_drewN | apply below_drew1 | refine below_set ?_ GE126.out | refine below_set ?_ GE127.out | refine below_set ?_ GE140.out | refine below_set ?_ GE141.out) | exact HB.out)⟩
end Go.Proofs.Ytfdgbgjbncakfaa.GIdEqual

