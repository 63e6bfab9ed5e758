-- Laid by a program of this session (stub.py, shrink.py)
import Derived.Test.YtfdgbgjbncakfaaGFnIdEqualx2
namespace Go.Proofs.Ytfdgbgjbncakfaa.GFnIdEqual
open Go.RowKit Go.Proofs.YtfdgbgjbncakfaaW.PrintWords Go.Proofs.YtfdgbgjbncakfaaW.PrintLast Go.Proofs.YtfdgbgjbncakfaaW.PrintMore
attribute [local go_sem] max2_int min2_int max_two min_two max_three min_three max_four min_four   -- for this text's walks alone
set_option linter.unusedVariables false
set_option linter.unusedSimpArgs false
open laws_FnIdEqual
set_option maxHeartbeats 8000000 in
set_option maxRecDepth 100000 in
theorem laws_FnIdEqual.calls (k : Nat) (a0_0 : ByteArray) (a0_1 : ByteArray) (a0_2 : ByteArray) (a0_3 : ByteArray) (a0_4 : ByteArray) (a1_0 : ByteArray) (a1_1 : ByteArray) (a1_2 : ByteArray) (a1_3 : ByteArray) (a1_4 : ByteArray) (a2 : Int) (r : Bool) (w : World) (h : laws_FnIdEqual.f k a0_0 a0_1 a0_2 a0_3 a0_4 a1_0 a1_1 a1_2 a1_3 a1_4 a2 = some r) :
 Calls Try.prog 3 #[.agg #[.string a0_0, .string a0_1, .string a0_2, .string a0_3, .string a0_4], .agg #[.string a1_0, .string a1_1, .string a1_2, .string a1_3, .string a1_4], .int .u8 a2] w fun e w' => e = .returned (.bool r) ∧ Below w.heap.size w w' := by
 have hu23 := Try.underlying23
 have HB := Aside0.mk (Below.refl w.heap.size w)
 have H : ((laws_zzFits12.f a0_0 a0_1 a0_2 a0_3 a0_4).bind fun t103 => (if t103 = true then ((laws_zzFits12.f a1_0 a1_1 a1_2 a1_3 a1_4).bind fun t104 => (laws_FnIdEqual.j0 k a2 (!t104) a0_0 a0_1 a0_2 a0_3 a0_4 a1_0 a1_1 a1_2 a1_3 a1_4)) else (laws_FnIdEqual.j0 k a2 true a0_0 a0_1 a0_2 a0_3 a0_4 a1_0 a1_1 a1_2 a1_3 a1_4))) = some r := h
 clear h
 have HC4 := Aside0.mk H
 clear H
 go_enter Try.func3, Try.ntmps3
 go_upto_region 1 with (first | ((with_reducible refine gate_dst (N := 3) rfl ?_); refine box_event ?hg (N := 3) ?hd (cs := #[.string a0_0, .string a0_1, .string a0_2, .string a0_3, .string a0_4]) (t := 23) ?hr ?_; (case hd => rfl); (case hg => rfl); (case hr => first | (go_simp; done) | (go_simp; rfl)); intro gb101 hg w5 hbox hb; have n0_ := Aside0.mk (below_step (by repeat (first | (with_reducible first | exact HB.out | apply below_alloc | apply pw_below_drewN | apply below_drew1) | exact HB.out)) hb); have n1_ := Aside0.mk (hbox); have n2_ := Aside0.mk ((by rw [hg]; exact (below_size (by repeat (first | (with_reducible first | exact HB.out | apply below_alloc | apply pw_below_drewN | apply below_drew1) | exact HB.out))) : w.heap.size ≤ gb101)); have n3_ := Aside0.mk ((by rw [hg]; exact (below_size (by repeat (first | (with_reducible first | exact HB.out | apply below_alloc | apply pw_below_drewN | apply below_drew1) | exact HB.out))) : w.heap.size ≤ gb101)); clear HB; have HB := n0_; have BK101 := n1_; have GW101 := n2_; have GE101 := n3_; clear n0_ n1_ n2_ n3_; clear hb hbox hg) | ((with_reducible refine gate_dst (N := 4) rfl ?_); refine box_event ?hg (N := 4) ?hd (cs := #[.string a1_0, .string a1_1, .string a1_2, .string a1_3, .string a1_4]) (t := 23) ?hr ?_; (case hd => rfl); (case hg => rfl); (case hr => first | (go_simp; done) | (go_simp; rfl)); intro gb102 hg w6 hbox hb; have n0_ := Aside0.mk (blk_below (g := gb101) (o := .cells #[.string a0_0, .string a0_1, .string a0_2, .string a0_3, .string a0_4] 23 (0, 0)) (by (with_reducible repeat (first | refine blk_drewN ?_ _ | refine blk_drew ?_ | refine blk_alloc ?_ _)); exact BK101.out) hb); have n1_ := Aside0.mk (below_step (by repeat (first | (with_reducible first | exact HB.out | apply below_alloc | apply pw_below_drewN | apply below_drew1 | refine below_set ?_ GE101.out) | exact HB.out)) hb); have n2_ := Aside0.mk (hbox); have n3_ := Aside0.mk ((by rw [hg]; exact (below_size (by repeat (first | (with_reducible first | exact HB.out | apply below_alloc | apply pw_below_drewN | apply below_drew1 | refine below_set ?_ GE101.out) | exact HB.out))) : w.heap.size ≤ gb102)); have n4_ := Aside0.mk ((by rw [hg]; exact (below_size (by repeat (first | (with_reducible first | exact HB.out | apply below_alloc | apply pw_below_drewN | apply below_drew1 | refine below_set ?_ GE101.out) | exact HB.out))) : w.heap.size ≤ gb102)); have n5_ := Aside0.mk ((by rw [hg]; exact Nat.ne_of_lt (blk_lt (g := gb101) (o := .cells #[.string a0_0, .string a0_1, .string a0_2, .string a0_3, .string a0_4] 23 (0, 0)) (by (with_reducible repeat (first | refine blk_drewN ?_ _ | refine blk_drew ?_ | refine blk_alloc ?_ _)); exact BK101.out)) : gb101 ≠ gb102)); have n6_ := Aside0.mk ((by rw [hg]; exact Nat.ne_of_gt (blk_lt (g := gb101) (o := .cells #[.string a0_0, .string a0_1, .string a0_2, .string a0_3, .string a0_4] 23 (0, 0)) (by (with_reducible repeat (first | refine blk_drewN ?_ _ | refine blk_drew ?_ | refine blk_alloc ?_ _)); exact BK101.out)) : gb102 ≠ gb101)); clear BK101; clear HB; have BK101 := n0_; have HB := n1_; have BK102 := n2_; have GW102 := n3_; have GE102 := n4_; have NB101_102 := n5_; have NB102_101 := n6_; clear n0_ n1_ n2_ n3_ n4_ n5_ n6_; clear hb hbox hg))
 (try simp only [Act.put, List.setIfInBounds_toArray, List.set_cons_zero, List.set_cons_succ])
 go_cut [23] (fun v23 wc => ∃ (kq : Nat) (x23_3 : Bool), v23 = .bool x23_3 ∧ Aside0 (laws_FnIdEqual.j0 kq a2 x23_3 a0_0 a0_1 a0_2 a0_3 a0_4 a1_0 a1_1 a1_2 a1_3 a1_4 = some r) ∧ Aside0 (kq ≤ k) ∧ Aside0 (wc.heap[gb101]? = some (.cells #[.string a0_0, .string a0_1, .string a0_2, .string a0_3, .string a0_4] 23 (0, 0))) ∧ Aside0 (wc.heap[gb102]? = some (.cells #[.string a1_0, .string a1_1, .string a1_2, .string a1_3, .string a1_4] 23 (0, 0))) ∧ Aside0 (Below w.heap.size w wc))
 case first =>
  have H := HC4.out
  clear HC4
  replace H := Option.bind_eq_some_iff.mp H
  obtain ⟨t103, A70, H⟩ := H
  replace H : (if t103 = true then ((laws_zzFits12.f a1_0 a1_1 a1_2 a1_3 a1_4).bind fun t104 => (laws_FnIdEqual.j0 k a2 (!t104) a0_0 a0_1 a0_2 a0_3 a0_4 a1_0 a1_1 a1_2 a1_3 a1_4)) else (laws_FnIdEqual.j0 k a2 true a0_0 a0_1 a0_2 a0_3 a0_4 a1_0 a1_1 a1_2 a1_3 a1_4)) = some r := H
  have A7 := Aside0.mk A70
  clear A70
  by_cases c8 : t103 = true
  · subst c8
    have H1 : ((laws_zzFits12.f a1_0 a1_1 a1_2 a1_3 a1_4).bind fun t104 => (laws_FnIdEqual.j0 k a2 (!t104) a0_0 a0_1 a0_2 a0_3 a0_4 a1_0 a1_1 a1_2 a1_3 a1_4)) = some r := by rw [if_pos rfl] at H; exact H
    clear H
    have H := H1
    clear H1
    replace H := Option.bind_eq_some_iff.mp H
    obtain ⟨t104, A90, H⟩ := H
    replace H : (laws_FnIdEqual.j0 k a2 (!t104) a0_0 a0_1 a0_2 a0_3 a0_4 a1_0 a1_1 a1_2 a1_3 a1_4) = some r := H
    have A9 := Aside0.mk A90
    clear A90
    have H' := Aside0.mk H
    clear H
    have hnb10 := NB101_102.out
    have hnc10 := NB102_101.out
    have hcz11_0 : w6.cell? ⟨gb101, 0, none⟩ = some (.string a0_0) := HVia.bc BK101 0 rfl
    have hcz11_1 : w6.cell? ⟨gb101, 1, none⟩ = some (.string a0_1) := HVia.bc BK101 1 rfl
    have hcz11_2 : w6.cell? ⟨gb101, 2, none⟩ = some (.string a0_2) := HVia.bc BK101 2 rfl
    have hcz11_3 : w6.cell? ⟨gb101, 3, none⟩ = some (.string a0_3) := HVia.bc BK101 3 rfl
    have hcz11_4 : w6.cell? ⟨gb101, 4, none⟩ = some (.string a0_4) := HVia.bc BK101 4 rfl
    have hfz11_0 := blk_frozen BK101.out 0
    have hfz11_1 := blk_frozen BK101.out 1
    have hfz11_2 := blk_frozen BK101.out 2
    have hfz11_3 := blk_frozen BK101.out 3
    have hfz11_4 := blk_frozen BK101.out 4
    go_wp2_with (first | ((with_reducible refine gate_callee (f := 6) rfl ?_); refine goesL_ (some 17) rfl rfl Try.func6 (by kernel_rfl) rfl #[.agg #[.string a0_0, .string a0_1, .string a0_2, .string a0_3, .string a0_4]] rfl (by (try simp only [List.map_toArray, List.map_cons, List.map_nil]); first | done | rfl | (simp only [List.length_drop, List.length_take]; rfl)) ?_; (with_reducible refine (laws_zzFits12.calls a0_0 a0_1 a0_2 a0_3 a0_4 true _ A7.out).mono ?_); rintro e w12 ⟨rfl, hb⟩; refine ⟨_, rfl, ?_⟩; have n0_ := Aside0.mk (blk_below (g := gb101) (o := .cells #[.string a0_0, .string a0_1, .string a0_2, .string a0_3, .string a0_4] 23 (0, 0)) (by (with_reducible repeat (first | refine blk_drewN ?_ _ | refine blk_drew ?_ | refine blk_alloc ?_ _)); exact BK101.out) hb); have n1_ := Aside0.mk (blk_below (g := gb102) (o := .cells #[.string a1_0, .string a1_1, .string a1_2, .string a1_3, .string a1_4] 23 (0, 0)) (by (with_reducible repeat (first | refine blk_drewN ?_ _ | refine blk_drew ?_ | refine blk_alloc ?_ _)); exact BK102.out) hb); have n2_ := Aside0.mk (below_step (by repeat (first | (with_reducible first | exact HB.out | apply below_alloc | apply pw_below_drewN | apply below_drew1 | refine below_set ?_ GE101.out | refine below_set ?_ GE102.out) | exact HB.out)) hb); clear BK101; clear BK102; clear HB; have BK101 := n0_; have BK102 := n1_; have HB := n2_; clear n0_ n1_ n2_; (try clear hb); (try clear hb2); (try clear hk); (try clear hi); have hcz13_0 : w12.cell? ⟨gb102, 0, none⟩ = some (.string a1_0) := HVia.bc BK102 0 rfl; have hcz13_1 : w12.cell? ⟨gb102, 1, none⟩ = some (.string a1_1) := HVia.bc BK102 1 rfl; have hcz13_2 : w12.cell? ⟨gb102, 2, none⟩ = some (.string a1_2) := HVia.bc BK102 2 rfl; have hcz13_3 : w12.cell? ⟨gb102, 3, none⟩ = some (.string a1_3) := HVia.bc BK102 3 rfl; have hcz13_4 : w12.cell? ⟨gb102, 4, none⟩ = some (.string a1_4) := HVia.bc BK102 4 rfl; have hfz13_0 := blk_frozen BK102.out 0; have hfz13_1 := blk_frozen BK102.out 1; have hfz13_2 := blk_frozen BK102.out 2; have hfz13_3 := blk_frozen BK102.out 3; have hfz13_4 := blk_frozen BK102.out 4) | (go_at_call 6; (with_reducible refine (laws_zzFits12.calls a1_0 a1_1 a1_2 a1_3 a1_4 t104 _ A9.out).mono ?_); rintro e w14 ⟨rfl, hb⟩; have n0_ := Aside0.mk (blk_below (g := gb101) (o := .cells #[.string a0_0, .string a0_1, .string a0_2, .string a0_3, .string a0_4] 23 (0, 0)) (by (with_reducible repeat (first | refine blk_drewN ?_ _ | refine blk_drew ?_ | refine blk_alloc ?_ _)); exact BK101.out) hb); have n1_ := Aside0.mk (blk_below (g := gb102) (o := .cells #[.string a1_0, .string a1_1, .string a1_2, .string a1_3, .string a1_4] 23 (0, 0)) (by (with_reducible repeat (first | refine blk_drewN ?_ _ | refine blk_drew ?_ | refine blk_alloc ?_ _)); exact BK102.out) hb); have n2_ := Aside0.mk (below_step (by repeat (first | (with_reducible first | exact HB.out | apply below_alloc | apply pw_below_drewN | apply below_drew1 | refine below_set ?_ GE101.out | refine below_set ?_ GE102.out) | exact HB.out)) hb); clear BK101; clear BK102; clear HB; have BK101 := n0_; have BK102 := n1_; have HB := n2_; clear n0_ n1_ n2_; (try clear hb); (try clear hb2); (try clear hk); (try clear hi)))
    go_meet
    case rel => exact ⟨_, (!t104), (by first | rfl | (simp; done) | (simp [*]; done)), H', ⟨by first | omega | exact Nat.le_refl _⟩, ⟨by (with_reducible repeat (first | refine blk_drewN ?_ _ | refine blk_drew ?_ | refine blk_alloc ?_ _)); exact BK101.out⟩, ⟨by (with_reducible repeat (first | refine blk_drewN ?_ _ | refine blk_drew ?_ | refine blk_alloc ?_ _)); exact BK102.out⟩, ⟨by repeat (first | (with_reducible first | exact HB.out | apply below_alloc | apply pw_below_drewN | apply below_drew1 | refine below_set ?_ GE101.out | refine below_set ?_ GE102.out) | exact HB.out)⟩⟩
  · replace c8 := Bool.eq_false_iff.mpr c8
    subst c8
    have H1 : (laws_FnIdEqual.j0 k a2 true a0_0 a0_1 a0_2 a0_3 a0_4 a1_0 a1_1 a1_2 a1_3 a1_4) = some r := by rw [if_neg (show ¬ (false = true) by decide)] at H; exact H
    clear H
    have H := H1
    clear H1
    have H' := Aside0.mk H
    clear H
    have hnb15 := NB101_102.out
    have hnc15 := NB102_101.out
    have hcz16_0 : w6.cell? ⟨gb101, 0, none⟩ = some (.string a0_0) := HVia.bc BK101 0 rfl
    have hcz16_1 : w6.cell? ⟨gb101, 1, none⟩ = some (.string a0_1) := HVia.bc BK101 1 rfl
    have hcz16_2 : w6.cell? ⟨gb101, 2, none⟩ = some (.string a0_2) := HVia.bc BK101 2 rfl
    have hcz16_3 : w6.cell? ⟨gb101, 3, none⟩ = some (.string a0_3) := HVia.bc BK101 3 rfl
    have hcz16_4 : w6.cell? ⟨gb101, 4, none⟩ = some (.string a0_4) := HVia.bc BK101 4 rfl
    have hfz16_0 := blk_frozen BK101.out 0
    have hfz16_1 := blk_frozen BK101.out 1
    have hfz16_2 := blk_frozen BK101.out 2
    have hfz16_3 := blk_frozen BK101.out 3
    have hfz16_4 := blk_frozen BK101.out 4
    go_wp2_with (first | ((with_reducible refine gate_callee (f := 6) rfl ?_); refine goesL_ (some 17) rfl rfl Try.func6 (by kernel_rfl) rfl #[.agg #[.string a0_0, .string a0_1, .string a0_2, .string a0_3, .string a0_4]] rfl (by (try simp only [List.map_toArray, List.map_cons, List.map_nil]); first | done | rfl | (simp only [List.length_drop, List.length_take]; rfl)) ?_; (with_reducible refine (laws_zzFits12.calls a0_0 a0_1 a0_2 a0_3 a0_4 false _ A7.out).mono ?_); rintro e w17 ⟨rfl, hb⟩; refine ⟨_, rfl, ?_⟩; have n0_ := Aside0.mk (blk_below (g := gb101) (o := .cells #[.string a0_0, .string a0_1, .string a0_2, .string a0_3, .string a0_4] 23 (0, 0)) (by (with_reducible repeat (first | refine blk_drewN ?_ _ | refine blk_drew ?_ | refine blk_alloc ?_ _)); exact BK101.out) hb); have n1_ := Aside0.mk (blk_below (g := gb102) (o := .cells #[.string a1_0, .string a1_1, .string a1_2, .string a1_3, .string a1_4] 23 (0, 0)) (by (with_reducible repeat (first | refine blk_drewN ?_ _ | refine blk_drew ?_ | refine blk_alloc ?_ _)); exact BK102.out) hb); have n2_ := Aside0.mk (below_step (by repeat (first | (with_reducible first | exact HB.out | apply below_alloc | apply pw_below_drewN | apply below_drew1 | refine below_set ?_ GE101.out | refine below_set ?_ GE102.out) | exact HB.out)) hb); clear BK101; clear BK102; clear HB; have BK101 := n0_; have BK102 := n1_; have HB := n2_; clear n0_ n1_ n2_; (try clear hb); (try clear hb2); (try clear hk); (try clear hi)))
    go_meet
    case rel => exact ⟨_, (true), (by first | rfl | (simp; done) | (simp [*]; done)), H', ⟨by first | omega | exact Nat.le_refl _⟩, ⟨by (with_reducible repeat (first | refine blk_drewN ?_ _ | refine blk_drew ?_ | refine blk_alloc ?_ _)); exact BK101.out⟩, ⟨by (with_reducible repeat (first | refine blk_drewN ?_ _ | refine blk_drew ?_ | refine blk_alloc ?_ _)); exact BK102.out⟩, ⟨by repeat (first | (with_reducible first | exact HB.out | apply below_alloc | apply pw_below_drewN | apply below_drew1 | refine below_set ?_ GE101.out | refine below_set ?_ GE102.out) | exact HB.out)⟩⟩
 clear HC4
 try clear c1
 try clear p2
 try clear c3
 try clear c6
 try clear c8
 try clear c10
 try clear c15
 try clear hcz11_0
 try clear hcz11_1
 try clear hcz11_2
 try clear hcz11_3
 try clear hcz11_4
 try clear hcz13_0
 try clear hcz13_1
 try clear hcz13_2
 try clear hcz13_3
 try clear hcz13_4
 try clear hcz16_0
 try clear hcz16_1
 try clear hcz16_2
 try clear hcz16_3
 try clear hcz16_4
 try clear hfz11_0
 try clear hfz11_1
 try clear hfz11_2
 try clear hfz11_3
 try clear hfz11_4
 try clear hfz13_0
 try clear hfz13_1
 try clear hfz13_2
 try clear hfz13_3
 try clear hfz13_4
 try clear hfz16_0
 try clear hfz16_1
 try clear hfz16_2
 try clear hfz16_3
 try clear hfz16_4
 obtain ⟨kq, x23_3, rfl, HA, HJ3, BK101, BK102, HB⟩ := hcut
 cases kq with
 | zero => exact absurd HA.out (by simp [laws_FnIdEqual.j0])
 | succ kj3 =>
  have H := HA.out
  clear HA
  simp only [laws_FnIdEqual.j0] at H
  by_cases c18 : x23_3 = true
  · subst c18
    have H1 : (some true) = some r := by rw [if_pos rfl] at H; exact H
    clear H
    have H := H1
    clear H1
    obtain rfl := Option.some.inj H
    go_wp2
    go_ret
    exact ⟨by first | rfl | (simp [errW_none, errW_some] <;> rfl) | (simp [*, errW_none, errW_some] <;> rfl), by repeat (first | (with_reducible first | exact HB.out | apply below_alloc | apply pw_below_drewN | apply below_drew1 | refine below_set ?_ GE101.out | refine below_set ?_ GE102.out) | exact HB.out)⟩
  · replace c18 := Bool.eq_false_iff.mpr c18
    subst c18
    have H1 : ((laws_kyId.f kj3 a0_0 a0_1 a0_2 a0_3 a0_4).bind fun bt105 => ((laws_kyId.f kj3 a1_0 a1_1 a1_2 a1_3 a1_4).bind fun bt110 => (if bt105.2.2.1.toList = ([] : List UInt8) then (laws_FnIdEqual.j1 kj3 a2 bt105.1 bt105.2.1 (⟨#[90, 122]⟩ : ByteArray) bt105.2.2.2.1 bt105.2.2.2.2 bt110.1 bt110.2.1 bt110.2.2.1 bt110.2.2.2.1 bt110.2.2.2.2) else (laws_FnIdEqual.j1 kj3 a2 bt105.1 bt105.2.1 bt105.2.2.1 bt105.2.2.2.1 bt105.2.2.2.2 bt110.1 bt110.2.1 bt110.2.2.1 bt110.2.2.2.1 bt110.2.2.2.2)))) = some r := by rw [if_neg (show ¬ (false = true) by decide)] at H; exact H
    clear H
    have H := H1
    clear H1
    replace H := Option.bind_eq_some_iff.mp H
    obtain ⟨⟨t105, t106, t107, t108, t109⟩, A190, H⟩ := H
    replace H : ((laws_kyId.f kj3 a1_0 a1_1 a1_2 a1_3 a1_4).bind fun bt110 => (if t107.toList = ([] : List UInt8) then (laws_FnIdEqual.j1 kj3 a2 t105 t106 (⟨#[90, 122]⟩ : ByteArray) t108 t109 bt110.1 bt110.2.1 bt110.2.2.1 bt110.2.2.2.1 bt110.2.2.2.2) else (laws_FnIdEqual.j1 kj3 a2 t105 t106 t107 t108 t109 bt110.1 bt110.2.1 bt110.2.2.1 bt110.2.2.2.1 bt110.2.2.2.2))) = some r := H
    have A19 := Aside0.mk A190
    clear A190
    replace H := Option.bind_eq_some_iff.mp H
    obtain ⟨⟨t110, t111, t112, t113, t114⟩, A200, H⟩ := H
    replace H : (if t107.toList = ([] : List UInt8) then (laws_FnIdEqual.j1 kj3 a2 t105 t106 (⟨#[90, 122]⟩ : ByteArray) t108 t109 t110 t111 t112 t113 t114) else (laws_FnIdEqual.j1 kj3 a2 t105 t106 t107 t108 t109 t110 t111 t112 t113 t114)) = some r := H
    have A20 := Aside0.mk A200
    clear A200
    have HC21 := Aside0.mk H
    clear H
    try go_wp2
    have n0_ := Aside0.mk (blk_drew BK101.out)
    have n1_ := Aside0.mk (blk_drew BK102.out)
    have n2_ := Aside0.mk (below_drew1 HB.out)
    clear BK101
    clear BK102
    clear HB
    have BK101 := n0_
    have BK102 := n1_
    have HB := n2_
    clear n0_ n1_ n2_
    refine start_ (n := 6) (S := fun w' => w'.cell? ⟨gb101, 0, none⟩ = some (.string a0_0) ∧ w'.cell? ⟨gb101, 1, none⟩ = some (.string a0_1) ∧ w'.cell? ⟨gb101, 2, none⟩ = some (.string a0_2) ∧ w'.cell? ⟨gb101, 3, none⟩ = some (.string a0_3) ∧ w'.cell? ⟨gb101, 4, none⟩ = some (.string a0_4) ∧ w'.cell? ⟨gb102, 0, none⟩ = some (.string a1_0) ∧ w'.cell? ⟨gb102, 1, none⟩ = some (.string a1_1) ∧ w'.cell? ⟨gb102, 2, none⟩ = some (.string a1_2) ∧ w'.cell? ⟨gb102, 3, none⟩ = some (.string a1_3) ∧ w'.cell? ⟨gb102, 4, none⟩ = some (.string a1_4)) (ds := [4, 5]) b1_ (by kernel_rfl) rfl rfl ⟨HVia.bc BK101 0 rfl, HVia.bc BK101 1 rfl, HVia.bc BK101 2 rfl, HVia.bc BK101 3 rfl, HVia.bc BK101 4 rfl, HVia.bc BK102 0 rfl, HVia.bc BK102 1 rfl, HVia.bc BK102 2 rfl, HVia.bc BK102 3 rfl, HVia.bc BK102 4 rfl⟩ (fun hHeld => ?_)
    generalize wc.drew = w22 at BK101 BK102 HB hHeld ⊢
    refine take_ (i := 0) (N := some 24) (v := ?_) (a' := ?_) b2_ rfl rfl (by kernel_rfl) (fun _ _ _ h => h) (Or.inl ⟨by rfl, ?_⟩) hHeld ?_ ?_
    rotate_left
    · rintro w' ⟨s0, s1, s2, s3, s4, s5, s6, s7, s8, s9⟩
      go_simp
      with_reducible rfl
    rotate_left
    · simp only [Act.put, List.setIfInBounds_toArray, List.set_cons_zero, List.set_cons_succ, i64_w, i32_w]
      rfl
    refine take_ (i := 2) (N := some 26) (v := ?_) (a' := ?_) b3_ rfl rfl (by kernel_rfl) (fun _ _ _ h => h) (Or.inl ⟨by rfl, ?_⟩) hHeld ?_ ?_
    rotate_left
    · rintro w' ⟨s0, s1, s2, s3, s4, s5, s6, s7, s8, s9⟩
      go_simp
      with_reducible rfl
    rotate_left
    · simp only [Act.put, List.setIfInBounds_toArray, List.set_cons_zero, List.set_cons_succ, i64_w, i32_w]
      rfl
    refine one_ (i := 1) (N := some 25) b4_ rfl rfl (by kernel_rfl) (by decide) (fun K hK => ?_)
    refine goes_ Try.func7 (by kernel_rfl) rfl #[.agg #[.string a0_0, .string a0_1, .string a0_2, .string a0_3, .string a0_4]] (by rfl) rfl rfl (by (try simp only [List.map_toArray, List.map_cons, List.map_nil]); first | done | rfl | (simp only [List.length_drop, List.length_take]; rfl)) ?_
    with_reducible refine (laws_kyId.calls kj3 a0_0 a0_1 a0_2 a0_3 a0_4 t105 t106 t107 t108 t109 _ A19.out).mono ?_
    rintro e w23 ⟨rfl, hb⟩
    refine ⟨_, rfl, ?_⟩
    have n0_ := Aside0.mk (blk_below (g := gb101) (o := .cells #[.string a0_0, .string a0_1, .string a0_2, .string a0_3, .string a0_4] 23 (0, 0)) (by (with_reducible repeat (first | refine blk_drewN ?_ _ | refine blk_drew ?_ | refine blk_alloc ?_ _)); exact BK101.out) hb)
    have n1_ := Aside0.mk (blk_below (g := gb102) (o := .cells #[.string a1_0, .string a1_1, .string a1_2, .string a1_3, .string a1_4] 23 (0, 0)) (by (with_reducible repeat (first | refine blk_drewN ?_ _ | refine blk_drew ?_ | refine blk_alloc ?_ _)); exact BK102.out) hb)
    have n2_ := Aside0.mk (below_step (by repeat (first | (with_reducible first | exact HB.out | apply below_alloc | apply pw_below_drewN | apply below_drew1 | refine below_set ?_ GE101.out | refine below_set ?_ GE102.out) | exact HB.out)) hb)
    clear BK101
    clear BK102
    clear HB
    have BK101 := n0_
    have BK102 := n1_
    have HB := n2_
    clear n0_ n1_ n2_
    (try clear hb)
    (try clear hb2)
    (try clear hk)
    (try clear hi)
    refine hK.out _ _ ⟨HVia.bc BK101 0 rfl, HVia.bc BK101 1 rfl, HVia.bc BK101 2 rfl, HVia.bc BK101 3 rfl, HVia.bc BK101 4 rfl, HVia.bc BK102 0 rfl, HVia.bc BK102 1 rfl, HVia.bc BK102 2 rfl, HVia.bc BK102 3 rfl, HVia.bc BK102 4 rfl⟩ (fun hHeld => ?_)
    clear hK K
    refine norm_ (a' := ?_) ?_ ?_
    rotate_left
    · show Act.put _ (some 25) _ = _
      simp only [Act.put, List.setIfInBounds_toArray, List.set_cons_zero, List.set_cons_succ, i64_w, i32_w]
      rfl
    refine one_ (i := 3) (N := some 27) b5_ rfl rfl (by kernel_rfl) (by decide) (fun K hK => ?_)
    refine goes_ Try.func7 (by kernel_rfl) rfl #[.agg #[.string a1_0, .string a1_1, .string a1_2, .string a1_3, .string a1_4]] (by rfl) rfl rfl (by (try simp only [List.map_toArray, List.map_cons, List.map_nil]); first | done | rfl | (simp only [List.length_drop, List.length_take]; rfl)) ?_
    with_reducible refine (laws_kyId.calls kj3 a1_0 a1_1 a1_2 a1_3 a1_4 t110 t111 t112 t113 t114 _ A20.out).mono ?_
    rintro e w24 ⟨rfl, hb⟩
    refine ⟨_, rfl, ?_⟩
    have n0_ := Aside0.mk (blk_below (g := gb101) (o := .cells #[.string a0_0, .string a0_1, .string a0_2, .string a0_3, .string a0_4] 23 (0, 0)) (by (with_reducible repeat (first | refine blk_drewN ?_ _ | refine blk_drew ?_ | refine blk_alloc ?_ _)); exact BK101.out) hb)
    have n1_ := Aside0.mk (blk_below (g := gb102) (o := .cells #[.string a1_0, .string a1_1, .string a1_2, .string a1_3, .string a1_4] 23 (0, 0)) (by (with_reducible repeat (first | refine blk_drewN ?_ _ | refine blk_drew ?_ | refine blk_alloc ?_ _)); exact BK102.out) hb)
    have n2_ := Aside0.mk (below_step (by repeat (first | (with_reducible first | exact HB.out | apply below_alloc | apply pw_below_drewN | apply below_drew1 | refine below_set ?_ GE101.out | refine below_set ?_ GE102.out) | exact HB.out)) hb)
    clear BK101
    clear BK102
    clear HB
    have BK101 := n0_
    have BK102 := n1_
    have HB := n2_
    clear n0_ n1_ n2_
    (try clear hb)
    (try clear hb2)
    (try clear hk)
    (try clear hi)
    refine hK.out _ _ ⟨HVia.bc BK101 0 rfl, HVia.bc BK101 1 rfl, HVia.bc BK101 2 rfl, HVia.bc BK101 3 rfl, HVia.bc BK101 4 rfl, HVia.bc BK102 0 rfl, HVia.bc BK102 1 rfl, HVia.bc BK102 2 rfl, HVia.bc BK102 3 rfl, HVia.bc BK102 4 rfl⟩ (fun hHeld => ?_)
    clear hK K
    refine norm_ (a' := ?_) ?_ ?_
    rotate_left
    · show Act.put _ (some 27) _ = _
      simp only [Act.put, List.setIfInBounds_toArray, List.set_cons_zero, List.set_cons_succ, i64_w, i32_w]
      rfl
    refine last_ (i := 4) (N := none) b6_ rfl rfl (by kernel_rfl) (by decide) (fun K hK => ?_)
    have hs25 : w24.cell? ⟨gb101, 0, none⟩ = some (.string a0_0) := HVia.bc BK101 0 rfl
    have hfs25 := blk_frozen BK101.out 0
    have hns25_1 := NB102_101.out
    have hms25_1 := NB101_102.out
    have hs26 : w24.cell? ⟨gb101, 1, none⟩ = some (.string a0_1) := HVia.bc BK101 1 rfl
    have hfs26 := blk_frozen BK101.out 1
    have hns26_1 := NB102_101.out
    have hms26_1 := NB101_102.out
    have hs27 : w24.cell? ⟨gb101, 2, none⟩ = some (.string a0_2) := HVia.bc BK101 2 rfl
    have hfs27 := blk_frozen BK101.out 2
    have hns27_1 := NB102_101.out
    have hms27_1 := NB101_102.out
    have hs28 : w24.cell? ⟨gb101, 3, none⟩ = some (.string a0_3) := HVia.bc BK101 3 rfl
    have hfs28 := blk_frozen BK101.out 3
    have hns28_1 := NB102_101.out
    have hms28_1 := NB101_102.out
    have hs29 : w24.cell? ⟨gb101, 4, none⟩ = some (.string a0_4) := HVia.bc BK101 4 rfl
    have hfs29 := blk_frozen BK101.out 4
    have hns29_1 := NB102_101.out
    have hms29_1 := NB101_102.out
    refine skip_ (w1 := ?_) (by rfl) rfl ?_ ?_
    rotate_left
    · go_simp
      rfl
    refine hK.out _ _ ?_
    clear hK K
    refine last_ (i := 5) (N := none) b7_ rfl rfl (by kernel_rfl) (by decide) (fun K hK => ?_)
    have hs30 : w24.cell? ⟨gb102, 0, none⟩ = some (.string a1_0) := HVia.bc BK102 0 rfl
    have hfs30 := blk_frozen BK102.out 0
    have hns30_0 := NB101_102.out
    have hms30_0 := NB102_101.out
    have hs31 : w24.cell? ⟨gb102, 1, none⟩ = some (.string a1_1) := HVia.bc BK102 1 rfl
    have hfs31 := blk_frozen BK102.out 1
    have hns31_0 := NB101_102.out
    have hms31_0 := NB102_101.out
    have hs32 : w24.cell? ⟨gb102, 2, none⟩ = some (.string a1_2) := HVia.bc BK102 2 rfl
    have hfs32 := blk_frozen BK102.out 2
    have hns32_0 := NB101_102.out
    have hms32_0 := NB102_101.out
    have hs33 : w24.cell? ⟨gb102, 3, none⟩ = some (.string a1_3) := HVia.bc BK102 3 rfl
    have hfs33 := blk_frozen BK102.out 3
    have hns33_0 := NB101_102.out
    have hms33_0 := NB102_101.out
    have hs34 : w24.cell? ⟨gb102, 4, none⟩ = some (.string a1_4) := HVia.bc BK102 4 rfl
    have hfs34 := blk_frozen BK102.out 4
    have hns34_0 := NB101_102.out
    have hms34_0 := NB102_101.out
    refine skip_ (w1 := ?_) (by rfl) rfl ?_ ?_
    rotate_left
    · go_simp
      rfl
    refine hK.out _ _ ?_
    clear hK K
    refine done_ (by kernel_rfl) ?_
    have hnb35 := NB101_102.out
    have hnc35 := NB102_101.out
    have hcz36_0 : w24.cell? ⟨gb101, 0, none⟩ = some (.string a0_0) := HVia.bc BK101 0 rfl
    have hcz36_1 : w24.cell? ⟨gb101, 1, none⟩ = some (.string a0_1) := HVia.bc BK101 1 rfl
    have hcz36_2 : w24.cell? ⟨gb101, 2, none⟩ = some (.string a0_2) := HVia.bc BK101 2 rfl
    have hcz36_3 : w24.cell? ⟨gb101, 3, none⟩ = some (.string a0_3) := HVia.bc BK101 3 rfl
    have hcz36_4 : w24.cell? ⟨gb101, 4, none⟩ = some (.string a0_4) := HVia.bc BK101 4 rfl
    have hfz36_0 := blk_frozen BK101.out 0
    have hfz36_1 := blk_frozen BK101.out 1
    have hfz36_2 := blk_frozen BK101.out 2
    have hfz36_3 := blk_frozen BK101.out 3
    have hfz36_4 := blk_frozen BK101.out 4
    go_upto_if 30 with (fail)
    go_cut [] (fun wc => ∃ (kq : Nat) (x102002_20 : ByteArray), Aside0 (laws_FnIdEqual.j1 kq a2 t105 t106 x102002_20 t108 t109 t110 t111 t112 t113 t114 = some r) ∧ Aside0 (kq ≤ kj3) ∧ Aside0 (wc.heap[gb101]? = some (.cells #[.string t105, .string t106, .string x102002_20, .string t108, .string t109] 23 (0, 0))) ∧ Aside0 (wc.heap[gb102]? = some (.cells #[.string t110, .string t111, .string t112, .string t113, .string t114] 23 (0, 0))) ∧ Aside0 (Below w.heap.size w wc))
    case first =>
     have H := HC21.out
     clear HC21
     by_cases c37 : t107.toList = ([] : List UInt8)
     · rw [if_pos c37] at H
       have c37b0 : (t107.toList == ([] : List UInt8)) = true := beq_iff_eq.mpr c37
       have c37b1 : (t107.toList != ([] : List UInt8)) = false := bne_eq_false_iff_eq.mpr c37
       clear c37
       (first | rw [c37b0] | (simp only [i64_w, i32_w]; rw [c37b0]) | (rw [HVia.isE c37b0]; (try simp only [Bool.not_true, Bool.not_false])) | skip)
       have H' := Aside0.mk H
       clear H
       have hnb38 := NB101_102.out
       have hnc38 := NB102_101.out
       have hcz39_0 : w24.cell? ⟨gb101, 0, none⟩ = some (.string a0_0) := HVia.bc BK101 0 rfl
       have hcz39_1 : w24.cell? ⟨gb101, 1, none⟩ = some (.string a0_1) := HVia.bc BK101 1 rfl
       have hcz39_2 : w24.cell? ⟨gb101, 2, none⟩ = some (.string a0_2) := HVia.bc BK101 2 rfl
       have hcz39_3 : w24.cell? ⟨gb101, 3, none⟩ = some (.string a0_3) := HVia.bc BK101 3 rfl
       have hcz39_4 : w24.cell? ⟨gb101, 4, none⟩ = some (.string a0_4) := HVia.bc BK101 4 rfl
       have hfz39_0 := blk_frozen BK101.out 0
       have hfz39_1 := blk_frozen BK101.out 1
       have hfz39_2 := blk_frozen BK101.out 2
       have hfz39_3 := blk_frozen BK101.out 3
       have hfz39_4 := blk_frozen BK101.out 4
       go_wp2
       go_meet
       case rel => exact ⟨_, ((⟨#[90, 122]⟩ : ByteArray)), H', ⟨by have := HJ3.out; first | omega | exact Nat.le_refl _⟩, ⟨by (with_reducible repeat (first | refine blk_drewN ?_ _ | refine blk_drew ?_ | refine blk_alloc ?_ _)); refine blk_put (cs := #[.string t105, .string t106, .string t107, .string t108, .string t109]) ?_ 2 _ rfl; (with_reducible repeat (first | refine blk_drewN ?_ _ | refine blk_drew ?_ | refine blk_alloc ?_ _)); refine blk_far ?_ NB101_102.out _; (with_reducible repeat (first | refine blk_drewN ?_ _ | refine blk_drew ?_ | refine blk_alloc ?_ _)); refine blk_far ?_ NB101_102.out _; (with_reducible repeat (first | refine blk_drewN ?_ _ | refine blk_drew ?_ | refine blk_alloc ?_ _)); refine blk_far ?_ NB101_102.out _; (with_reducible repeat (first | refine blk_drewN ?_ _ | refine blk_drew ?_ | refine blk_alloc ?_ _)); refine blk_far ?_ NB101_102.out _; (with_reducible repeat (first | refine blk_drewN ?_ _ | refine blk_drew ?_ | refine blk_alloc ?_ _)); refine blk_far ?_ NB101_102.out _; (with_reducible repeat (first | refine blk_drewN ?_ _ | refine blk_drew ?_ | refine blk_alloc ?_ _)); refine blk_put (cs := #[.string t105, .string t106, .string t107, .string t108, .string a0_4]) ?_ 4 _ rfl; (with_reducible repeat (first | refine blk_drewN ?_ _ | refine blk_drew ?_ | refine blk_alloc ?_ _)); refine blk_put (cs := #[.string t105, .string t106, .string t107, .string a0_3, .string a0_4]) ?_ 3 _ rfl; (with_reducible repeat (first | refine blk_drewN ?_ _ | refine blk_drew ?_ | refine blk_alloc ?_ _)); refine blk_put (cs := #[.string t105, .string t106, .string a0_2, .string a0_3, .string a0_4]) ?_ 2 _ rfl; (with_reducible repeat (first | refine blk_drewN ?_ _ | refine blk_drew ?_ | refine blk_alloc ?_ _)); refine blk_put (cs := #[.string t105, .string a0_1, .string a0_2, .string a0_3, .string a0_4]) ?_ 1 _ rfl; (with_reducible repeat (first | refine blk_drewN ?_ _ | refine blk_drew ?_ | refine blk_alloc ?_ _)); refine blk_put (cs := #[.string a0_0, .string a0_1, .string a0_2, .string a0_3, .string a0_4]) ?_ 0 _ rfl; (with_reducible repeat (first | refine blk_drewN ?_ _ | refine blk_drew ?_ | refine blk_alloc ?_ _)); exact BK101.out⟩, ⟨by (with_reducible repeat (first | refine blk_drewN ?_ _ | refine blk_drew ?_ | refine blk_alloc ?_ _)); refine blk_far ?_ NB102_101.out _; (with_reducible repeat (first | refine blk_drewN ?_ _ | refine blk_drew ?_ | refine blk_alloc ?_ _)); refine blk_put (cs := #[.string t110, .string t111, .string t112, .string t113, .string a1_4]) ?_ 4 _ rfl; (with_reducible repeat (first | refine blk_drewN ?_ _ | refine blk_drew ?_ | refine blk_alloc ?_ _)); refine blk_put (cs := #[.string t110, .string t111, .string t112, .string a1_3, .string a1_4]) ?_ 3 _ rfl; (with_reducible repeat (first | refine blk_drewN ?_ _ | refine blk_drew ?_ | refine blk_alloc ?_ _)); refine blk_put (cs := #[.string t110, .string t111, .string a1_2, .string a1_3, .string a1_4]) ?_ 2 _ rfl; (with_reducible repeat (first | refine blk_drewN ?_ _ | refine blk_drew ?_ | refine blk_alloc ?_ _)); refine blk_put (cs := #[.string t110, .string a1_1, .string a1_2, .string a1_3, .string a1_4]) ?_ 1 _ rfl; (with_reducible repeat (first | refine blk_drewN ?_ _ | refine blk_drew ?_ | refine blk_alloc ?_ _)); refine blk_put (cs := #[.string a1_0, .string a1_1, .string a1_2, .string a1_3, .string a1_4]) ?_ 0 _ rfl; (with_reducible repeat (first | refine blk_drewN ?_ _ | refine blk_drew ?_ | refine blk_alloc ?_ _)); refine blk_far ?_ NB102_101.out _; (with_reducible repeat (first | refine blk_drewN ?_ _ | refine blk_drew ?_ | refine blk_alloc ?_ _)); refine blk_far ?_ NB102_101.out _; (with_reducible repeat (first | refine blk_drewN ?_ _ | refine blk_drew ?_ | refine blk_alloc ?_ _)); refine blk_far ?_ NB102_101.out _; (with_reducible repeat (first | refine blk_drewN ?_ _ | refine blk_drew ?_ | refine blk_alloc ?_ _)); refine blk_far ?_ NB102_101.out _; (with_reducible repeat (first | refine blk_drewN ?_ _ | refine blk_drew ?_ | refine blk_alloc ?_ _)); refine blk_far ?_ NB102_101.out _; (with_reducible repeat (first | refine blk_drewN ?_ _ | refine blk_drew ?_ | refine blk_alloc ?_ _)); exact BK102.out⟩, ⟨by repeat (first | (with_reducible first | exact HB.out | apply below_alloc | apply pw_below_drewN | apply below_drew1 | refine below_set ?_ GE101.out | refine below_set ?_ GE102.out) | exact HB.out)⟩⟩
     · rw [if_neg c37] at H
       have c37b0 : (t107.toList == ([] : List UInt8)) = false := beq_eq_false_iff_ne.mpr c37
       have c37b1 : (t107.toList != ([] : List UInt8)) = true := bne_iff_ne.mpr c37
       (first | rw [c37b0] | (simp only [i64_w, i32_w]; rw [c37b0]) | (rw [HVia.isE c37b0]; (try simp only [Bool.not_true, Bool.not_false])) | skip)
       have H' := Aside0.mk H
       clear H
       go_wp2
       go_meet
       case rel => exact ⟨_, (t107), H', ⟨by have := HJ3.out; first | omega | exact Nat.le_refl _⟩, ⟨by (with_reducible repeat (first | refine blk_drewN ?_ _ | refine blk_drew ?_ | refine blk_alloc ?_ _)); refine blk_far ?_ NB101_102.out _; (with_reducible repeat (first | refine blk_drewN ?_ _ | refine blk_drew ?_ | refine blk_alloc ?_ _)); refine blk_far ?_ NB101_102.out _; (with_reducible repeat (first | refine blk_drewN ?_ _ | refine blk_drew ?_ | refine blk_alloc ?_ _)); refine blk_far ?_ NB101_102.out _; (with_reducible repeat (first | refine blk_drewN ?_ _ | refine blk_drew ?_ | refine blk_alloc ?_ _)); refine blk_far ?_ NB101_102.out _; (with_reducible repeat (first | refine blk_drewN ?_ _ | refine blk_drew ?_ | refine blk_alloc ?_ _)); refine blk_far ?_ NB101_102.out _; (with_reducible repeat (first | refine blk_drewN ?_ _ | refine blk_drew ?_ | refine blk_alloc ?_ _)); refine blk_put (cs := #[.string t105, .string t106, .string t107, .string t108, .string a0_4]) ?_ 4 _ rfl; (with_reducible repeat (first | refine blk_drewN ?_ _ | refine blk_drew ?_ | refine blk_alloc ?_ _)); refine blk_put (cs := #[.string t105, .string t106, .string t107, .string a0_3, .string a0_4]) ?_ 3 _ rfl; (with_reducible repeat (first | refine blk_drewN ?_ _ | refine blk_drew ?_ | refine blk_alloc ?_ _)); refine blk_put (cs := #[.string t105, .string t106, .string a0_2, .string a0_3, .string a0_4]) ?_ 2 _ rfl; (with_reducible repeat (first | refine blk_drewN ?_ _ | refine blk_drew ?_ | refine blk_alloc ?_ _)); refine blk_put (cs := #[.string t105, .string a0_1, .string a0_2, .string a0_3, .string a0_4]) ?_ 1 _ rfl; (with_reducible repeat (first | refine blk_drewN ?_ _ | refine blk_drew ?_ | refine blk_alloc ?_ _)); refine blk_put (cs := #[.string a0_0, .string a0_1, .string a0_2, .string a0_3, .string a0_4]) ?_ 0 _ rfl; (with_reducible repeat (first | refine blk_drewN ?_ _ | refine blk_drew ?_ | refine blk_alloc ?_ _)); exact BK101.out⟩, ⟨by (with_reducible repeat (first | refine blk_drewN ?_ _ | refine blk_drew ?_ | refine blk_alloc ?_ _)); refine blk_put (cs := #[.string t110, .string t111, .string t112, .string t113, .string a1_4]) ?_ 4 _ rfl; (with_reducible repeat (first | refine blk_drewN ?_ _ | refine blk_drew ?_ | refine blk_alloc ?_ _)); refine blk_put (cs := #[.string t110, .string t111, .string t112, .string a1_3, .string a1_4]) ?_ 3 _ rfl; (with_reducible repeat (first | refine blk_drewN ?_ _ | refine blk_drew ?_ | refine blk_alloc ?_ _)); refine blk_put (cs := #[.string t110, .string t111, .string a1_2, .string a1_3, .string a1_4]) ?_ 2 _ rfl; (with_reducible repeat (first | refine blk_drewN ?_ _ | refine blk_drew ?_ | refine blk_alloc ?_ _)); refine blk_put (cs := #[.string t110, .string a1_1, .string a1_2, .string a1_3, .string a1_4]) ?_ 1 _ rfl; (with_reducible repeat (first | refine blk_drewN ?_ _ | refine blk_drew ?_ | refine blk_alloc ?_ _)); refine blk_put (cs := #[.string a1_0, .string a1_1, .string a1_2, .string a1_3, .string a1_4]) ?_ 0 _ rfl; (with_reducible repeat (first | refine blk_drewN ?_ _ | refine blk_drew ?_ | refine blk_alloc ?_ _)); refine blk_far ?_ NB102_101.out _; (with_reducible repeat (first | refine blk_drewN ?_ _ | refine blk_drew ?_ | refine blk_alloc ?_ _)); refine blk_far ?_ NB102_101.out _; (with_reducible repeat (first | refine blk_drewN ?_ _ | refine blk_drew ?_ | refine blk_alloc ?_ _)); refine blk_far ?_ NB102_101.out _; (with_reducible repeat (first | refine blk_drewN ?_ _ | refine blk_drew ?_ | refine blk_alloc ?_ _)); refine blk_far ?_ NB102_101.out _; (with_reducible repeat (first | refine blk_drewN ?_ _ | refine blk_drew ?_ | refine blk_alloc ?_ _)); refine blk_far ?_ NB102_101.out _; (with_reducible repeat (first | refine blk_drewN ?_ _ | refine blk_drew ?_ | refine blk_alloc ?_ _)); exact BK102.out⟩, ⟨by repeat (first | (with_reducible first | exact HB.out | apply below_alloc | apply pw_below_drewN | apply below_drew1 | refine below_set ?_ GE101.out | refine below_set ?_ GE102.out) | exact HB.out)⟩⟩
    clear HC21
    try clear c1
    try clear p2
    try clear c3
    try clear c6
    try clear c7
    try clear c8
    try clear c10
    try clear c15
    try clear c18
    try clear c35
    try clear c37
    try clear c37b0
    try clear c37b1
    try clear c38
    try clear hcz11_0
    try clear hcz11_1
    try clear hcz11_2
    try clear hcz11_3
    try clear hcz11_4
    try clear hcz13_0
    try clear hcz13_1
    try clear hcz13_2
    try clear hcz13_3
    try clear hcz13_4
    try clear hcz16_0
    try clear hcz16_1
    try clear hcz16_2
    try clear hcz16_3
    try clear hcz16_4
    try clear hcz36_0
    try clear hcz36_1
    try clear hcz36_2
    try clear hcz36_3
    try clear hcz36_4
    try clear hcz39_0
    try clear hcz39_1
    try clear hcz39_2
    try clear hcz39_3
    try clear hcz39_4
    try clear hfz11_0
    try clear hfz11_1
    try clear hfz11_2
    try clear hfz11_3
    try clear hfz11_4
    try clear hfz13_0
    try clear hfz13_1
    try clear hfz13_2
    try clear hfz13_3
    try clear hfz13_4
    try clear hfz16_0
    try clear hfz16_1
    try clear hfz16_2
    try clear hfz16_3
    try clear hfz16_4
    try clear hfz36_0
    try clear hfz36_1
    try clear hfz36_2
    try clear hfz36_3
    try clear hfz36_4
    try clear hfz39_0
    try clear hfz39_1
    try clear hfz39_2
    try clear hfz39_3
    try clear hfz39_4
    try clear p2
    obtain ⟨kq, x102002_20, HA, HJ20, BK101, BK102, HB⟩ := hcut
    cases kq with
    | zero => exact absurd HA.out (by simp [laws_FnIdEqual.j1])
    | succ kj20 =>
     have H := HA.out
     clear HA
     simp only [laws_FnIdEqual.j1] at H
     have HC40 := Aside0.mk H
     clear H
     go_upto_block 0 with (fail)
     go_cut [] (fun wc => ∃ (kq : Nat) (x102004_39 : ByteArray) (x103000_39 : ByteArray) (x103001_39 : ByteArray) (x103002_39 : ByteArray) (x103003_39 : ByteArray) (x103004_39 : ByteArray), Aside0 (laws_FnIdEqual.j2 kq t105 t106 x102002_20 t108 x102004_39 x103000_39 x103001_39 x103002_39 x103003_39 x103004_39 = some r) ∧ Aside0 (kq ≤ kj20) ∧ Aside0 (wc.heap[gb101]? = some (.cells #[.string t105, .string t106, .string x102002_20, .string t108, .string x102004_39] 23 (0, 0))) ∧ Aside0 (wc.heap[gb102]? = some (.cells #[.string x103000_39, .string x103001_39, .string x103002_39, .string x103003_39, .string x103004_39] 23 (0, 0))) ∧ Aside0 (Below w.heap.size w wc))
     case first =>
      have H := HC40.out
      clear HC40
      by_cases c41 : (Int.tmod a2 8) = 0
      · rw [if_pos c41] at H
        have c41b0 : ((Int.tmod a2 8) == 0) = true := beq_iff_eq.mpr c41
        have c41b1 : ((Int.tmod a2 8) != 0) = false := bne_eq_false_iff_eq.mpr c41
        clear c41
        (first | rw [c41b0] | (simp only [i64_w, i32_w]; rw [c41b0]) | skip)
        have H' := Aside0.mk H
        clear H
        have hnb42 := NB101_102.out
        have hnc42 := NB102_101.out
        have hcz43_0 : wc.cell? ⟨gb101, 0, none⟩ = some (.string t105) := HVia.bc BK101 0 rfl
        have hcz43_1 : wc.cell? ⟨gb101, 1, none⟩ = some (.string t106) := HVia.bc BK101 1 rfl
        have hcz43_2 : wc.cell? ⟨gb101, 2, none⟩ = some (.string x102002_20) := HVia.bc BK101 2 rfl
        have hcz43_3 : wc.cell? ⟨gb101, 3, none⟩ = some (.string t108) := HVia.bc BK101 3 rfl
        have hcz43_4 : wc.cell? ⟨gb101, 4, none⟩ = some (.string t109) := HVia.bc BK101 4 rfl
        have hfz43_0 := blk_frozen BK101.out 0
        have hfz43_1 := blk_frozen BK101.out 1
        have hfz43_2 := blk_frozen BK101.out 2
        have hfz43_3 := blk_frozen BK101.out 3
        have hfz43_4 := blk_frozen BK101.out 4
        have hcz44_0 : wc.cell? ⟨gb102, 0, none⟩ = some (.string t110) := HVia.bc BK102 0 rfl
        have hcz44_1 : wc.cell? ⟨gb102, 1, none⟩ = some (.string t111) := HVia.bc BK102 1 rfl
        have hcz44_2 : wc.cell? ⟨gb102, 2, none⟩ = some (.string t112) := HVia.bc BK102 2 rfl
        have hcz44_3 : wc.cell? ⟨gb102, 3, none⟩ = some (.string t113) := HVia.bc BK102 3 rfl
        have hcz44_4 : wc.cell? ⟨gb102, 4, none⟩ = some (.string t114) := HVia.bc BK102 4 rfl
        have hfz44_0 := blk_frozen BK102.out 0
        have hfz44_1 := blk_frozen BK102.out 1
        have hfz44_2 := blk_frozen BK102.out 2
        have hfz44_3 := blk_frozen BK102.out 3
        have hfz44_4 := blk_frozen BK102.out 4
        go_wp2
        go_meet
        case rel => exact ⟨_, (t109), (t105), (t106), (x102002_20), (t108), (t109), H', ⟨by have := HJ3.out; have := HJ20.out; first | omega | exact Nat.le_refl _⟩, ⟨by (with_reducible repeat (first | refine blk_drewN ?_ _ | refine blk_drew ?_ | refine blk_alloc ?_ _)); refine blk_far ?_ NB101_102.out _; (with_reducible repeat (first | refine blk_drewN ?_ _ | refine blk_drew ?_ | refine blk_alloc ?_ _)); refine blk_far ?_ NB101_102.out _; (with_reducible repeat (first | refine blk_drewN ?_ _ | refine blk_drew ?_ | refine blk_alloc ?_ _)); refine blk_far ?_ NB101_102.out _; (with_reducible repeat (first | refine blk_drewN ?_ _ | refine blk_drew ?_ | refine blk_alloc ?_ _)); refine blk_far ?_ NB101_102.out _; (with_reducible repeat (first | refine blk_drewN ?_ _ | refine blk_drew ?_ | refine blk_alloc ?_ _)); refine blk_far ?_ NB101_102.out _; (with_reducible repeat (first | refine blk_drewN ?_ _ | refine blk_drew ?_ | refine blk_alloc ?_ _)); exact BK101.out⟩, ⟨by (with_reducible repeat (first | refine blk_drewN ?_ _ | refine blk_drew ?_ | refine blk_alloc ?_ _)); refine blk_put (cs := #[.string t105, .string t106, .string x102002_20, .string t108, .string t114]) ?_ 4 _ rfl; (with_reducible repeat (first | refine blk_drewN ?_ _ | refine blk_drew ?_ | refine blk_alloc ?_ _)); refine blk_put (cs := #[.string t105, .string t106, .string x102002_20, .string t113, .string t114]) ?_ 3 _ rfl; (with_reducible repeat (first | refine blk_drewN ?_ _ | refine blk_drew ?_ | refine blk_alloc ?_ _)); refine blk_put (cs := #[.string t105, .string t106, .string t112, .string t113, .string t114]) ?_ 2 _ rfl; (with_reducible repeat (first | refine blk_drewN ?_ _ | refine blk_drew ?_ | refine blk_alloc ?_ _)); refine blk_put (cs := #[.string t105, .string t111, .string t112, .string t113, .string t114]) ?_ 1 _ rfl; (with_reducible repeat (first | refine blk_drewN ?_ _ | refine blk_drew ?_ | refine blk_alloc ?_ _)); refine blk_put (cs := #[.string t110, .string t111, .string t112, .string t113, .string t114]) ?_ 0 _ rfl; (with_reducible repeat (first | refine blk_drewN ?_ _ | refine blk_drew ?_ | refine blk_alloc ?_ _)); exact BK102.out⟩, ⟨by repeat (first | (with_reducible first | exact HB.out | apply below_alloc | apply pw_below_drewN | apply below_drew1 | refine below_set ?_ GE101.out | refine below_set ?_ GE102.out) | exact HB.out)⟩⟩
      · rw [if_neg c41] at H
        have c41b0 : ((Int.tmod a2 8) == 0) = false := beq_eq_false_iff_ne.mpr c41
        have c41b1 : ((Int.tmod a2 8) != 0) = true := bne_iff_ne.mpr c41
        (first | rw [c41b0] | (simp only [i64_w, i32_w]; rw [c41b0]) | skip)
        by_cases c45 : (Int.tmod a2 8) = 1
        · rw [if_pos c45] at H
          have c45b0 : ((Int.tmod a2 8) == 1) = true := beq_iff_eq.mpr c45
          have c45b1 : ((Int.tmod a2 8) != 1) = false := bne_eq_false_iff_eq.mpr c45
          clear c45
          have H' := Aside0.mk H
          clear H
          have hnb46 := NB101_102.out
          have hnc46 := NB102_101.out
          have hcz47_0 : wc.cell? ⟨gb101, 0, none⟩ = some (.string t105) := HVia.bc BK101 0 rfl
          have hcz47_1 : wc.cell? ⟨gb101, 1, none⟩ = some (.string t106) := HVia.bc BK101 1 rfl
          have hcz47_2 : wc.cell? ⟨gb101, 2, none⟩ = some (.string x102002_20) := HVia.bc BK101 2 rfl
          have hcz47_3 : wc.cell? ⟨gb101, 3, none⟩ = some (.string t108) := HVia.bc BK101 3 rfl
          have hcz47_4 : wc.cell? ⟨gb101, 4, none⟩ = some (.string t109) := HVia.bc BK101 4 rfl
          have hfz47_0 := blk_frozen BK101.out 0
          have hfz47_1 := blk_frozen BK101.out 1
          have hfz47_2 := blk_frozen BK101.out 2
          have hfz47_3 := blk_frozen BK101.out 3
          have hfz47_4 := blk_frozen BK101.out 4
          have hcz48_0 : wc.cell? ⟨gb102, 0, none⟩ = some (.string t110) := HVia.bc BK102 0 rfl
          have hcz48_1 : wc.cell? ⟨gb102, 1, none⟩ = some (.string t111) := HVia.bc BK102 1 rfl
          have hcz48_2 : wc.cell? ⟨gb102, 2, none⟩ = some (.string t112) := HVia.bc BK102 2 rfl
          have hcz48_3 : wc.cell? ⟨gb102, 3, none⟩ = some (.string t113) := HVia.bc BK102 3 rfl
          have hcz48_4 : wc.cell? ⟨gb102, 4, none⟩ = some (.string t114) := HVia.bc BK102 4 rfl
          have hfz48_0 := blk_frozen BK102.out 0
          have hfz48_1 := blk_frozen BK102.out 1
          have hfz48_2 := blk_frozen BK102.out 2
          have hfz48_3 := blk_frozen BK102.out 3
          have hfz48_4 := blk_frozen BK102.out 4
          go_wp2
          go_meet
          case rel => exact ⟨_, (t109), (t105), (t106), (x102002_20), (t108), ((⟨#[]⟩ : ByteArray)), H', ⟨by have := HJ3.out; have := HJ20.out; first | omega | exact Nat.le_refl _⟩, ⟨by (with_reducible repeat (first | refine blk_drewN ?_ _ | refine blk_drew ?_ | refine blk_alloc ?_ _)); refine blk_far ?_ NB101_102.out _; (with_reducible repeat (first | refine blk_drewN ?_ _ | refine blk_drew ?_ | refine blk_alloc ?_ _)); refine blk_far ?_ NB101_102.out _; (with_reducible repeat (first | refine blk_drewN ?_ _ | refine blk_drew ?_ | refine blk_alloc ?_ _)); refine blk_far ?_ NB101_102.out _; (with_reducible repeat (first | refine blk_drewN ?_ _ | refine blk_drew ?_ | refine blk_alloc ?_ _)); refine blk_far ?_ NB101_102.out _; (with_reducible repeat (first | refine blk_drewN ?_ _ | refine blk_drew ?_ | refine blk_alloc ?_ _)); refine blk_far ?_ NB101_102.out _; (with_reducible repeat (first | refine blk_drewN ?_ _ | refine blk_drew ?_ | refine blk_alloc ?_ _)); refine blk_far ?_ NB101_102.out _; (with_reducible repeat (first | refine blk_drewN ?_ _ | refine blk_drew ?_ | refine blk_alloc ?_ _)); exact BK101.out⟩, ⟨by (with_reducible repeat (first | refine blk_drewN ?_ _ | refine blk_drew ?_ | refine blk_alloc ?_ _)); refine blk_put (cs := #[.string t105, .string t106, .string x102002_20, .string t108, .string t109]) ?_ 4 _ rfl; (with_reducible repeat (first | refine blk_drewN ?_ _ | refine blk_drew ?_ | refine blk_alloc ?_ _)); refine blk_put (cs := #[.string t105, .string t106, .string x102002_20, .string t108, .string t114]) ?_ 4 _ rfl; (with_reducible repeat (first | refine blk_drewN ?_ _ | refine blk_drew ?_ | refine blk_alloc ?_ _)); refine blk_put (cs := #[.string t105, .string t106, .string x102002_20, .string t113, .string t114]) ?_ 3 _ rfl; (with_reducible repeat (first | refine blk_drewN ?_ _ | refine blk_drew ?_ | refine blk_alloc ?_ _)); refine blk_put (cs := #[.string t105, .string t106, .string t112, .string t113, .string t114]) ?_ 2 _ rfl; (with_reducible repeat (first | refine blk_drewN ?_ _ | refine blk_drew ?_ | refine blk_alloc ?_ _)); refine blk_put (cs := #[.string t105, .string t111, .string t112, .string t113, .string t114]) ?_ 1 _ rfl; (with_reducible repeat (first | refine blk_drewN ?_ _ | refine blk_drew ?_ | refine blk_alloc ?_ _)); refine blk_put (cs := #[.string t110, .string t111, .string t112, .string t113, .string t114]) ?_ 0 _ rfl; (with_reducible repeat (first | refine blk_drewN ?_ _ | refine blk_drew ?_ | refine blk_alloc ?_ _)); exact BK102.out⟩, ⟨by repeat (first | (with_reducible first | exact HB.out | apply below_alloc | apply pw_below_drewN | apply below_drew1 | refine below_set ?_ GE101.out | refine below_set ?_ GE102.out) | exact HB.out)⟩⟩
        · rw [if_neg c45] at H
          have c45b0 : ((Int.tmod a2 8) == 1) = false := beq_eq_false_iff_ne.mpr c45
          have c45b1 : ((Int.tmod a2 8) != 1) = true := bne_iff_ne.mpr c45
          by_cases c49 : (Int.tmod a2 8) = 2
          · rw [if_pos c49] at H
            have c49b0 : ((Int.tmod a2 8) == 2) = true := beq_iff_eq.mpr c49
            have c49b1 : ((Int.tmod a2 8) != 2) = false := bne_eq_false_iff_eq.mpr c49
            clear c49
            have H' := Aside0.mk H
            clear H
            have hnb50 := NB101_102.out
            have hnc50 := NB102_101.out
            have hcz51_0 : wc.cell? ⟨gb101, 0, none⟩ = some (.string t105) := HVia.bc BK101 0 rfl
            have hcz51_1 : wc.cell? ⟨gb101, 1, none⟩ = some (.string t106) := HVia.bc BK101 1 rfl
            have hcz51_2 : wc.cell? ⟨gb101, 2, none⟩ = some (.string x102002_20) := HVia.bc BK101 2 rfl
            have hcz51_3 : wc.cell? ⟨gb101, 3, none⟩ = some (.string t108) := HVia.bc BK101 3 rfl
            have hcz51_4 : wc.cell? ⟨gb101, 4, none⟩ = some (.string t109) := HVia.bc BK101 4 rfl
            have hfz51_0 := blk_frozen BK101.out 0
            have hfz51_1 := blk_frozen BK101.out 1
            have hfz51_2 := blk_frozen BK101.out 2
            have hfz51_3 := blk_frozen BK101.out 3
            have hfz51_4 := blk_frozen BK101.out 4
            have hcz52_0 : wc.cell? ⟨gb102, 0, none⟩ = some (.string t110) := HVia.bc BK102 0 rfl
            have hcz52_1 : wc.cell? ⟨gb102, 1, none⟩ = some (.string t111) := HVia.bc BK102 1 rfl
            have hcz52_2 : wc.cell? ⟨gb102, 2, none⟩ = some (.string t112) := HVia.bc BK102 2 rfl
            have hcz52_3 : wc.cell? ⟨gb102, 3, none⟩ = some (.string t113) := HVia.bc BK102 3 rfl
            have hcz52_4 : wc.cell? ⟨gb102, 4, none⟩ = some (.string t114) := HVia.bc BK102 4 rfl
            have hfz52_0 := blk_frozen BK102.out 0
            have hfz52_1 := blk_frozen BK102.out 1
            have hfz52_2 := blk_frozen BK102.out 2
            have hfz52_3 := blk_frozen BK102.out 3
            have hfz52_4 := blk_frozen BK102.out 4
            go_wp2
            go_meet
            case rel => exact ⟨_, (t109), (t105), (t106), (x102002_20), ((⟨#[]⟩ : ByteArray)), (t109), H', ⟨by have := HJ3.out; have := HJ20.out; first | omega | exact Nat.le_refl _⟩, ⟨by (with_reducible repeat (first | refine blk_drewN ?_ _ | refine blk_drew ?_ | refine blk_alloc ?_ _)); refine blk_far ?_ NB101_102.out _; (with_reducible repeat (first | refine blk_drewN ?_ _ | refine blk_drew ?_ | refine blk_alloc ?_ _)); refine blk_far ?_ NB101_102.out _; (with_reducible repeat (first | refine blk_drewN ?_ _ | refine blk_drew ?_ | refine blk_alloc ?_ _)); refine blk_far ?_ NB101_102.out _; (with_reducible repeat (first | refine blk_drewN ?_ _ | refine blk_drew ?_ | refine blk_alloc ?_ _)); refine blk_far ?_ NB101_102.out _; (with_reducible repeat (first | refine blk_drewN ?_ _ | refine blk_drew ?_ | refine blk_alloc ?_ _)); refine blk_far ?_ NB101_102.out _; (with_reducible repeat (first | refine blk_drewN ?_ _ | refine blk_drew ?_ | refine blk_alloc ?_ _)); refine blk_far ?_ NB101_102.out _; (with_reducible repeat (first | refine blk_drewN ?_ _ | refine blk_drew ?_ | refine blk_alloc ?_ _)); exact BK101.out⟩, ⟨by (with_reducible repeat (first | refine blk_drewN ?_ _ | refine blk_drew ?_ | refine blk_alloc ?_ _)); refine blk_put (cs := #[.string t105, .string t106, .string x102002_20, .string t108, .string t109]) ?_ 3 _ rfl; (with_reducible repeat (first | refine blk_drewN ?_ _ | refine blk_drew ?_ | refine blk_alloc ?_ _)); refine blk_put (cs := #[.string t105, .string t106, .string x102002_20, .string t108, .string t114]) ?_ 4 _ rfl; (with_reducible repeat (first | refine blk_drewN ?_ _ | refine blk_drew ?_ | refine blk_alloc ?_ _)); refine blk_put (cs := #[.string t105, .string t106, .string x102002_20, .string t113, .string t114]) ?_ 3 _ rfl; (with_reducible repeat (first | refine blk_drewN ?_ _ | refine blk_drew ?_ | refine blk_alloc ?_ _)); refine blk_put (cs := #[.string t105, .string t106, .string t112, .string t113, .string t114]) ?_ 2 _ rfl; (with_reducible repeat (first | refine blk_drewN ?_ _ | refine blk_drew ?_ | refine blk_alloc ?_ _)); refine blk_put (cs := #[.string t105, .string t111, .string t112, .string t113, .string t114]) ?_ 1 _ rfl; (with_reducible repeat (first | refine blk_drewN ?_ _ | refine blk_drew ?_ | refine blk_alloc ?_ _)); refine blk_put (cs := #[.string t110, .string t111, .string t112, .string t113, .string t114]) ?_ 0 _ rfl; (with_reducible repeat (first | refine blk_drewN ?_ _ | refine blk_drew ?_ | refine blk_alloc ?_ _)); exact BK102.out⟩, ⟨by repeat (first | (with_reducible first | exact HB.out | apply below_alloc | apply pw_below_drewN | apply below_drew1 | refine below_set ?_ GE101.out | refine below_set ?_ GE102.out) | exact HB.out)⟩⟩
          · rw [if_neg c49] at H
            have c49b0 : ((Int.tmod a2 8) == 2) = false := beq_eq_false_iff_ne.mpr c49
            have c49b1 : ((Int.tmod a2 8) != 2) = true := bne_iff_ne.mpr c49
            by_cases c53 : (Int.tmod a2 8) = 3
            · rw [if_pos c53] at H
              have c53b0 : ((Int.tmod a2 8) == 3) = true := beq_iff_eq.mpr c53
              have c53b1 : ((Int.tmod a2 8) != 3) = false := bne_eq_false_iff_eq.mpr c53
              clear c53
              have H' := Aside0.mk H
              clear H
              have hnb54 := NB101_102.out
              have hnc54 := NB102_101.out
              have hcz55_0 : wc.cell? ⟨gb101, 0, none⟩ = some (.string t105) := HVia.bc BK101 0 rfl
              have hcz55_1 : wc.cell? ⟨gb101, 1, none⟩ = some (.string t106) := HVia.bc BK101 1 rfl
              have hcz55_2 : wc.cell? ⟨gb101, 2, none⟩ = some (.string x102002_20) := HVia.bc BK101 2 rfl
              have hcz55_3 : wc.cell? ⟨gb101, 3, none⟩ = some (.string t108) := HVia.bc BK101 3 rfl
              have hcz55_4 : wc.cell? ⟨gb101, 4, none⟩ = some (.string t109) := HVia.bc BK101 4 rfl
              have hfz55_0 := blk_frozen BK101.out 0
              have hfz55_1 := blk_frozen BK101.out 1
              have hfz55_2 := blk_frozen BK101.out 2
              have hfz55_3 := blk_frozen BK101.out 3
              have hfz55_4 := blk_frozen BK101.out 4
              have hcz56_0 : wc.cell? ⟨gb102, 0, none⟩ = some (.string t110) := HVia.bc BK102 0 rfl
              have hcz56_1 : wc.cell? ⟨gb102, 1, none⟩ = some (.string t111) := HVia.bc BK102 1 rfl
              have hcz56_2 : wc.cell? ⟨gb102, 2, none⟩ = some (.string t112) := HVia.bc BK102 2 rfl
              have hcz56_3 : wc.cell? ⟨gb102, 3, none⟩ = some (.string t113) := HVia.bc BK102 3 rfl
              have hcz56_4 : wc.cell? ⟨gb102, 4, none⟩ = some (.string t114) := HVia.bc BK102 4 rfl
              have hfz56_0 := blk_frozen BK102.out 0
              have hfz56_1 := blk_frozen BK102.out 1
              have hfz56_2 := blk_frozen BK102.out 2
              have hfz56_3 := blk_frozen BK102.out 3
              have hfz56_4 := blk_frozen BK102.out 4
              go_wp2
              go_meet
              case rel => exact ⟨_, (t109), ((⟨#[]⟩ : ByteArray)), ((⟨#[]⟩ : ByteArray)), (x102002_20), ((⟨#[]⟩ : ByteArray)), ((⟨#[]⟩ : ByteArray)), H', ⟨by have := HJ3.out; have := HJ20.out; first | omega | exact Nat.le_refl _⟩, ⟨by (with_reducible repeat (first | refine blk_drewN ?_ _ | refine blk_drew ?_ | refine blk_alloc ?_ _)); refine blk_far ?_ NB101_102.out _; (with_reducible repeat (first | refine blk_drewN ?_ _ | refine blk_drew ?_ | refine blk_alloc ?_ _)); refine blk_far ?_ NB101_102.out _; (with_reducible repeat (first | refine blk_drewN ?_ _ | refine blk_drew ?_ | refine blk_alloc ?_ _)); refine blk_far ?_ NB101_102.out _; (with_reducible repeat (first | refine blk_drewN ?_ _ | refine blk_drew ?_ | refine blk_alloc ?_ _)); refine blk_far ?_ NB101_102.out _; (with_reducible repeat (first | refine blk_drewN ?_ _ | refine blk_drew ?_ | refine blk_alloc ?_ _)); refine blk_far ?_ NB101_102.out _; (with_reducible repeat (first | refine blk_drewN ?_ _ | refine blk_drew ?_ | refine blk_alloc ?_ _)); exact BK101.out⟩, ⟨by (with_reducible repeat (first | refine blk_drewN ?_ _ | refine blk_drew ?_ | refine blk_alloc ?_ _)); refine blk_put (cs := #[.string (⟨#[]⟩ : ByteArray), .string (⟨#[]⟩ : ByteArray), .string x102002_20, .string (⟨#[]⟩ : ByteArray), .string t114]) ?_ 4 _ rfl; (with_reducible repeat (first | refine blk_drewN ?_ _ | refine blk_drew ?_ | refine blk_alloc ?_ _)); refine blk_put (cs := #[.string (⟨#[]⟩ : ByteArray), .string (⟨#[]⟩ : ByteArray), .string x102002_20, .string t113, .string t114]) ?_ 3 _ rfl; (with_reducible repeat (first | refine blk_drewN ?_ _ | refine blk_drew ?_ | refine blk_alloc ?_ _)); refine blk_put (cs := #[.string (⟨#[]⟩ : ByteArray), .string (⟨#[]⟩ : ByteArray), .string t112, .string t113, .string t114]) ?_ 2 _ rfl; (with_reducible repeat (first | refine blk_drewN ?_ _ | refine blk_drew ?_ | refine blk_alloc ?_ _)); refine blk_put (cs := #[.string (⟨#[]⟩ : ByteArray), .string t111, .string t112, .string t113, .string t114]) ?_ 1 _ rfl; (with_reducible repeat (first | refine blk_drewN ?_ _ | refine blk_drew ?_ | refine blk_alloc ?_ _)); refine blk_put (cs := #[.string t110, .string t111, .string t112, .string t113, .string t114]) ?_ 0 _ rfl; (with_reducible repeat (first | refine blk_drewN ?_ _ | refine blk_drew ?_ | refine blk_alloc ?_ _)); exact BK102.out⟩, ⟨by repeat (first | (with_reducible first | exact HB.out | apply below_alloc | apply pw_below_drewN | apply below_drew1 | refine below_set ?_ GE101.out | refine below_set ?_ GE102.out) | exact HB.out)⟩⟩
            · rw [if_neg c53] at H
              have c53b0 : ((Int.tmod a2 8) == 3) = false := beq_eq_false_iff_ne.mpr c53
              have c53b1 : ((Int.tmod a2 8) != 3) = true := bne_iff_ne.mpr c53
              by_cases c57 : (Int.tmod a2 8) = 4
              · rw [if_pos c57] at H
                have c57b0 : ((Int.tmod a2 8) == 4) = true := beq_iff_eq.mpr c57
                have c57b1 : ((Int.tmod a2 8) != 4) = false := bne_eq_false_iff_eq.mpr c57
                clear c57
                have H' := Aside0.mk H
                clear H
                have hnb58 := NB101_102.out
                have hnc58 := NB102_101.out
                have hcz59_0 : wc.cell? ⟨gb101, 0, none⟩ = some (.string t105) := HVia.bc BK101 0 rfl
                have hcz59_1 : wc.cell? ⟨gb101, 1, none⟩ = some (.string t106) := HVia.bc BK101 1 rfl
                have hcz59_2 : wc.cell? ⟨gb101, 2, none⟩ = some (.string x102002_20) := HVia.bc BK101 2 rfl
                have hcz59_3 : wc.cell? ⟨gb101, 3, none⟩ = some (.string t108) := HVia.bc BK101 3 rfl
                have hcz59_4 : wc.cell? ⟨gb101, 4, none⟩ = some (.string t109) := HVia.bc BK101 4 rfl
                have hfz59_0 := blk_frozen BK101.out 0
                have hfz59_1 := blk_frozen BK101.out 1
                have hfz59_2 := blk_frozen BK101.out 2
                have hfz59_3 := blk_frozen BK101.out 3
                have hfz59_4 := blk_frozen BK101.out 4
                have hcz60_0 : wc.cell? ⟨gb102, 0, none⟩ = some (.string t110) := HVia.bc BK102 0 rfl
                have hcz60_1 : wc.cell? ⟨gb102, 1, none⟩ = some (.string t111) := HVia.bc BK102 1 rfl
                have hcz60_2 : wc.cell? ⟨gb102, 2, none⟩ = some (.string t112) := HVia.bc BK102 2 rfl
                have hcz60_3 : wc.cell? ⟨gb102, 3, none⟩ = some (.string t113) := HVia.bc BK102 3 rfl
                have hcz60_4 : wc.cell? ⟨gb102, 4, none⟩ = some (.string t114) := HVia.bc BK102 4 rfl
                have hfz60_0 := blk_frozen BK102.out 0
                have hfz60_1 := blk_frozen BK102.out 1
                have hfz60_2 := blk_frozen BK102.out 2
                have hfz60_3 := blk_frozen BK102.out 3
                have hfz60_4 := blk_frozen BK102.out 4
                go_wp2
                go_meet
                case rel => exact ⟨_, ((⟨#[100, 101, 102, 97, 117, 108, 116]⟩ : ByteArray)), (t105), (t106), (x102002_20), (t108), ((⟨#[]⟩ : ByteArray)), H', ⟨by have := HJ3.out; have := HJ20.out; first | omega | exact Nat.le_refl _⟩, ⟨by (with_reducible repeat (first | refine blk_drewN ?_ _ | refine blk_drew ?_ | refine blk_alloc ?_ _)); refine blk_far ?_ NB101_102.out _; (with_reducible repeat (first | refine blk_drewN ?_ _ | refine blk_drew ?_ | refine blk_alloc ?_ _)); refine blk_far ?_ NB101_102.out _; (with_reducible repeat (first | refine blk_drewN ?_ _ | refine blk_drew ?_ | refine blk_alloc ?_ _)); refine blk_far ?_ NB101_102.out _; (with_reducible repeat (first | refine blk_drewN ?_ _ | refine blk_drew ?_ | refine blk_alloc ?_ _)); refine blk_far ?_ NB101_102.out _; (with_reducible repeat (first | refine blk_drewN ?_ _ | refine blk_drew ?_ | refine blk_alloc ?_ _)); refine blk_far ?_ NB101_102.out _; (with_reducible repeat (first | refine blk_drewN ?_ _ | refine blk_drew ?_ | refine blk_alloc ?_ _)); refine blk_far ?_ NB101_102.out _; (with_reducible repeat (first | refine blk_drewN ?_ _ | refine blk_drew ?_ | refine blk_alloc ?_ _)); refine blk_put (cs := #[.string t105, .string t106, .string x102002_20, .string t108, .string t109]) ?_ 4 _ rfl; (with_reducible repeat (first | refine blk_drewN ?_ _ | refine blk_drew ?_ | refine blk_alloc ?_ _)); exact BK101.out⟩, ⟨by (with_reducible repeat (first | refine blk_drewN ?_ _ | refine blk_drew ?_ | refine blk_alloc ?_ _)); refine blk_put (cs := #[.string t105, .string t106, .string x102002_20, .string t108, .string t109]) ?_ 4 _ rfl; (with_reducible repeat (first | refine blk_drewN ?_ _ | refine blk_drew ?_ | refine blk_alloc ?_ _)); refine blk_put (cs := #[.string t105, .string t106, .string x102002_20, .string t108, .string t114]) ?_ 4 _ rfl; (with_reducible repeat (first | refine blk_drewN ?_ _ | refine blk_drew ?_ | refine blk_alloc ?_ _)); refine blk_put (cs := #[.string t105, .string t106, .string x102002_20, .string t113, .string t114]) ?_ 3 _ rfl; (with_reducible repeat (first | refine blk_drewN ?_ _ | refine blk_drew ?_ | refine blk_alloc ?_ _)); refine blk_put (cs := #[.string t105, .string t106, .string t112, .string t113, .string t114]) ?_ 2 _ rfl; (with_reducible repeat (first | refine blk_drewN ?_ _ | refine blk_drew ?_ | refine blk_alloc ?_ _)); refine blk_put (cs := #[.string t105, .string t111, .string t112, .string t113, .string t114]) ?_ 1 _ rfl; (with_reducible repeat (first | refine blk_drewN ?_ _ | refine blk_drew ?_ | refine blk_alloc ?_ _)); refine blk_put (cs := #[.string t110, .string t111, .string t112, .string t113, .string t114]) ?_ 0 _ rfl; (with_reducible repeat (first | refine blk_drewN ?_ _ | refine blk_drew ?_ | refine blk_alloc ?_ _)); refine blk_far ?_ NB102_101.out _; (with_reducible repeat (first | refine blk_drewN ?_ _ | refine blk_drew ?_ | refine blk_alloc ?_ _)); exact BK102.out⟩, ⟨by repeat (first | (with_reducible first | exact HB.out | apply below_alloc | apply pw_below_drewN | apply below_drew1 | refine below_set ?_ GE101.out | refine below_set ?_ GE102.out) | exact HB.out)⟩⟩
              · rw [if_neg c57] at H
                have c57b0 : ((Int.tmod a2 8) == 4) = false := beq_eq_false_iff_ne.mpr c57
                have c57b1 : ((Int.tmod a2 8) != 4) = true := bne_iff_ne.mpr c57
                have H' := Aside0.mk H
                clear H
                go_wp2
                go_meet
                case rel => exact ⟨_, (t109), (t110), (t111), (t112), (t113), (t114), H', ⟨by have := HJ3.out; have := HJ20.out; first | omega | exact Nat.le_refl _⟩, ⟨by (with_reducible repeat (first | refine blk_drewN ?_ _ | refine blk_drew ?_ | refine blk_alloc ?_ _)); exact BK101.out⟩, ⟨by (with_reducible repeat (first | refine blk_drewN ?_ _ | refine blk_drew ?_ | refine blk_alloc ?_ _)); exact BK102.out⟩, ⟨by repeat (first | (with_reducible first | exact HB.out | apply below_alloc | apply pw_below_drewN | apply below_drew1 | refine below_set ?_ GE101.out | refine below_set ?_ GE102.out) | exact HB.out)⟩⟩
     clear HC40
     try clear c1
     try clear p2
     try clear c3
     try clear c4
     try clear c5
     try clear c6
     try clear c7
     try clear c8
     try clear c10
     try clear c15
     try clear c18
     try clear c35
     try clear c37
     try clear c37b0
     try clear c37b1
     try clear c38
     try clear c41
     try clear c41b0
     try clear c41b1
     try clear c42
     try clear c45
     try clear c45b0
     try clear c45b1
     try clear c46
     try clear c49
     try clear c49b0
     try clear c49b1
     try clear c50
     try clear c53
     try clear c53b0
     try clear c53b1
     try clear c54
     try clear c57
     try clear c57b0
     try clear c57b1
     try clear c58
     try clear hcz11_0
     try clear hcz11_1
     try clear hcz11_2
     try clear hcz11_3
     try clear hcz11_4
     try clear hcz13_0
     try clear hcz13_1
     try clear hcz13_2
     try clear hcz13_3
     try clear hcz13_4
     try clear hcz16_0
     try clear hcz16_1
     try clear hcz16_2
     try clear hcz16_3
     try clear hcz16_4
     try clear hcz36_0
     try clear hcz36_1
     try clear hcz36_2
     try clear hcz36_3
     try clear hcz36_4
     try clear hcz39_0
     try clear hcz39_1
     try clear hcz39_2
     try clear hcz39_3
     try clear hcz39_4
     try clear hcz43_0
     try clear hcz43_1
     try clear hcz43_2
     try clear hcz43_3
     try clear hcz43_4
     try clear hcz44_0
     try clear hcz44_1
     try clear hcz44_2
     try clear hcz44_3
     try clear hcz44_4
     try clear hcz47_0
     try clear hcz47_1
     try clear hcz47_2
     try clear hcz47_3
     try clear hcz47_4
     try clear hcz48_0
     try clear hcz48_1
     try clear hcz48_2
     try clear hcz48_3
     try clear hcz48_4
     try clear hcz51_0
     try clear hcz51_1
     try clear hcz51_2
     try clear hcz51_3
     try clear hcz51_4
     try clear hcz52_0
     try clear hcz52_1
     try clear hcz52_2
     try clear hcz52_3
     try clear hcz52_4
     try clear hcz55_0
     try clear hcz55_1
     try clear hcz55_2
     try clear hcz55_3
     try clear hcz55_4
     try clear hcz56_0
     try clear hcz56_1
     try clear hcz56_2
     try clear hcz56_3
     try clear hcz56_4
     try clear hcz59_0
     try clear hcz59_1
     try clear hcz59_2
     try clear hcz59_3
     try clear hcz59_4
     try clear hcz60_0
     try clear hcz60_1
     try clear hcz60_2
     try clear hcz60_3
     try clear hcz60_4
     try clear hfz11_0
     try clear hfz11_1
     try clear hfz11_2
     try clear hfz11_3
     try clear hfz11_4
     try clear hfz13_0
     try clear hfz13_1
     try clear hfz13_2
     try clear hfz13_3
     try clear hfz13_4
     try clear hfz16_0
     try clear hfz16_1
     try clear hfz16_2
     try clear hfz16_3
     try clear hfz16_4
     try clear hfz36_0
     try clear hfz36_1
     try clear hfz36_2
     try clear hfz36_3
     try clear hfz36_4
     try clear hfz39_0
     try clear hfz39_1
     try clear hfz39_2
     try clear hfz39_3
     try clear hfz39_4
     try clear hfz43_0
     try clear hfz43_1
     try clear hfz43_2
     try clear hfz43_3
     try clear hfz43_4
     try clear hfz44_0
     try clear hfz44_1
     try clear hfz44_2
     try clear hfz44_3
     try clear hfz44_4
     try clear hfz47_0
     try clear hfz47_1
     try clear hfz47_2
     try clear hfz47_3
     try clear hfz47_4
     try clear hfz48_0
     try clear hfz48_1
     try clear hfz48_2
     try clear hfz48_3
     try clear hfz48_4
     try clear hfz51_0
     try clear hfz51_1
     try clear hfz51_2
     try clear hfz51_3
     try clear hfz51_4
     try clear hfz52_0
     try clear hfz52_1
     try clear hfz52_2
     try clear hfz52_3
     try clear hfz52_4
     try clear hfz55_0
     try clear hfz55_1
     try clear hfz55_2
     try clear hfz55_3
     try clear hfz55_4
     try clear hfz56_0
     try clear hfz56_1
     try clear hfz56_2
     try clear hfz56_3
     try clear hfz56_4
     try clear hfz59_0
     try clear hfz59_1
     try clear hfz59_2
     try clear hfz59_3
     try clear hfz59_4
     try clear hfz60_0
     try clear hfz60_1
     try clear hfz60_2
     try clear hfz60_3
     try clear hfz60_4
     try clear p2
     obtain ⟨kq, x102004_39, x103000_39, x103001_39, x103002_39, x103003_39, x103004_39, HA, HJ39, BK101, BK102, HB⟩ := hcut
     cases kq with
     | zero => exact absurd HA.out (by simp [laws_FnIdEqual.j2])
     | succ kj39 =>
      have H := HA.out
      clear HA
      simp only [laws_FnIdEqual.j2] at H
      have HC61 := Aside0.mk H
      clear H
      have hnb62 := NB102_101.out
      have hnc62 := NB101_102.out
      have hcz63_0 : wc.cell? ⟨gb102, 0, none⟩ = some (.string x103000_39) := HVia.bc BK102 0 rfl
      have hcz63_1 : wc.cell? ⟨gb102, 1, none⟩ = some (.string x103001_39) := HVia.bc BK102 1 rfl
      have hcz63_2 : wc.cell? ⟨gb102, 2, none⟩ = some (.string x103002_39) := HVia.bc BK102 2 rfl
      have hcz63_3 : wc.cell? ⟨gb102, 3, none⟩ = some (.string x103003_39) := HVia.bc BK102 3 rfl
      have hcz63_4 : wc.cell? ⟨gb102, 4, none⟩ = some (.string x103004_39) := HVia.bc BK102 4 rfl
      have hfz63_0 := blk_frozen BK102.out 0
      have hfz63_1 := blk_frozen BK102.out 1
      have hfz63_2 := blk_frozen BK102.out 2
      have hfz63_3 := blk_frozen BK102.out 3
      have hfz63_4 := blk_frozen BK102.out 4
      go_upto_if 57 with (fail)
      go_cut [] (fun wc => ∃ (kq : Nat) (x103002_60 : ByteArray), Aside0 (laws_FnIdEqual.j3 kq t105 t106 x102002_20 t108 x102004_39 x103000_39 x103001_39 x103002_60 x103003_39 x103004_39 = some r) ∧ Aside0 (kq ≤ kj39) ∧ Aside0 (wc.heap[gb101]? = some (.cells #[.string t105, .string t106, .string x102002_20, .string t108, .string x102004_39] 23 (0, 0))) ∧ Aside0 (wc.heap[gb102]? = some (.cells #[.string x103000_39, .string x103001_39, .string x103002_60, .string x103003_39, .string x103004_39] 23 (0, 0))) ∧ Aside0 (Below w.heap.size w wc))
      case first =>
       have H := HC61.out
       clear HC61
       by_cases c64 : x103002_39.toList = ([] : List UInt8)
       · rw [if_pos c64] at H
         have c64b0 : (x103002_39.toList == ([] : List UInt8)) = true := beq_iff_eq.mpr c64
         have c64b1 : (x103002_39.toList != ([] : List UInt8)) = false := bne_eq_false_iff_eq.mpr c64
         clear c64
         (first | rw [c64b0] | (simp only [i64_w, i32_w]; rw [c64b0]) | (rw [HVia.isE c64b0]; (try simp only [Bool.not_true, Bool.not_false])) | skip)
         have H' := Aside0.mk H
         clear H
         have hnb65 := NB102_101.out
         have hnc65 := NB101_102.out
         have hcz66_0 : wc.cell? ⟨gb102, 0, none⟩ = some (.string x103000_39) := HVia.bc BK102 0 rfl
         have hcz66_1 : wc.cell? ⟨gb102, 1, none⟩ = some (.string x103001_39) := HVia.bc BK102 1 rfl
         have hcz66_2 : wc.cell? ⟨gb102, 2, none⟩ = some (.string x103002_39) := HVia.bc BK102 2 rfl
         have hcz66_3 : wc.cell? ⟨gb102, 3, none⟩ = some (.string x103003_39) := HVia.bc BK102 3 rfl
         have hcz66_4 : wc.cell? ⟨gb102, 4, none⟩ = some (.string x103004_39) := HVia.bc BK102 4 rfl
         have hfz66_0 := blk_frozen BK102.out 0
         have hfz66_1 := blk_frozen BK102.out 1
         have hfz66_2 := blk_frozen BK102.out 2
         have hfz66_3 := blk_frozen BK102.out 3
         have hfz66_4 := blk_frozen BK102.out 4
         go_wp2
         go_meet
         case rel => exact ⟨_, ((⟨#[90, 122]⟩ : ByteArray)), H', ⟨by have := HJ3.out; have := HJ20.out; have := HJ39.out; first | omega | exact Nat.le_refl _⟩, ⟨by (with_reducible repeat (first | refine blk_drewN ?_ _ | refine blk_drew ?_ | refine blk_alloc ?_ _)); refine blk_far ?_ NB101_102.out _; (with_reducible repeat (first | refine blk_drewN ?_ _ | refine blk_drew ?_ | refine blk_alloc ?_ _)); exact BK101.out⟩, ⟨by (with_reducible repeat (first | refine blk_drewN ?_ _ | refine blk_drew ?_ | refine blk_alloc ?_ _)); refine blk_put (cs := #[.string x103000_39, .string x103001_39, .string x103002_39, .string x103003_39, .string x103004_39]) ?_ 2 _ rfl; (with_reducible repeat (first | refine blk_drewN ?_ _ | refine blk_drew ?_ | refine blk_alloc ?_ _)); exact BK102.out⟩, ⟨by repeat (first | (with_reducible first | exact HB.out | apply below_alloc | apply pw_below_drewN | apply below_drew1 | refine below_set ?_ GE101.out | refine below_set ?_ GE102.out) | exact HB.out)⟩⟩
       · rw [if_neg c64] at H
         have c64b0 : (x103002_39.toList == ([] : List UInt8)) = false := beq_eq_false_iff_ne.mpr c64
         have c64b1 : (x103002_39.toList != ([] : List UInt8)) = true := bne_iff_ne.mpr c64
         (first | rw [c64b0] | (simp only [i64_w, i32_w]; rw [c64b0]) | (rw [HVia.isE c64b0]; (try simp only [Bool.not_true, Bool.not_false])) | skip)
         have H' := Aside0.mk H
         clear H
         go_wp2
         go_meet
         case rel => exact ⟨_, (x103002_39), H', ⟨by have := HJ3.out; have := HJ20.out; have := HJ39.out; first | omega | exact Nat.le_refl _⟩, ⟨by (with_reducible repeat (first | refine blk_drewN ?_ _ | refine blk_drew ?_ | refine blk_alloc ?_ _)); exact BK101.out⟩, ⟨by (with_reducible repeat (first | refine blk_drewN ?_ _ | refine blk_drew ?_ | refine blk_alloc ?_ _)); exact BK102.out⟩, ⟨by repeat (first | (with_reducible first | exact HB.out | apply below_alloc | apply pw_below_drewN | apply below_drew1 | refine below_set ?_ GE101.out | refine below_set ?_ GE102.out) | exact HB.out)⟩⟩
      clear HC61
      try clear c1
      try clear p2
      try clear c3
      try clear c4
      try clear c5
      try clear c6
      try clear c7
      try clear c8
      try clear c10
      try clear c15
      try clear c18
      try clear c35
      try clear c37
      try clear c37b0
      try clear c37b1
      try clear c38
      try clear c41
      try clear c41b0
      try clear c41b1
      try clear c42
      try clear c45
      try clear c45b0
      try clear c45b1
      try clear c46
      try clear c49
      try clear c49b0
      try clear c49b1
      try clear c50
      try clear c53
      try clear c53b0
      try clear c53b1
      try clear c54
      try clear c57
      try clear c57b0
      try clear c57b1
      try clear c58
      try clear c62
      try clear c64
      try clear c64b0
      try clear c64b1
      try clear c65
      try clear hcz11_0
      try clear hcz11_1
      try clear hcz11_2
      try clear hcz11_3
      try clear hcz11_4
      try clear hcz13_0
      try clear hcz13_1
      try clear hcz13_2
      try clear hcz13_3
      try clear hcz13_4
      try clear hcz16_0
      try clear hcz16_1
      try clear hcz16_2
      try clear hcz16_3
      try clear hcz16_4
      try clear hcz36_0
      try clear hcz36_1
      try clear hcz36_2
      try clear hcz36_3
      try clear hcz36_4
      try clear hcz39_0
      try clear hcz39_1
      try clear hcz39_2
      try clear hcz39_3
      try clear hcz39_4
      try clear hcz43_0
      try clear hcz43_1
      try clear hcz43_2
      try clear hcz43_3
      try clear hcz43_4
      try clear hcz44_0
      try clear hcz44_1
      try clear hcz44_2
      try clear hcz44_3
      try clear hcz44_4
      try clear hcz47_0
      try clear hcz47_1
      try clear hcz47_2
      try clear hcz47_3
      try clear hcz47_4
      try clear hcz48_0
      try clear hcz48_1
      try clear hcz48_2
      try clear hcz48_3
      try clear hcz48_4
      try clear hcz51_0
      try clear hcz51_1
      try clear hcz51_2
      try clear hcz51_3
      try clear hcz51_4
      try clear hcz52_0
      try clear hcz52_1
      try clear hcz52_2
      try clear hcz52_3
      try clear hcz52_4
      try clear hcz55_0
      try clear hcz55_1
      try clear hcz55_2
      try clear hcz55_3
      try clear hcz55_4
      try clear hcz56_0
      try clear hcz56_1
      try clear hcz56_2
      try clear hcz56_3
      try clear hcz56_4
      try clear hcz59_0
      try clear hcz59_1
      try clear hcz59_2
      try clear hcz59_3
      try clear hcz59_4
      try clear hcz60_0
      try clear hcz60_1
      try clear hcz60_2
      try clear hcz60_3
      try clear hcz60_4
      try clear hcz63_0
      try clear hcz63_1
      try clear hcz63_2
      try clear hcz63_3
      try clear hcz63_4
      try clear hcz66_0
      try clear hcz66_1
      try clear hcz66_2
      try clear hcz66_3
      try clear hcz66_4
      try clear hfz11_0
      try clear hfz11_1
      try clear hfz11_2
      try clear hfz11_3
      try clear hfz11_4
      try clear hfz13_0
      try clear hfz13_1
      try clear hfz13_2
      try clear hfz13_3
      try clear hfz13_4
      try clear hfz16_0
      try clear hfz16_1
      try clear hfz16_2
      try clear hfz16_3
      try clear hfz16_4
      try clear hfz36_0
      try clear hfz36_1
      try clear hfz36_2
      try clear hfz36_3
      try clear hfz36_4
      try clear hfz39_0
      try clear hfz39_1
      try clear hfz39_2
      try clear hfz39_3
      try clear hfz39_4
      try clear hfz43_0
      try clear hfz43_1
      try clear hfz43_2
      try clear hfz43_3
      try clear hfz43_4
      try clear hfz44_0
      try clear hfz44_1
      try clear hfz44_2
      try clear hfz44_3
      try clear hfz44_4
      try clear hfz47_0
      try clear hfz47_1
      try clear hfz47_2
      try clear hfz47_3
      try clear hfz47_4
      try clear hfz48_0
      try clear hfz48_1
      try clear hfz48_2
      try clear hfz48_3
      try clear hfz48_4
      try clear hfz51_0
      try clear hfz51_1
      try clear hfz51_2
      try clear hfz51_3
      try clear hfz51_4
      try clear hfz52_0
      try clear hfz52_1
      try clear hfz52_2
      try clear hfz52_3
      try clear hfz52_4
      try clear hfz55_0
      try clear hfz55_1
      try clear hfz55_2
      try clear hfz55_3
      try clear hfz55_4
      try clear hfz56_0
      try clear hfz56_1
      try clear hfz56_2
      try clear hfz56_3
      try clear hfz56_4
      try clear hfz59_0
      try clear hfz59_1
      try clear hfz59_2
      try clear hfz59_3
      try clear hfz59_4
      try clear hfz60_0
      try clear hfz60_1
      try clear hfz60_2
      try clear hfz60_3
      try clear hfz60_4
      try clear hfz63_0
      try clear hfz63_1
      try clear hfz63_2
      try clear hfz63_3
      try clear hfz63_4
      try clear hfz66_0
      try clear hfz66_1
      try clear hfz66_2
      try clear hfz66_3
      try clear hfz66_4
      try clear p2
      obtain ⟨kq, x103002_60, HA, HJ60, BK101, BK102, HB⟩ := hcut
      cases kq with
      | zero => exact absurd HA.out (by simp [laws_FnIdEqual.j3])
      | succ kj60 =>
       have H := HA.out
       clear HA
       simp only [laws_FnIdEqual.j3] at H
       replace H := Option.bind_eq_some_iff.mp H
       obtain ⟨⟨t115, t116, t117⟩, A670, H⟩ := H
       replace H : (if t105.toList = x103000_39.toList then (if t106.toList = x103001_39.toList then (if x102002_20.toList = x103002_60.toList then (laws_FnIdEqual.j4 kj60 t115 t116 t117 (t108.toList == x103003_39.toList) t105 t106 x102002_20 t108 x102004_39 x103000_39 x103001_39 x103002_60 x103003_39 x103004_39) else (laws_FnIdEqual.j4 kj60 t115 t116 t117 false t105 t106 x102002_20 t108 x102004_39 x103000_39 x103001_39 x103002_60 x103003_39 x103004_39)) else (laws_FnIdEqual.j4 kj60 t115 t116 t117 false t105 t106 x102002_20 t108 x102004_39 x103000_39 x103001_39 x103002_60 x103003_39 x103004_39)) else (laws_FnIdEqual.j4 kj60 t115 t116 t117 false t105 t106 x102002_20 t108 x102004_39 x103000_39 x103001_39 x103002_60 x103003_39 x103004_39)) = some r := H
       have A67 := Aside0.mk A670
       clear A670
       have HC68 := Aside0.mk H
       clear H
       have hnb69 := NB101_102.out
       have hnc69 := NB102_101.out
       have hcz70_0 : wc.cell? ⟨gb101, 0, none⟩ = some (.string t105) := HVia.bc BK101 0 rfl
       have hcz70_1 : wc.cell? ⟨gb101, 1, none⟩ = some (.string t106) := HVia.bc BK101 1 rfl
       have hcz70_2 : wc.cell? ⟨gb101, 2, none⟩ = some (.string x102002_20) := HVia.bc BK101 2 rfl
       have hcz70_3 : wc.cell? ⟨gb101, 3, none⟩ = some (.string t108) := HVia.bc BK101 3 rfl
       have hcz70_4 : wc.cell? ⟨gb101, 4, none⟩ = some (.string x102004_39) := HVia.bc BK101 4 rfl
       have hfz70_0 := blk_frozen BK101.out 0
       have hfz70_1 := blk_frozen BK101.out 1
       have hfz70_2 := blk_frozen BK101.out 2
       have hfz70_3 := blk_frozen BK101.out 3
       have hfz70_4 := blk_frozen BK101.out 4
       have hcz71_0 : wc.cell? ⟨gb102, 0, none⟩ = some (.string x103000_39) := HVia.bc BK102 0 rfl
       have hcz71_1 : wc.cell? ⟨gb102, 1, none⟩ = some (.string x103001_39) := HVia.bc BK102 1 rfl
       have hcz71_2 : wc.cell? ⟨gb102, 2, none⟩ = some (.string x103002_60) := HVia.bc BK102 2 rfl
       have hcz71_3 : wc.cell? ⟨gb102, 3, none⟩ = some (.string x103003_39) := HVia.bc BK102 3 rfl
       have hcz71_4 : wc.cell? ⟨gb102, 4, none⟩ = some (.string x103004_39) := HVia.bc BK102 4 rfl
       have hfz71_0 := blk_frozen BK102.out 0
       have hfz71_1 := blk_frozen BK102.out 1
       have hfz71_2 := blk_frozen BK102.out 2
       have hfz71_3 := blk_frozen BK102.out 3
       have hfz71_4 := blk_frozen BK102.out 4
       go_upto_region 24 with (first | ((with_reducible refine gate_callee (f := 9) rfl ?_); refine goesL_ (some 62) rfl rfl Try.func9 (by kernel_rfl) rfl #[.agg #[.string t105, .string t106, .string x102002_20, .string t108, .string x102004_39], .agg #[.string x103000_39, .string x103001_39, .string x103002_60, .string x103003_39, .string x103004_39]] rfl (by (try simp only [List.map_toArray, List.map_cons, List.map_nil]); first | done | rfl | (simp only [List.length_drop, List.length_take]; rfl)) ?_; (with_reducible refine (impl_IdEqual.calls t105 t106 x102002_20 t108 x102004_39 x103000_39 x103001_39 x103002_60 x103003_39 x103004_39 t115 t116 t117 _ A67.out).mono ?_); rintro e w72 ⟨rfl, hb⟩; refine ⟨_, rfl, ?_⟩; have n0_ := Aside0.mk (blk_below (g := gb101) (o := .cells #[.string t105, .string t106, .string x102002_20, .string t108, .string x102004_39] 23 (0, 0)) (by (with_reducible repeat (first | refine blk_drewN ?_ _ | refine blk_drew ?_ | refine blk_alloc ?_ _)); exact BK101.out) hb); have n1_ := Aside0.mk (blk_below (g := gb102) (o := .cells #[.string x103000_39, .string x103001_39, .string x103002_60, .string x103003_39, .string x103004_39] 23 (0, 0)) (by (with_reducible repeat (first | refine blk_drewN ?_ _ | refine blk_drew ?_ | refine blk_alloc ?_ _)); exact BK102.out) hb); have n2_ := Aside0.mk (below_step (by repeat (first | (with_reducible first | exact HB.out | apply below_alloc | apply pw_below_drewN | apply below_drew1 | refine below_set ?_ GE101.out | refine below_set ?_ GE102.out) | exact HB.out)) hb); clear BK101; clear BK102; clear HB; have BK101 := n0_; have BK102 := n1_; have HB := n2_; clear n0_ n1_ n2_; (try clear hb); (try clear hb2); (try clear hk); (try clear hi)))
       (try simp only [Act.put, List.setIfInBounds_toArray, List.set_cons_zero, List.set_cons_succ])
       go_cut [11] (fun v11 wc => ∃ (kq : Nat) (x11_67 : Bool), v11 = .bool x11_67 ∧ Aside0 (laws_FnIdEqual.j4 kq t115 t116 t117 x11_67 t105 t106 x102002_20 t108 x102004_39 x103000_39 x103001_39 x103002_60 x103003_39 x103004_39 = some r) ∧ Aside0 (kq ≤ kj60) ∧ Aside0 (wc.heap[gb101]? = some (.cells #[.string t105, .string t106, .string x102002_20, .string t108, .string x102004_39] 23 (0, 0))) ∧ Aside0 (wc.heap[gb102]? = some (.cells #[.string x103000_39, .string x103001_39, .string x103002_60, .string x103003_39, .string x103004_39] 23 (0, 0))) ∧ Aside0 (Below w.heap.size w wc))
       case first =>
        have H := HC68.out
        clear HC68
        by_cases c73 : t105.toList = x103000_39.toList
        · rw [if_pos c73] at H
          have c73b0 : (t105.toList == x103000_39.toList) = true := beq_iff_eq.mpr c73
          have c73b1 : (t105.toList != x103000_39.toList) = false := bne_eq_false_iff_eq.mpr c73
          clear c73
          (first | rw [c73b0] | (simp only [i64_w, i32_w]; rw [c73b0]) | skip)
          by_cases c74 : t106.toList = x103001_39.toList
          · rw [if_pos c74] at H
            have c74b0 : (t106.toList == x103001_39.toList) = true := beq_iff_eq.mpr c74
            have c74b1 : (t106.toList != x103001_39.toList) = false := bne_eq_false_iff_eq.mpr c74
            clear c74
            by_cases c75 : x102002_20.toList = x103002_60.toList
            · rw [if_pos c75] at H
              have c75b0 : (x102002_20.toList == x103002_60.toList) = true := beq_iff_eq.mpr c75
              have c75b1 : (x102002_20.toList != x103002_60.toList) = false := bne_eq_false_iff_eq.mpr c75
              clear c75
              have H' := Aside0.mk H
              clear H
              have hnb76 := NB101_102.out
              have hnc76 := NB102_101.out
              have hcz77_0 : w72.cell? ⟨gb101, 0, none⟩ = some (.string t105) := HVia.bc BK101 0 rfl
              have hcz77_1 : w72.cell? ⟨gb101, 1, none⟩ = some (.string t106) := HVia.bc BK101 1 rfl
              have hcz77_2 : w72.cell? ⟨gb101, 2, none⟩ = some (.string x102002_20) := HVia.bc BK101 2 rfl
              have hcz77_3 : w72.cell? ⟨gb101, 3, none⟩ = some (.string t108) := HVia.bc BK101 3 rfl
              have hcz77_4 : w72.cell? ⟨gb101, 4, none⟩ = some (.string x102004_39) := HVia.bc BK101 4 rfl
              have hfz77_0 := blk_frozen BK101.out 0
              have hfz77_1 := blk_frozen BK101.out 1
              have hfz77_2 := blk_frozen BK101.out 2
              have hfz77_3 := blk_frozen BK101.out 3
              have hfz77_4 := blk_frozen BK101.out 4
              have hcz78_0 : w72.cell? ⟨gb102, 0, none⟩ = some (.string x103000_39) := HVia.bc BK102 0 rfl
              have hcz78_1 : w72.cell? ⟨gb102, 1, none⟩ = some (.string x103001_39) := HVia.bc BK102 1 rfl
              have hcz78_2 : w72.cell? ⟨gb102, 2, none⟩ = some (.string x103002_60) := HVia.bc BK102 2 rfl
              have hcz78_3 : w72.cell? ⟨gb102, 3, none⟩ = some (.string x103003_39) := HVia.bc BK102 3 rfl
              have hcz78_4 : w72.cell? ⟨gb102, 4, none⟩ = some (.string x103004_39) := HVia.bc BK102 4 rfl
              have hfz78_0 := blk_frozen BK102.out 0
              have hfz78_1 := blk_frozen BK102.out 1
              have hfz78_2 := blk_frozen BK102.out 2
              have hfz78_3 := blk_frozen BK102.out 3
              have hfz78_4 := blk_frozen BK102.out 4
              go_wp2
              go_meet
              case rel => exact ⟨_, ((t108.toList == x103003_39.toList)), (by first | rfl | (simp; done) | (simp [*]; done)), H', ⟨by have := HJ3.out; have := HJ20.out; have := HJ39.out; have := HJ60.out; first | omega | exact Nat.le_refl _⟩, ⟨by (with_reducible repeat (first | refine blk_drewN ?_ _ | refine blk_drew ?_ | refine blk_alloc ?_ _)); exact BK101.out⟩, ⟨by (with_reducible repeat (first | refine blk_drewN ?_ _ | refine blk_drew ?_ | refine blk_alloc ?_ _)); exact BK102.out⟩, ⟨by repeat (first | (with_reducible first | exact HB.out | apply below_alloc | apply pw_below_drewN | apply below_drew1 | refine below_set ?_ GE101.out | refine below_set ?_ GE102.out) | exact HB.out)⟩⟩
            · rw [if_neg c75] at H
              have c75b0 : (x102002_20.toList == x103002_60.toList) = false := beq_eq_false_iff_ne.mpr c75
              have c75b1 : (x102002_20.toList != x103002_60.toList) = true := bne_iff_ne.mpr c75
              have H' := Aside0.mk H
              clear H
              have hnb79 := NB101_102.out
              have hnc79 := NB102_101.out
              have hcz80_0 : w72.cell? ⟨gb101, 0, none⟩ = some (.string t105) := HVia.bc BK101 0 rfl
              have hcz80_1 : w72.cell? ⟨gb101, 1, none⟩ = some (.string t106) := HVia.bc BK101 1 rfl
              have hcz80_2 : w72.cell? ⟨gb101, 2, none⟩ = some (.string x102002_20) := HVia.bc BK101 2 rfl
              have hcz80_3 : w72.cell? ⟨gb101, 3, none⟩ = some (.string t108) := HVia.bc BK101 3 rfl
              have hcz80_4 : w72.cell? ⟨gb101, 4, none⟩ = some (.string x102004_39) := HVia.bc BK101 4 rfl
              have hfz80_0 := blk_frozen BK101.out 0
              have hfz80_1 := blk_frozen BK101.out 1
              have hfz80_2 := blk_frozen BK101.out 2
              have hfz80_3 := blk_frozen BK101.out 3
              have hfz80_4 := blk_frozen BK101.out 4
              have hcz81_0 : w72.cell? ⟨gb102, 0, none⟩ = some (.string x103000_39) := HVia.bc BK102 0 rfl
              have hcz81_1 : w72.cell? ⟨gb102, 1, none⟩ = some (.string x103001_39) := HVia.bc BK102 1 rfl
              have hcz81_2 : w72.cell? ⟨gb102, 2, none⟩ = some (.string x103002_60) := HVia.bc BK102 2 rfl
              have hcz81_3 : w72.cell? ⟨gb102, 3, none⟩ = some (.string x103003_39) := HVia.bc BK102 3 rfl
              have hcz81_4 : w72.cell? ⟨gb102, 4, none⟩ = some (.string x103004_39) := HVia.bc BK102 4 rfl
              have hfz81_0 := blk_frozen BK102.out 0
              have hfz81_1 := blk_frozen BK102.out 1
              have hfz81_2 := blk_frozen BK102.out 2
              have hfz81_3 := blk_frozen BK102.out 3
              have hfz81_4 := blk_frozen BK102.out 4
              go_wp2
              go_meet
              case rel => exact ⟨_, (false), (by first | rfl | (simp; done) | (simp [*]; done)), H', ⟨by have := HJ3.out; have := HJ20.out; have := HJ39.out; have := HJ60.out; first | omega | exact Nat.le_refl _⟩, ⟨by (with_reducible repeat (first | refine blk_drewN ?_ _ | refine blk_drew ?_ | refine blk_alloc ?_ _)); exact BK101.out⟩, ⟨by (with_reducible repeat (first | refine blk_drewN ?_ _ | refine blk_drew ?_ | refine blk_alloc ?_ _)); exact BK102.out⟩, ⟨by repeat (first | (with_reducible first | exact HB.out | apply below_alloc | apply pw_below_drewN | apply below_drew1 | refine below_set ?_ GE101.out | refine below_set ?_ GE102.out) | exact HB.out)⟩⟩
          · rw [if_neg c74] at H
            have c74b0 : (t106.toList == x103001_39.toList) = false := beq_eq_false_iff_ne.mpr c74
            have c74b1 : (t106.toList != x103001_39.toList) = true := bne_iff_ne.mpr c74
            have H' := Aside0.mk H
            clear H
            have hnb82 := NB101_102.out
            have hnc82 := NB102_101.out
            have hcz83_0 : w72.cell? ⟨gb101, 0, none⟩ = some (.string t105) := HVia.bc BK101 0 rfl
            have hcz83_1 : w72.cell? ⟨gb101, 1, none⟩ = some (.string t106) := HVia.bc BK101 1 rfl
            have hcz83_2 : w72.cell? ⟨gb101, 2, none⟩ = some (.string x102002_20) := HVia.bc BK101 2 rfl
            have hcz83_3 : w72.cell? ⟨gb101, 3, none⟩ = some (.string t108) := HVia.bc BK101 3 rfl
            have hcz83_4 : w72.cell? ⟨gb101, 4, none⟩ = some (.string x102004_39) := HVia.bc BK101 4 rfl
            have hfz83_0 := blk_frozen BK101.out 0
            have hfz83_1 := blk_frozen BK101.out 1
            have hfz83_2 := blk_frozen BK101.out 2
            have hfz83_3 := blk_frozen BK101.out 3
            have hfz83_4 := blk_frozen BK101.out 4
            have hcz84_0 : w72.cell? ⟨gb102, 0, none⟩ = some (.string x103000_39) := HVia.bc BK102 0 rfl
            have hcz84_1 : w72.cell? ⟨gb102, 1, none⟩ = some (.string x103001_39) := HVia.bc BK102 1 rfl
            have hcz84_2 : w72.cell? ⟨gb102, 2, none⟩ = some (.string x103002_60) := HVia.bc BK102 2 rfl
            have hcz84_3 : w72.cell? ⟨gb102, 3, none⟩ = some (.string x103003_39) := HVia.bc BK102 3 rfl
            have hcz84_4 : w72.cell? ⟨gb102, 4, none⟩ = some (.string x103004_39) := HVia.bc BK102 4 rfl
            have hfz84_0 := blk_frozen BK102.out 0
            have hfz84_1 := blk_frozen BK102.out 1
            have hfz84_2 := blk_frozen BK102.out 2
            have hfz84_3 := blk_frozen BK102.out 3
            have hfz84_4 := blk_frozen BK102.out 4
            go_wp2
            go_meet
            case rel => exact ⟨_, (false), (by first | rfl | (simp; done) | (simp [*]; done)), H', ⟨by have := HJ3.out; have := HJ20.out; have := HJ39.out; have := HJ60.out; first | omega | exact Nat.le_refl _⟩, ⟨by (with_reducible repeat (first | refine blk_drewN ?_ _ | refine blk_drew ?_ | refine blk_alloc ?_ _)); exact BK101.out⟩, ⟨by (with_reducible repeat (first | refine blk_drewN ?_ _ | refine blk_drew ?_ | refine blk_alloc ?_ _)); exact BK102.out⟩, ⟨by repeat (first | (with_reducible first | exact HB.out | apply below_alloc | apply pw_below_drewN | apply below_drew1 | refine below_set ?_ GE101.out | refine below_set ?_ GE102.out) | exact HB.out)⟩⟩
        · rw [if_neg c73] at H
          have c73b0 : (t105.toList == x103000_39.toList) = false := beq_eq_false_iff_ne.mpr c73
          have c73b1 : (t105.toList != x103000_39.toList) = true := bne_iff_ne.mpr c73
          (first | rw [c73b0] | (simp only [i64_w, i32_w]; rw [c73b0]) | skip)
          have H' := Aside0.mk H
          clear H
          have hnb85 := NB101_102.out
          have hnc85 := NB102_101.out
          have hcz86_0 : w72.cell? ⟨gb101, 0, none⟩ = some (.string t105) := HVia.bc BK101 0 rfl
          have hcz86_1 : w72.cell? ⟨gb101, 1, none⟩ = some (.string t106) := HVia.bc BK101 1 rfl
          have hcz86_2 : w72.cell? ⟨gb101, 2, none⟩ = some (.string x102002_20) := HVia.bc BK101 2 rfl
          have hcz86_3 : w72.cell? ⟨gb101, 3, none⟩ = some (.string t108) := HVia.bc BK101 3 rfl
          have hcz86_4 : w72.cell? ⟨gb101, 4, none⟩ = some (.string x102004_39) := HVia.bc BK101 4 rfl
          have hfz86_0 := blk_frozen BK101.out 0
          have hfz86_1 := blk_frozen BK101.out 1
          have hfz86_2 := blk_frozen BK101.out 2
          have hfz86_3 := blk_frozen BK101.out 3
          have hfz86_4 := blk_frozen BK101.out 4
          have hcz87_0 : w72.cell? ⟨gb102, 0, none⟩ = some (.string x103000_39) := HVia.bc BK102 0 rfl
          have hcz87_1 : w72.cell? ⟨gb102, 1, none⟩ = some (.string x103001_39) := HVia.bc BK102 1 rfl
          have hcz87_2 : w72.cell? ⟨gb102, 2, none⟩ = some (.string x103002_60) := HVia.bc BK102 2 rfl
          have hcz87_3 : w72.cell? ⟨gb102, 3, none⟩ = some (.string x103003_39) := HVia.bc BK102 3 rfl
          have hcz87_4 : w72.cell? ⟨gb102, 4, none⟩ = some (.string x103004_39) := HVia.bc BK102 4 rfl
          have hfz87_0 := blk_frozen BK102.out 0
          have hfz87_1 := blk_frozen BK102.out 1
          have hfz87_2 := blk_frozen BK102.out 2
          have hfz87_3 := blk_frozen BK102.out 3
          have hfz87_4 := blk_frozen BK102.out 4
          go_wp2
          go_meet
          case rel => exact ⟨_, (false), (by first | rfl | (simp; done) | (simp [*]; done)), H', ⟨by have := HJ3.out; have := HJ20.out; have := HJ39.out; have := HJ60.out; first | omega | exact Nat.le_refl _⟩, ⟨by (with_reducible repeat (first | refine blk_drewN ?_ _ | refine blk_drew ?_ | refine blk_alloc ?_ _)); exact BK101.out⟩, ⟨by (with_reducible repeat (first | refine blk_drewN ?_ _ | refine blk_drew ?_ | refine blk_alloc ?_ _)); exact BK102.out⟩, ⟨by repeat (first | (with_reducible first | exact HB.out | apply below_alloc | apply pw_below_drewN | apply below_drew1 | refine below_set ?_ GE101.out | refine below_set ?_ GE102.out) | exact HB.out)⟩⟩
       clear HC68
       try clear c1
       try clear p2
       try clear c3
       try clear c4
       try clear c5
       try clear c6
       try clear c7
       try clear c8
       try clear c9
       try clear c10
       try clear c15
       try clear c18
       try clear c35
       try clear c37
       try clear c37b0
       try clear c37b1
       try clear c38
       try clear c41
       try clear c41b0
       try clear c41b1
       try clear c42
       try clear c45
       try clear c45b0
       try clear c45b1
       try clear c46
       try clear c49
       try clear c49b0
       try clear c49b1
       try clear c50
       try clear c53
       try clear c53b0
       try clear c53b1
       try clear c54
       try clear c57
       try clear c57b0
       try clear c57b1
       try clear c58
       try clear c62
       try clear c64
       try clear c64b0
       try clear c64b1
       try clear c65
       try clear c69
       try clear c73
       try clear c73b0
       try clear c73b1
       try clear c74
       try clear c74b0
       try clear c74b1
       try clear c75
       try clear c75b0
       try clear c75b1
       try clear c76
       try clear c79
       try clear c82
       try clear c85
       try clear hcz11_0
       try clear hcz11_1
       try clear hcz11_2
       try clear hcz11_3
       try clear hcz11_4
       try clear hcz13_0
       try clear hcz13_1
       try clear hcz13_2
       try clear hcz13_3
       try clear hcz13_4
       try clear hcz16_0
       try clear hcz16_1
       try clear hcz16_2
       try clear hcz16_3
       try clear hcz16_4
       try clear hcz36_0
       try clear hcz36_1
       try clear hcz36_2
       try clear hcz36_3
       try clear hcz36_4
       try clear hcz39_0
       try clear hcz39_1
       try clear hcz39_2
       try clear hcz39_3
       try clear hcz39_4
       try clear hcz43_0
       try clear hcz43_1
       try clear hcz43_2
       try clear hcz43_3
       try clear hcz43_4
       try clear hcz44_0
       try clear hcz44_1
       try clear hcz44_2
       try clear hcz44_3
       try clear hcz44_4
       try clear hcz47_0
       try clear hcz47_1
       try clear hcz47_2
       try clear hcz47_3
       try clear hcz47_4
       try clear hcz48_0
       try clear hcz48_1
       try clear hcz48_2
       try clear hcz48_3
       try clear hcz48_4
       try clear hcz51_0
       try clear hcz51_1
       try clear hcz51_2
       try clear hcz51_3
       try clear hcz51_4
       try clear hcz52_0
       try clear hcz52_1
       try clear hcz52_2
       try clear hcz52_3
       try clear hcz52_4
       try clear hcz55_0
       try clear hcz55_1
       try clear hcz55_2
       try clear hcz55_3
       try clear hcz55_4
       try clear hcz56_0
       try clear hcz56_1
       try clear hcz56_2
       try clear hcz56_3
       try clear hcz56_4
       try clear hcz59_0
       try clear hcz59_1
       try clear hcz59_2
       try clear hcz59_3
       try clear hcz59_4
       try clear hcz60_0
       try clear hcz60_1
       try clear hcz60_2
       try clear hcz60_3
       try clear hcz60_4
       try clear hcz63_0
       try clear hcz63_1
       try clear hcz63_2
       try clear hcz63_3
       try clear hcz63_4
       try clear hcz66_0
       try clear hcz66_1
       try clear hcz66_2
       try clear hcz66_3
       try clear hcz66_4
       try clear hcz70_0
       try clear hcz70_1
       try clear hcz70_2
       try clear hcz70_3
       try clear hcz70_4
       try clear hcz71_0
       try clear hcz71_1
       try clear hcz71_2
       try clear hcz71_3
       try clear hcz71_4
       try clear hcz77_0
       try clear hcz77_1
       try clear hcz77_2
       try clear hcz77_3
       try clear hcz77_4
       try clear hcz78_0
       try clear hcz78_1
       try clear hcz78_2
       try clear hcz78_3
       try clear hcz78_4
       try clear hcz80_0
       try clear hcz80_1
       try clear hcz80_2
       try clear hcz80_3
       try clear hcz80_4
       try clear hcz81_0
       try clear hcz81_1
       try clear hcz81_2
       try clear hcz81_3
       try clear hcz81_4
       try clear hcz83_0
       try clear hcz83_1
       try clear hcz83_2
       try clear hcz83_3
       try clear hcz83_4
       try clear hcz84_0
       try clear hcz84_1
       try clear hcz84_2
       try clear hcz84_3
       try clear hcz84_4
       try clear hcz86_0
       try clear hcz86_1
       try clear hcz86_2
       try clear hcz86_3
       try clear hcz86_4
       try clear hcz87_0
       try clear hcz87_1
       try clear hcz87_2
       try clear hcz87_3
       try clear hcz87_4
       try clear hfz11_0
       try clear hfz11_1
       try clear hfz11_2
       try clear hfz11_3
       try clear hfz11_4
       try clear hfz13_0
       try clear hfz13_1
       try clear hfz13_2
       try clear hfz13_3
       try clear hfz13_4
       try clear hfz16_0
       try clear hfz16_1
       try clear hfz16_2
       try clear hfz16_3
       try clear hfz16_4
       try clear hfz36_0
       try clear hfz36_1
       try clear hfz36_2
       try clear hfz36_3
       try clear hfz36_4
       try clear hfz39_0
       try clear hfz39_1
       try clear hfz39_2
       try clear hfz39_3
       try clear hfz39_4
       try clear hfz43_0
       try clear hfz43_1
       try clear hfz43_2
       try clear hfz43_3
       try clear hfz43_4
       try clear hfz44_0
       try clear hfz44_1
       try clear hfz44_2
       try clear hfz44_3
       try clear hfz44_4
       try clear hfz47_0
       try clear hfz47_1
       try clear hfz47_2
       try clear hfz47_3
       try clear hfz47_4
       try clear hfz48_0
       try clear hfz48_1
       try clear hfz48_2
       try clear hfz48_3
       try clear hfz48_4
       try clear hfz51_0
       try clear hfz51_1
       try clear hfz51_2
       try clear hfz51_3
       try clear hfz51_4
       try clear hfz52_0
       try clear hfz52_1
       try clear hfz52_2
       try clear hfz52_3
       try clear hfz52_4
       try clear hfz55_0
       try clear hfz55_1
       try clear hfz55_2
       try clear hfz55_3
       try clear hfz55_4
       try clear hfz56_0
       try clear hfz56_1
       try clear hfz56_2
       try clear hfz56_3
       try clear hfz56_4
       try clear hfz59_0
       try clear hfz59_1
       try clear hfz59_2
       try clear hfz59_3
       try clear hfz59_4
       try clear hfz60_0
       try clear hfz60_1
       try clear hfz60_2
       try clear hfz60_3
       try clear hfz60_4
       try clear hfz63_0
       try clear hfz63_1
       try clear hfz63_2
       try clear hfz63_3
       try clear hfz63_4
       try clear hfz66_0
       try clear hfz66_1
       try clear hfz66_2
       try clear hfz66_3
       try clear hfz66_4
       try clear hfz70_0
       try clear hfz70_1
       try clear hfz70_2
       try clear hfz70_3
       try clear hfz70_4
       try clear hfz71_0
       try clear hfz71_1
       try clear hfz71_2
       try clear hfz71_3
       try clear hfz71_4
       try clear hfz77_0
       try clear hfz77_1
       try clear hfz77_2
       try clear hfz77_3
       try clear hfz77_4
       try clear hfz78_0
       try clear hfz78_1
       try clear hfz78_2
       try clear hfz78_3
       try clear hfz78_4
       try clear hfz80_0
       try clear hfz80_1
       try clear hfz80_2
       try clear hfz80_3
       try clear hfz80_4
       try clear hfz81_0
       try clear hfz81_1
       try clear hfz81_2
       try clear hfz81_3
       try clear hfz81_4
       try clear hfz83_0
       try clear hfz83_1
       try clear hfz83_2
       try clear hfz83_3
       try clear hfz83_4
       try clear hfz84_0
       try clear hfz84_1
       try clear hfz84_2
       try clear hfz84_3
       try clear hfz84_4
       try clear hfz86_0
       try clear hfz86_1
       try clear hfz86_2
       try clear hfz86_3
       try clear hfz86_4
       try clear hfz87_0
       try clear hfz87_1
       try clear hfz87_2
       try clear hfz87_3
       try clear hfz87_4
       try clear p2
       obtain ⟨kq, x11_67, rfl, HA, HJ67, BK101, BK102, HB⟩ := hcut
       cases kq with
       | zero => exact absurd HA.out (by simp [laws_FnIdEqual.j4])
       | succ kj67 =>
        have H := HA.out
        clear HA
        simp only [laws_FnIdEqual.j4] at H
        have HC88 := Aside0.mk H
        clear H
        go_upto_region 25 with (fail)
        go_cut [12] (fun v12 wc => ∃ (kq : Nat) (x12_87 : Bool), v12 = .bool x12_87 ∧ Aside0 (laws_FnIdEqual.j5 kq t115 t116 t117 x11_67 x12_87 t105 t106 x102002_20 t108 x102004_39 x103000_39 x103001_39 x103002_60 x103003_39 x103004_39 = some r) ∧ Aside0 (kq ≤ kj67) ∧ Aside0 (wc.heap[gb101]? = some (.cells #[.string t105, .string t106, .string x102002_20, .string t108, .string x102004_39] 23 (0, 0))) ∧ Aside0 (wc.heap[gb102]? = some (.cells #[.string x103000_39, .string x103001_39, .string x103002_60, .string x103003_39, .string x103004_39] 23 (0, 0))) ∧ Aside0 (Below w.heap.size w wc))
        case first =>
         have H := HC88.out
         clear HC88
         replace H := Option.bind_eq_some_iff.mp H
         obtain ⟨t118, A890, H⟩ := H
         replace H : (if t118 = true then (if x103003_39.toList = ([] : List UInt8) then (if x103004_39.toList = ([] : List UInt8) then (laws_FnIdEqual.j5 kj67 t115 t116 t117 x11_67 true t105 t106 x102002_20 t108 x102004_39 x103000_39 x103001_39 x103002_60 x103003_39 x103004_39) else ((laws_FnIdEqual_1.f x103000_39 x103001_39 x103002_60 x103003_39 x103004_39).bind fun t119 => ((laws_FnIdEqual_1.f t105 t106 x102002_20 t108 x102004_39).bind fun t120 => (laws_FnIdEqual.j5 kj67 t115 t116 t117 x11_67 (t119.toList == t120.toList) t105 t106 x102002_20 t108 x102004_39 x103000_39 x103001_39 x103002_60 x103003_39 x103004_39)))) else (if x103003_39.toList = t108.toList then (if x103004_39.toList = ([] : List UInt8) then (laws_FnIdEqual.j5 kj67 t115 t116 t117 x11_67 true t105 t106 x102002_20 t108 x102004_39 x103000_39 x103001_39 x103002_60 x103003_39 x103004_39) else ((laws_FnIdEqual_1.f x103000_39 x103001_39 x103002_60 x103003_39 x103004_39).bind fun t121 => ((laws_FnIdEqual_1.f t105 t106 x102002_20 t108 x102004_39).bind fun t122 => (laws_FnIdEqual.j5 kj67 t115 t116 t117 x11_67 (t121.toList == t122.toList) t105 t106 x102002_20 t108 x102004_39 x103000_39 x103001_39 x103002_60 x103003_39 x103004_39)))) else (laws_FnIdEqual.j5 kj67 t115 t116 t117 x11_67 false t105 t106 x102002_20 t108 x102004_39 x103000_39 x103001_39 x103002_60 x103003_39 x103004_39))) else (laws_FnIdEqual.j5 kj67 t115 t116 t117 x11_67 false t105 t106 x102002_20 t108 x102004_39 x103000_39 x103001_39 x103002_60 x103003_39 x103004_39)) = some r := H
         have A89 := Aside0.mk A890
         clear A890
         by_cases c90 : t118 = true
         · subst c90
           have H1 : (if x103003_39.toList = ([] : List UInt8) then (if x103004_39.toList = ([] : List UInt8) then (laws_FnIdEqual.j5 kj67 t115 t116 t117 x11_67 true t105 t106 x102002_20 t108 x102004_39 x103000_39 x103001_39 x103002_60 x103003_39 x103004_39) else ((laws_FnIdEqual_1.f x103000_39 x103001_39 x103002_60 x103003_39 x103004_39).bind fun t119 => ((laws_FnIdEqual_1.f t105 t106 x102002_20 t108 x102004_39).bind fun t120 => (laws_FnIdEqual.j5 kj67 t115 t116 t117 x11_67 (t119.toList == t120.toList) t105 t106 x102002_20 t108 x102004_39 x103000_39 x103001_39 x103002_60 x103003_39 x103004_39)))) else (if x103003_39.toList = t108.toList then (if x103004_39.toList = ([] : List UInt8) then (laws_FnIdEqual.j5 kj67 t115 t116 t117 x11_67 true t105 t106 x102002_20 t108 x102004_39 x103000_39 x103001_39 x103002_60 x103003_39 x103004_39) else ((laws_FnIdEqual_1.f x103000_39 x103001_39 x103002_60 x103003_39 x103004_39).bind fun t121 => ((laws_FnIdEqual_1.f t105 t106 x102002_20 t108 x102004_39).bind fun t122 => (laws_FnIdEqual.j5 kj67 t115 t116 t117 x11_67 (t121.toList == t122.toList) t105 t106 x102002_20 t108 x102004_39 x103000_39 x103001_39 x103002_60 x103003_39 x103004_39)))) else (laws_FnIdEqual.j5 kj67 t115 t116 t117 x11_67 false t105 t106 x102002_20 t108 x102004_39 x103000_39 x103001_39 x103002_60 x103003_39 x103004_39))) = some r := by rw [if_pos rfl] at H; exact H
           clear H
           have H := H1
           clear H1
           by_cases c91 : x103003_39.toList = ([] : List UInt8)
           · rw [if_pos c91] at H
             have c91b0 : (x103003_39.toList == ([] : List UInt8)) = true := beq_iff_eq.mpr c91
             have c91b1 : (x103003_39.toList != ([] : List UInt8)) = false := bne_eq_false_iff_eq.mpr c91
             clear c91
             (first | rw [c91b0] | (simp only [i64_w, i32_w]; rw [c91b0]) | (rw [HVia.isE c91b0]; (try simp only [Bool.not_true, Bool.not_false])) | skip)
             by_cases c92 : x103004_39.toList = ([] : List UInt8)
             · rw [if_pos c92] at H
               have c92b0 : (x103004_39.toList == ([] : List UInt8)) = true := beq_iff_eq.mpr c92
               have c92b1 : (x103004_39.toList != ([] : List UInt8)) = false := bne_eq_false_iff_eq.mpr c92
               clear c92
               have H' := Aside0.mk H
               clear H
               try go_wp2
               have n0_ := Aside0.mk (blk_drew BK101.out)
               have n1_ := Aside0.mk (blk_drew BK102.out)
               have n2_ := Aside0.mk (below_drew1 HB.out)
               clear BK101
               clear BK102
               clear HB
               have BK101 := n0_
               have BK102 := n1_
               have HB := n2_
               clear n0_ n1_ n2_
               as_aux_lemma =>
                refine start_ (n := 30) (S := fun w' => w'.cell? ⟨gb101, 0, none⟩ = some (.string t105) ∧ w'.cell? ⟨gb101, 1, none⟩ = some (.string t106) ∧ w'.cell? ⟨gb101, 2, none⟩ = some (.string x102002_20) ∧ w'.cell? ⟨gb101, 3, none⟩ = some (.string t108) ∧ w'.cell? ⟨gb101, 4, none⟩ = some (.string x102004_39) ∧ w'.cell? ⟨gb102, 0, none⟩ = some (.string x103000_39) ∧ w'.cell? ⟨gb102, 1, none⟩ = some (.string x103001_39) ∧ w'.cell? ⟨gb102, 2, none⟩ = some (.string x103002_60) ∧ w'.cell? ⟨gb102, 3, none⟩ = some (.string x103003_39) ∧ w'.cell? ⟨gb102, 4, none⟩ = some (.string x103004_39)) (ds := []) b8_ (by kernel_rfl) rfl rfl ⟨HVia.bc BK101 0 rfl, HVia.bc BK101 1 rfl, HVia.bc BK101 2 rfl, HVia.bc BK101 3 rfl, HVia.bc BK101 4 rfl, HVia.bc BK102 0 rfl, HVia.bc BK102 1 rfl, HVia.bc BK102 2 rfl, HVia.bc BK102 3 rfl, HVia.bc BK102 4 rfl⟩ (fun hHeld => ?_); refine with_tabW laws_FnIdEqual.tab25 laws_FnIdEqual.bits25 (fun HT_ HW_ => ?_)
                generalize wc.drew = w93 at BK101 BK102 HB hHeld ⊢
                refine take_ (i := 0) (N := some 92) (v := ?_) (a' := ?_) b9_ rfl rfl (take_ofW HT_.out HW_.out (by kernel_rfl)) (fun _ _ _ h => h) (Or.inl ⟨by rfl, ?_⟩) hHeld ?_ ?_
                rotate_left
                · rintro w' ⟨s0, s1, s2, s3, s4, s5, s6, s7, s8, s9⟩
                  go_simp
                  with_reducible rfl
                rotate_left
                · simp only [Act.put, List.setIfInBounds_toArray, List.set_cons_zero, List.set_cons_succ, i64_w, i32_w]
                  rfl
                refine HVia.tS 1 93 b10_ HT_ HW_ (by kernel_rfl) rfl rfl (fun _ _ _ h => h) hHeld (by rfl) (by rintro w' ⟨s0, s1, s2, s3, s4, s5, s6, s7, s8, s9⟩; go_simp; with_reducible rfl) (by simp only [List.set_cons_zero, List.set_cons_succ]; rfl) ?_
                refine one_ (i := 2) (N := some 94) b11_ rfl rfl (one_of HT_.out (by kernel_rfl)) (by decide) (fun K hK => ?_)
                refine goes_ Try.func10 (by kernel_rfl) rfl #[.agg #[.string t105, .string t106, .string x102002_20, .string t108, .string x102004_39], .agg #[.string x103000_39, .string x103001_39, .string x103002_60, .string x103003_39, .string x103004_39]] (by rfl) rfl rfl (by (try simp only [List.map_toArray, List.map_cons, List.map_nil]); first | done | rfl | (simp only [List.length_drop, List.length_take]; rfl)) ?_
                with_reducible refine (spec_KySelected.calls t105 t106 x102002_20 t108 x102004_39 x103000_39 x103001_39 x103002_60 x103003_39 x103004_39 true _ A89.out).mono ?_
                rintro e w94 ⟨rfl, hb⟩
                refine ⟨_, rfl, ?_⟩
                have n0_ := Aside0.mk (blk_below (g := gb101) (o := .cells #[.string t105, .string t106, .string x102002_20, .string t108, .string x102004_39] 23 (0, 0)) (by (with_reducible repeat (first | refine blk_drewN ?_ _ | refine blk_drew ?_ | refine blk_alloc ?_ _)); exact BK101.out) hb)
                have n1_ := Aside0.mk (blk_below (g := gb102) (o := .cells #[.string x103000_39, .string x103001_39, .string x103002_60, .string x103003_39, .string x103004_39] 23 (0, 0)) (by (with_reducible repeat (first | refine blk_drewN ?_ _ | refine blk_drew ?_ | refine blk_alloc ?_ _)); exact BK102.out) hb)
                have n2_ := Aside0.mk (below_step (by repeat (first | (with_reducible first | exact HB.out | apply below_alloc | apply pw_below_drewN | apply below_drew1 | refine below_set ?_ GE101.out | refine below_set ?_ GE102.out) | exact HB.out)) hb)
                clear BK101
                clear BK102
                clear HB
                have BK101 := n0_
                have BK102 := n1_
                have HB := n2_
                clear n0_ n1_ n2_
                (try clear hb)
                (try clear hb2)
                (try clear hk)
                (try clear hi)
                refine hK.out _ _ ⟨HVia.bc BK101 0 rfl, HVia.bc BK101 1 rfl, HVia.bc BK101 2 rfl, HVia.bc BK101 3 rfl, HVia.bc BK101 4 rfl, HVia.bc BK102 0 rfl, HVia.bc BK102 1 rfl, HVia.bc BK102 2 rfl, HVia.bc BK102 3 rfl, HVia.bc BK102 4 rfl⟩ (fun hHeld => ?_)
                clear hK K
                refine norm_ (a' := ?_) ?_ ?_
                rotate_left
                · show Act.put _ (some 94) _ = _
                  simp only [Act.put, List.setIfInBounds_toArray, List.set_cons_zero, List.set_cons_succ, i64_w, i32_w]
                  rfl
                refine HVia.pS 3 95 b12_ HT_ (by kernel_rfl) rfl rfl (fun _ _ _ h => h) (by rfl) (by intro w'; go_simp; with_reducible rfl) (by simp only [List.set_cons_zero, List.set_cons_succ]; rfl) ?_
                refine HVia.pS 4 96 b13_ HT_ (by kernel_rfl) rfl rfl (fun _ _ _ h => h) (by rfl) (by intro w'; go_simp; with_reducible rfl) (by simp only [List.set_cons_zero, List.set_cons_succ]; rfl) ?_
                refine HVia.tS 5 97 b14_ HT_ HW_ (by kernel_rfl) rfl rfl (fun _ _ _ h => h) hHeld (by rfl) (by rintro w' ⟨s0, s1, s2, s3, s4, s5, s6, s7, s8, s9⟩; go_simp; with_reducible rfl) (by simp only [List.set_cons_zero, List.set_cons_succ]; rfl) ?_
                refine HVia.pS 6 98 b15_ HT_ (by kernel_rfl) rfl rfl (fun _ _ _ h => h) (by rfl) (by intro w'; go_simp; with_reducible rfl) (by simp only [List.set_cons_zero, List.set_cons_succ]; rfl) ?_
                refine HVia.pS 7 99 b16_ HT_ (by kernel_rfl) rfl rfl (fun _ _ _ h => h) (by rfl) (by intro w'; go_simp; with_reducible rfl) (by simp only [List.set_cons_zero, List.set_cons_succ]; rfl) ?_
                refine HVia.pU 8 100 b17_ HT_ (by kernel_rfl) rfl rfl (fun _ _ _ h => h) (by rfl) (by simp only [List.set_cons_zero, List.set_cons_succ]; rfl) ?_
                refine HVia.pU 9 101 b18_ HT_ (by kernel_rfl) rfl rfl (fun _ _ _ h => h) (by rfl) (by simp only [List.set_cons_zero, List.set_cons_succ]; rfl) ?_
                refine HVia.pU 10 102 b19_ HT_ (by kernel_rfl) rfl rfl (fun _ _ _ h => h) (by rfl) (by simp only [List.set_cons_zero, List.set_cons_succ]; rfl) ?_
                refine HVia.pU 11 103 b20_ HT_ (by kernel_rfl) rfl rfl (fun _ _ _ h => h) (by rfl) (by simp only [List.set_cons_zero, List.set_cons_succ]; rfl) ?_
                refine HVia.pU 12 104 b21_ HT_ (by kernel_rfl) rfl rfl (fun _ _ _ h => h) (by rfl) (by simp only [List.set_cons_zero, List.set_cons_succ]; rfl) ?_
                refine HVia.pS 13 105 b22_ HT_ (by kernel_rfl) rfl rfl (fun _ _ _ h => h) (by rfl) (by intro w'; go_simp; with_reducible rfl) (by simp only [List.set_cons_zero, List.set_cons_succ]; rfl) ?_
                refine HVia.pS 14 106 b23_ HT_ (by kernel_rfl) rfl rfl (fun _ _ _ h => h) (by rfl) (by intro w'; go_simp; with_reducible rfl) (by simp only [List.set_cons_zero, List.set_cons_succ]; rfl) ?_
                refine HVia.pS 15 107 b24_ HT_ (by kernel_rfl) rfl rfl (fun _ _ _ h => h) (by rfl) (by intro w'; go_simp; with_reducible rfl) (by simp only [List.set_cons_zero, List.set_cons_succ]; rfl) ?_
                refine HVia.pS 16 108 b25_ HT_ (by kernel_rfl) rfl rfl (fun _ _ _ h => h) (by rfl) (by intro w'; go_simp; with_reducible rfl) (by simp only [List.set_cons_zero, List.set_cons_succ]; rfl) ?_
                refine HVia.tS 17 109 b26_ HT_ HW_ (by kernel_rfl) rfl rfl (fun _ _ _ h => h) hHeld (by rfl) (by rintro w' ⟨s0, s1, s2, s3, s4, s5, s6, s7, s8, s9⟩; go_simp; with_reducible rfl) (by simp only [List.set_cons_zero, List.set_cons_succ]; rfl) ?_
                refine HVia.pS 18 110 b27_ HT_ (by kernel_rfl) rfl rfl (fun _ _ _ h => h) (by rfl) (by intro w'; go_simp; with_reducible rfl) (by simp only [List.set_cons_zero, List.set_cons_succ]; rfl) ?_
                refine HVia.pS 19 111 b28_ HT_ (by kernel_rfl) rfl rfl (fun _ _ _ h => h) (by rfl) (by intro w'; go_simp; with_reducible rfl) (by simp only [List.set_cons_zero, List.set_cons_succ]; rfl) ?_
                refine HVia.pU 20 112 b29_ HT_ (by kernel_rfl) rfl rfl (fun _ _ _ h => h) (by rfl) (by simp only [List.set_cons_zero, List.set_cons_succ]; rfl) ?_
                refine HVia.pU 21 113 b30_ HT_ (by kernel_rfl) rfl rfl (fun _ _ _ h => h) (by rfl) (by simp only [List.set_cons_zero, List.set_cons_succ]; rfl) ?_
                refine HVia.pU 22 114 b31_ HT_ (by kernel_rfl) rfl rfl (fun _ _ _ h => h) (by rfl) (by simp only [List.set_cons_zero, List.set_cons_succ]; rfl) ?_
                refine HVia.pU 23 115 b32_ HT_ (by kernel_rfl) rfl rfl (fun _ _ _ h => h) (by rfl) (by simp only [List.set_cons_zero, List.set_cons_succ]; rfl) ?_
                refine HVia.pU 24 116 b33_ HT_ (by kernel_rfl) rfl rfl (fun _ _ _ h => h) (by rfl) (by simp only [List.set_cons_zero, List.set_cons_succ]; rfl) ?_
                refine HVia.pU 25 117 b34_ HT_ (by kernel_rfl) rfl rfl (fun _ _ _ h => h) (by rfl) (by simp only [List.set_cons_zero, List.set_cons_succ]; rfl) ?_
                refine HVia.pU 26 118 b35_ HT_ (by kernel_rfl) rfl rfl (fun _ _ _ h => h) (by rfl) (by simp only [List.set_cons_zero, List.set_cons_succ]; rfl) ?_
                refine HVia.pS 27 119 b36_ HT_ (by kernel_rfl) rfl rfl (fun _ _ _ h => h) (by rfl) (by intro w'; go_simp; with_reducible rfl) (by simp only [List.set_cons_zero, List.set_cons_succ]; rfl) ?_
                refine HVia.pS 28 120 b37_ HT_ (by kernel_rfl) rfl rfl (fun _ _ _ h => h) (by rfl) (by intro w'; go_simp; with_reducible rfl) (by simp only [List.set_cons_zero, List.set_cons_succ]; rfl) ?_
                refine HVia.pS 29 12 b38_ HT_ (by kernel_rfl) rfl rfl (fun _ _ _ h => h) (by rfl) (by intro w'; go_simp; with_reducible rfl) (by simp only [List.set_cons_zero, List.set_cons_succ]; rfl) ?_
                refine done_ (done_of HT_.out (by kernel_rfl)) ?_
                try go_wp2
                go_meet
                case rel => exact ⟨_, (true), (by first | rfl | (simp; done) | (simp [*]; done)), H', ⟨by have := HJ3.out; have := HJ20.out; have := HJ39.out; have := HJ60.out; have := HJ67.out; first | omega | exact Nat.le_refl _⟩, ⟨by (with_reducible repeat (first | refine blk_drewN ?_ _ | refine blk_drew ?_ | refine blk_alloc ?_ _)); exact BK101.out⟩, ⟨by (with_reducible repeat (first | refine blk_drewN ?_ _ | refine blk_drew ?_ | refine blk_alloc ?_ _)); exact BK102.out⟩, ⟨by repeat (first | (with_reducible first | exact HB.out | apply below_alloc | apply pw_below_drewN | apply below_drew1 | refine below_set ?_ GE101.out | refine below_set ?_ GE102.out) | exact HB.out)⟩⟩
             · rw [if_neg c92] at H
               have c92b0 : (x103004_39.toList == ([] : List UInt8)) = false := beq_eq_false_iff_ne.mpr c92
               have c92b1 : (x103004_39.toList != ([] : List UInt8)) = true := bne_iff_ne.mpr c92
               replace H := Option.bind_eq_some_iff.mp H
               obtain ⟨t119, A950, H⟩ := H
               replace H : ((laws_FnIdEqual_1.f t105 t106 x102002_20 t108 x102004_39).bind fun t120 => (laws_FnIdEqual.j5 kj67 t115 t116 t117 x11_67 (t119.toList == t120.toList) t105 t106 x102002_20 t108 x102004_39 x103000_39 x103001_39 x103002_60 x103003_39 x103004_39)) = some r := H
               have A95 := Aside0.mk A950
               clear A950
               replace H := Option.bind_eq_some_iff.mp H
               obtain ⟨t120, A960, H⟩ := H
               replace H : (laws_FnIdEqual.j5 kj67 t115 t116 t117 x11_67 (t119.toList == t120.toList) t105 t106 x102002_20 t108 x102004_39 x103000_39 x103001_39 x103002_60 x103003_39 x103004_39) = some r := H
               have A96 := Aside0.mk A960
               clear A960
               have H' := Aside0.mk H
               clear H
               try go_wp2
               have n0_ := Aside0.mk (blk_drew BK101.out)
               have n1_ := Aside0.mk (blk_drew BK102.out)
               have n2_ := Aside0.mk (below_drew1 HB.out)
               clear BK101
               clear BK102
               clear HB
               have BK101 := n0_
               have BK102 := n1_
               have HB := n2_
               clear n0_ n1_ n2_
               as_aux_lemma =>
                refine start_ (n := 30) (S := fun w' => w'.cell? ⟨gb101, 0, none⟩ = some (.string t105) ∧ w'.cell? ⟨gb101, 1, none⟩ = some (.string t106) ∧ w'.cell? ⟨gb101, 2, none⟩ = some (.string x102002_20) ∧ w'.cell? ⟨gb101, 3, none⟩ = some (.string t108) ∧ w'.cell? ⟨gb101, 4, none⟩ = some (.string x102004_39) ∧ w'.cell? ⟨gb102, 0, none⟩ = some (.string x103000_39) ∧ w'.cell? ⟨gb102, 1, none⟩ = some (.string x103001_39) ∧ w'.cell? ⟨gb102, 2, none⟩ = some (.string x103002_60) ∧ w'.cell? ⟨gb102, 3, none⟩ = some (.string x103003_39) ∧ w'.cell? ⟨gb102, 4, none⟩ = some (.string x103004_39)) (ds := []) b8_ (by kernel_rfl) rfl rfl ⟨HVia.bc BK101 0 rfl, HVia.bc BK101 1 rfl, HVia.bc BK101 2 rfl, HVia.bc BK101 3 rfl, HVia.bc BK101 4 rfl, HVia.bc BK102 0 rfl, HVia.bc BK102 1 rfl, HVia.bc BK102 2 rfl, HVia.bc BK102 3 rfl, HVia.bc BK102 4 rfl⟩ (fun hHeld => ?_); refine with_tabW laws_FnIdEqual.tab25 laws_FnIdEqual.bits25 (fun HT_ HW_ => ?_)
                generalize wc.drew = w97 at BK101 BK102 HB hHeld ⊢
                refine take_ (i := 0) (N := some 92) (v := ?_) (a' := ?_) b9_ rfl rfl (take_ofW HT_.out HW_.out (by kernel_rfl)) (fun _ _ _ h => h) (Or.inl ⟨by rfl, ?_⟩) hHeld ?_ ?_
                rotate_left
                · rintro w' ⟨s0, s1, s2, s3, s4, s5, s6, s7, s8, s9⟩
                  go_simp
                  with_reducible rfl
                rotate_left
                · simp only [Act.put, List.setIfInBounds_toArray, List.set_cons_zero, List.set_cons_succ, i64_w, i32_w]
                  rfl
                refine HVia.tS 1 93 b10_ HT_ HW_ (by kernel_rfl) rfl rfl (fun _ _ _ h => h) hHeld (by rfl) (by rintro w' ⟨s0, s1, s2, s3, s4, s5, s6, s7, s8, s9⟩; go_simp; with_reducible rfl) (by simp only [List.set_cons_zero, List.set_cons_succ]; rfl) ?_
                refine one_ (i := 2) (N := some 94) b11_ rfl rfl (one_of HT_.out (by kernel_rfl)) (by decide) (fun K hK => ?_)
                refine goes_ Try.func10 (by kernel_rfl) rfl #[.agg #[.string t105, .string t106, .string x102002_20, .string t108, .string x102004_39], .agg #[.string x103000_39, .string x103001_39, .string x103002_60, .string x103003_39, .string x103004_39]] (by rfl) rfl rfl (by (try simp only [List.map_toArray, List.map_cons, List.map_nil]); first | done | rfl | (simp only [List.length_drop, List.length_take]; rfl)) ?_
                with_reducible refine (spec_KySelected.calls t105 t106 x102002_20 t108 x102004_39 x103000_39 x103001_39 x103002_60 x103003_39 x103004_39 true _ A89.out).mono ?_
                rintro e w98 ⟨rfl, hb⟩
                refine ⟨_, rfl, ?_⟩
                have n0_ := Aside0.mk (blk_below (g := gb101) (o := .cells #[.string t105, .string t106, .string x102002_20, .string t108, .string x102004_39] 23 (0, 0)) (by (with_reducible repeat (first | refine blk_drewN ?_ _ | refine blk_drew ?_ | refine blk_alloc ?_ _)); exact BK101.out) hb)
                have n1_ := Aside0.mk (blk_below (g := gb102) (o := .cells #[.string x103000_39, .string x103001_39, .string x103002_60, .string x103003_39, .string x103004_39] 23 (0, 0)) (by (with_reducible repeat (first | refine blk_drewN ?_ _ | refine blk_drew ?_ | refine blk_alloc ?_ _)); exact BK102.out) hb)
                have n2_ := Aside0.mk (below_step (by repeat (first | (with_reducible first | exact HB.out | apply below_alloc | apply pw_below_drewN | apply below_drew1 | refine below_set ?_ GE101.out | refine below_set ?_ GE102.out) | exact HB.out)) hb)
                clear BK101
                clear BK102
                clear HB
                have BK101 := n0_
                have BK102 := n1_
                have HB := n2_
                clear n0_ n1_ n2_
                (try clear hb)
                (try clear hb2)
                (try clear hk)
                (try clear hi)
                refine hK.out _ _ ⟨HVia.bc BK101 0 rfl, HVia.bc BK101 1 rfl, HVia.bc BK101 2 rfl, HVia.bc BK101 3 rfl, HVia.bc BK101 4 rfl, HVia.bc BK102 0 rfl, HVia.bc BK102 1 rfl, HVia.bc BK102 2 rfl, HVia.bc BK102 3 rfl, HVia.bc BK102 4 rfl⟩ (fun hHeld => ?_)
                clear hK K
                refine norm_ (a' := ?_) ?_ ?_
                rotate_left
                · show Act.put _ (some 94) _ = _
                  simp only [Act.put, List.setIfInBounds_toArray, List.set_cons_zero, List.set_cons_succ, i64_w, i32_w]
                  rfl
                refine HVia.pS 3 95 b12_ HT_ (by kernel_rfl) rfl rfl (fun _ _ _ h => h) (by rfl) (by intro w'; go_simp; with_reducible rfl) (by simp only [List.set_cons_zero, List.set_cons_succ]; rfl) ?_
                refine HVia.pS 4 96 b13_ HT_ (by kernel_rfl) rfl rfl (fun _ _ _ h => h) (by rfl) (by intro w'; go_simp; with_reducible rfl) (by simp only [List.set_cons_zero, List.set_cons_succ]; rfl) ?_
                refine HVia.tS 5 97 b14_ HT_ HW_ (by kernel_rfl) rfl rfl (fun _ _ _ h => h) hHeld (by rfl) (by rintro w' ⟨s0, s1, s2, s3, s4, s5, s6, s7, s8, s9⟩; go_simp; with_reducible rfl) (by simp only [List.set_cons_zero, List.set_cons_succ]; rfl) ?_
                refine HVia.pS 6 98 b15_ HT_ (by kernel_rfl) rfl rfl (fun _ _ _ h => h) (by rfl) (by intro w'; go_simp; with_reducible rfl) (by simp only [List.set_cons_zero, List.set_cons_succ]; rfl) ?_
                refine HVia.pS 7 99 b16_ HT_ (by kernel_rfl) rfl rfl (fun _ _ _ h => h) (by rfl) (by intro w'; go_simp; with_reducible rfl) (by simp only [List.set_cons_zero, List.set_cons_succ]; rfl) ?_
                refine HVia.pU 8 100 b17_ HT_ (by kernel_rfl) rfl rfl (fun _ _ _ h => h) (by rfl) (by simp only [List.set_cons_zero, List.set_cons_succ]; rfl) ?_
                refine HVia.pU 9 101 b18_ HT_ (by kernel_rfl) rfl rfl (fun _ _ _ h => h) (by rfl) (by simp only [List.set_cons_zero, List.set_cons_succ]; rfl) ?_
                refine HVia.pU 10 102 b19_ HT_ (by kernel_rfl) rfl rfl (fun _ _ _ h => h) (by rfl) (by simp only [List.set_cons_zero, List.set_cons_succ]; rfl) ?_
                refine HVia.pU 11 103 b20_ HT_ (by kernel_rfl) rfl rfl (fun _ _ _ h => h) (by rfl) (by simp only [List.set_cons_zero, List.set_cons_succ]; rfl) ?_
                refine HVia.pU 12 104 b21_ HT_ (by kernel_rfl) rfl rfl (fun _ _ _ h => h) (by rfl) (by simp only [List.set_cons_zero, List.set_cons_succ]; rfl) ?_
                refine HVia.pS 13 105 b22_ HT_ (by kernel_rfl) rfl rfl (fun _ _ _ h => h) (by rfl) (by intro w'; go_simp; with_reducible rfl) (by simp only [List.set_cons_zero, List.set_cons_succ]; rfl) ?_
                refine HVia.pS 14 106 b23_ HT_ (by kernel_rfl) rfl rfl (fun _ _ _ h => h) (by rfl) (by intro w'; go_simp; with_reducible rfl) (by simp only [List.set_cons_zero, List.set_cons_succ]; rfl) ?_
                refine HVia.pS 15 107 b24_ HT_ (by kernel_rfl) rfl rfl (fun _ _ _ h => h) (by rfl) (by intro w'; go_simp; with_reducible rfl) (by simp only [List.set_cons_zero, List.set_cons_succ]; rfl) ?_
                refine HVia.pS 16 108 b25_ HT_ (by kernel_rfl) rfl rfl (fun _ _ _ h => h) (by rfl) (by intro w'; go_simp; with_reducible rfl) (by simp only [List.set_cons_zero, List.set_cons_succ]; rfl) ?_
                refine HVia.tS 17 109 b26_ HT_ HW_ (by kernel_rfl) rfl rfl (fun _ _ _ h => h) hHeld (by rfl) (by rintro w' ⟨s0, s1, s2, s3, s4, s5, s6, s7, s8, s9⟩; go_simp; with_reducible rfl) (by simp only [List.set_cons_zero, List.set_cons_succ]; rfl) ?_
                refine HVia.pS 18 110 b27_ HT_ (by kernel_rfl) rfl rfl (fun _ _ _ h => h) (by rfl) (by intro w'; go_simp; with_reducible rfl) (by simp only [List.set_cons_zero, List.set_cons_succ]; rfl) ?_
                refine HVia.pS 19 111 b28_ HT_ (by kernel_rfl) rfl rfl (fun _ _ _ h => h) (by rfl) (by intro w'; go_simp; with_reducible rfl) (by simp only [List.set_cons_zero, List.set_cons_succ]; rfl) ?_
                refine HVia.pS 20 112 b29_ HT_ (by kernel_rfl) rfl rfl (fun _ _ _ h => h) (by rfl) (by intro w'; go_simp; with_reducible rfl) (by simp only [List.set_cons_zero, List.set_cons_succ]; rfl) ?_
                refine HVia.pS 23 115 b39_ HT_ (by kernel_rfl) rfl rfl (fun _ _ _ h => h) (by rfl) (by intro w'; go_simp; with_reducible rfl) (by simp only [List.set_cons_zero, List.set_cons_succ]; rfl) ?_
                refine HVia.tS 21 113 b40_ HT_ HW_ (by kernel_rfl) rfl rfl (fun _ _ _ h => h) hHeld (by rfl) (by rintro w' ⟨s0, s1, s2, s3, s4, s5, s6, s7, s8, s9⟩; go_simp; with_reducible rfl) (by simp only [List.set_cons_zero, List.set_cons_succ]; rfl) ?_
                refine HVia.tS 24 116 b41_ HT_ HW_ (by kernel_rfl) rfl rfl (fun _ _ _ h => h) hHeld (by rfl) (by rintro w' ⟨s0, s1, s2, s3, s4, s5, s6, s7, s8, s9⟩; go_simp; with_reducible rfl) (by simp only [List.set_cons_zero, List.set_cons_succ]; rfl) ?_
                refine one_ (i := 22) (N := some 114) b33_ rfl rfl (one_of HT_.out (by kernel_rfl)) (by decide) (fun K hK => ?_)
                refine HVia.goesT_ Try.func8 (by kernel_rfl) rfl #[.agg #[.string x103000_39, .string x103001_39, .string x103002_60, .string x103003_39, .string x103004_39]] (by rfl) rfl rfl rfl (by (try simp only [List.map_toArray, List.map_cons, List.map_nil]); first | done | rfl | (simp only [List.length_drop, List.length_take]; rfl)) ?_
                with_reducible refine (laws_FnIdEqual_1.calls x103000_39 x103001_39 x103002_60 x103003_39 x103004_39 t119 _ A95.out).mono ?_
                rintro e w99 ⟨rfl, hb⟩
                refine ⟨_, rfl, ?_⟩
                have n0_ := Aside0.mk (blk_below (g := gb101) (o := .cells #[.string t105, .string t106, .string x102002_20, .string t108, .string x102004_39] 23 (0, 0)) (by (with_reducible repeat (first | refine blk_drewN ?_ _ | refine blk_drew ?_ | refine blk_alloc ?_ _)); exact BK101.out) hb)
                have n1_ := Aside0.mk (blk_below (g := gb102) (o := .cells #[.string x103000_39, .string x103001_39, .string x103002_60, .string x103003_39, .string x103004_39] 23 (0, 0)) (by (with_reducible repeat (first | refine blk_drewN ?_ _ | refine blk_drew ?_ | refine blk_alloc ?_ _)); exact BK102.out) hb)
                have n2_ := Aside0.mk (below_step (by repeat (first | (with_reducible first | exact HB.out | apply below_alloc | apply pw_below_drewN | apply below_drew1 | refine below_set ?_ GE101.out | refine below_set ?_ GE102.out) | exact HB.out)) hb)
                clear BK101
                clear BK102
                clear HB
                have BK101 := n0_
                have BK102 := n1_
                have HB := n2_
                clear n0_ n1_ n2_
                (try clear hb)
                (try clear hb2)
                (try clear hk)
                (try clear hi)
                refine hK.out _ _ ⟨HVia.bc BK101 0 rfl, HVia.bc BK101 1 rfl, HVia.bc BK101 2 rfl, HVia.bc BK101 3 rfl, HVia.bc BK101 4 rfl, HVia.bc BK102 0 rfl, HVia.bc BK102 1 rfl, HVia.bc BK102 2 rfl, HVia.bc BK102 3 rfl, HVia.bc BK102 4 rfl⟩ (fun hHeld => ?_)
                clear hK K
                refine norm_ (a' := ?_) ?_ ?_
                rotate_left
                · show Act.put _ (some 114) _ = _
                  simp only [Act.put, List.setIfInBounds_toArray, List.set_cons_zero, List.set_cons_succ, i64_w, i32_w]
                  rfl
                refine one_ (i := 25) (N := some 117) b34_ rfl rfl (one_of HT_.out (by kernel_rfl)) (by decide) (fun K hK => ?_)
                refine HVia.goesT_ Try.func8 (by kernel_rfl) rfl #[.agg #[.string t105, .string t106, .string x102002_20, .string t108, .string x102004_39]] (by rfl) rfl rfl rfl (by (try simp only [List.map_toArray, List.map_cons, List.map_nil]); first | done | rfl | (simp only [List.length_drop, List.length_take]; rfl)) ?_
                with_reducible refine (laws_FnIdEqual_1.calls t105 t106 x102002_20 t108 x102004_39 t120 _ A96.out).mono ?_
                rintro e w100 ⟨rfl, hb⟩
                refine ⟨_, rfl, ?_⟩
                have n0_ := Aside0.mk (blk_below (g := gb101) (o := .cells #[.string t105, .string t106, .string x102002_20, .string t108, .string x102004_39] 23 (0, 0)) (by (with_reducible repeat (first | refine blk_drewN ?_ _ | refine blk_drew ?_ | refine blk_alloc ?_ _)); exact BK101.out) hb)
                have n1_ := Aside0.mk (blk_below (g := gb102) (o := .cells #[.string x103000_39, .string x103001_39, .string x103002_60, .string x103003_39, .string x103004_39] 23 (0, 0)) (by (with_reducible repeat (first | refine blk_drewN ?_ _ | refine blk_drew ?_ | refine blk_alloc ?_ _)); exact BK102.out) hb)
                have n2_ := Aside0.mk (below_step (by repeat (first | (with_reducible first | exact HB.out | apply below_alloc | apply pw_below_drewN | apply below_drew1 | refine below_set ?_ GE101.out | refine below_set ?_ GE102.out) | exact HB.out)) hb)
                clear BK101
                clear BK102
                clear HB
                have BK101 := n0_
                have BK102 := n1_
                have HB := n2_
                clear n0_ n1_ n2_
                (try clear hb)
                (try clear hb2)
                (try clear hk)
                (try clear hi)
                refine hK.out _ _ ⟨HVia.bc BK101 0 rfl, HVia.bc BK101 1 rfl, HVia.bc BK101 2 rfl, HVia.bc BK101 3 rfl, HVia.bc BK101 4 rfl, HVia.bc BK102 0 rfl, HVia.bc BK102 1 rfl, HVia.bc BK102 2 rfl, HVia.bc BK102 3 rfl, HVia.bc BK102 4 rfl⟩ (fun hHeld => ?_)
                clear hK K
                refine norm_ (a' := ?_) ?_ ?_
                rotate_left
                · show Act.put _ (some 117) _ = _
                  simp only [Act.put, List.setIfInBounds_toArray, List.set_cons_zero, List.set_cons_succ, i64_w, i32_w]
                  rfl
                refine HVia.pS 26 118 b35_ HT_ (by kernel_rfl) rfl rfl (fun _ _ _ h => h) (by rfl) (by intro w'; go_simp; with_reducible rfl) (by simp only [List.set_cons_zero, List.set_cons_succ]; rfl) ?_
                refine HVia.pS 27 119 b36_ HT_ (by kernel_rfl) rfl rfl (fun _ _ _ h => h) (by rfl) (by intro w'; go_simp; with_reducible rfl) (by simp only [List.set_cons_zero, List.set_cons_succ]; rfl) ?_
                refine HVia.pS 28 120 b37_ HT_ (by kernel_rfl) rfl rfl (fun _ _ _ h => h) (by rfl) (by intro w'; go_simp; with_reducible rfl) (by simp only [List.set_cons_zero, List.set_cons_succ]; rfl) ?_
                refine HVia.pS 29 12 b38_ HT_ (by kernel_rfl) rfl rfl (fun _ _ _ h => h) (by rfl) (by intro w'; go_simp; with_reducible rfl) (by simp only [List.set_cons_zero, List.set_cons_succ]; rfl) ?_
                refine done_ (done_of HT_.out (by kernel_rfl)) ?_
                try go_wp2
                go_meet
                case rel => exact ⟨_, ((t119.toList == t120.toList)), (by first | rfl | (simp; done) | (simp [*]; done)), H', ⟨by have := HJ3.out; have := HJ20.out; have := HJ39.out; have := HJ60.out; have := HJ67.out; first | omega | exact Nat.le_refl _⟩, ⟨by (with_reducible repeat (first | refine blk_drewN ?_ _ | refine blk_drew ?_ | refine blk_alloc ?_ _)); exact BK101.out⟩, ⟨by (with_reducible repeat (first | refine blk_drewN ?_ _ | refine blk_drew ?_ | refine blk_alloc ?_ _)); exact BK102.out⟩, ⟨by repeat (first | (with_reducible first | exact HB.out | apply below_alloc | apply pw_below_drewN | apply below_drew1 | refine below_set ?_ GE101.out | refine below_set ?_ GE102.out) | exact HB.out)⟩⟩
           · rw [if_neg c91] at H
             have c91b0 : (x103003_39.toList == ([] : List UInt8)) = false := beq_eq_false_iff_ne.mpr c91
             have c91b1 : (x103003_39.toList != ([] : List UInt8)) = true := bne_iff_ne.mpr c91
             (first | rw [c91b0] | (simp only [i64_w, i32_w]; rw [c91b0]) | (rw [HVia.isE c91b0]; (try simp only [Bool.not_true, Bool.not_false])) | skip)
             by_cases c101 : x103003_39.toList = t108.toList
             · rw [if_pos c101] at H
               have c101b0 : (x103003_39.toList == t108.toList) = true := beq_iff_eq.mpr c101
               have c101b1 : (x103003_39.toList != t108.toList) = false := bne_eq_false_iff_eq.mpr c101
               clear c101
               by_cases c102 : x103004_39.toList = ([] : List UInt8)
               · rw [if_pos c102] at H
                 have c102b0 : (x103004_39.toList == ([] : List UInt8)) = true := beq_iff_eq.mpr c102
                 have c102b1 : (x103004_39.toList != ([] : List UInt8)) = false := bne_eq_false_iff_eq.mpr c102
                 clear c102
                 have H' := Aside0.mk H
                 clear H
                 try go_wp2
                 have n0_ := Aside0.mk (blk_drew BK101.out)
                 have n1_ := Aside0.mk (blk_drew BK102.out)
                 have n2_ := Aside0.mk (below_drew1 HB.out)
                 clear BK101
                 clear BK102
                 clear HB
                 have BK101 := n0_
                 have BK102 := n1_
                 have HB := n2_
                 clear n0_ n1_ n2_
                 as_aux_lemma =>
                  refine start_ (n := 30) (S := fun w' => w'.cell? ⟨gb101, 0, none⟩ = some (.string t105) ∧ w'.cell? ⟨gb101, 1, none⟩ = some (.string t106) ∧ w'.cell? ⟨gb101, 2, none⟩ = some (.string x102002_20) ∧ w'.cell? ⟨gb101, 3, none⟩ = some (.string t108) ∧ w'.cell? ⟨gb101, 4, none⟩ = some (.string x102004_39) ∧ w'.cell? ⟨gb102, 0, none⟩ = some (.string x103000_39) ∧ w'.cell? ⟨gb102, 1, none⟩ = some (.string x103001_39) ∧ w'.cell? ⟨gb102, 2, none⟩ = some (.string x103002_60) ∧ w'.cell? ⟨gb102, 3, none⟩ = some (.string x103003_39) ∧ w'.cell? ⟨gb102, 4, none⟩ = some (.string x103004_39)) (ds := []) b8_ (by kernel_rfl) rfl rfl ⟨HVia.bc BK101 0 rfl, HVia.bc BK101 1 rfl, HVia.bc BK101 2 rfl, HVia.bc BK101 3 rfl, HVia.bc BK101 4 rfl, HVia.bc BK102 0 rfl, HVia.bc BK102 1 rfl, HVia.bc BK102 2 rfl, HVia.bc BK102 3 rfl, HVia.bc BK102 4 rfl⟩ (fun hHeld => ?_); refine with_tabW laws_FnIdEqual.tab25 laws_FnIdEqual.bits25 (fun HT_ HW_ => ?_)
                  generalize wc.drew = w103 at BK101 BK102 HB hHeld ⊢
                  refine take_ (i := 0) (N := some 92) (v := ?_) (a' := ?_) b9_ rfl rfl (take_ofW HT_.out HW_.out (by kernel_rfl)) (fun _ _ _ h => h) (Or.inl ⟨by rfl, ?_⟩) hHeld ?_ ?_
                  rotate_left
                  · rintro w' ⟨s0, s1, s2, s3, s4, s5, s6, s7, s8, s9⟩
                    go_simp
                    with_reducible rfl
                  rotate_left
                  · simp only [Act.put, List.setIfInBounds_toArray, List.set_cons_zero, List.set_cons_succ, i64_w, i32_w]
                    rfl
                  refine HVia.tS 1 93 b10_ HT_ HW_ (by kernel_rfl) rfl rfl (fun _ _ _ h => h) hHeld (by rfl) (by rintro w' ⟨s0, s1, s2, s3, s4, s5, s6, s7, s8, s9⟩; go_simp; with_reducible rfl) (by simp only [List.set_cons_zero, List.set_cons_succ]; rfl) ?_
                  refine one_ (i := 2) (N := some 94) b11_ rfl rfl (one_of HT_.out (by kernel_rfl)) (by decide) (fun K hK => ?_)
                  refine goes_ Try.func10 (by kernel_rfl) rfl #[.agg #[.string t105, .string t106, .string x102002_20, .string t108, .string x102004_39], .agg #[.string x103000_39, .string x103001_39, .string x103002_60, .string x103003_39, .string x103004_39]] (by rfl) rfl rfl (by (try simp only [List.map_toArray, List.map_cons, List.map_nil]); first | done | rfl | (simp only [List.length_drop, List.length_take]; rfl)) ?_
                  with_reducible refine (spec_KySelected.calls t105 t106 x102002_20 t108 x102004_39 x103000_39 x103001_39 x103002_60 x103003_39 x103004_39 true _ A89.out).mono ?_
                  rintro e w104 ⟨rfl, hb⟩
                  refine ⟨_, rfl, ?_⟩
                  have n0_ := Aside0.mk (blk_below (g := gb101) (o := .cells #[.string t105, .string t106, .string x102002_20, .string t108, .string x102004_39] 23 (0, 0)) (by (with_reducible repeat (first | refine blk_drewN ?_ _ | refine blk_drew ?_ | refine blk_alloc ?_ _)); exact BK101.out) hb)
                  have n1_ := Aside0.mk (blk_below (g := gb102) (o := .cells #[.string x103000_39, .string x103001_39, .string x103002_60, .string x103003_39, .string x103004_39] 23 (0, 0)) (by (with_reducible repeat (first | refine blk_drewN ?_ _ | refine blk_drew ?_ | refine blk_alloc ?_ _)); exact BK102.out) hb)
                  have n2_ := Aside0.mk (below_step (by repeat (first | (with_reducible first | exact HB.out | apply below_alloc | apply pw_below_drewN | apply below_drew1 | refine below_set ?_ GE101.out | refine below_set ?_ GE102.out) | exact HB.out)) hb)
                  clear BK101
                  clear BK102
                  clear HB
                  have BK101 := n0_
                  have BK102 := n1_
                  have HB := n2_
                  clear n0_ n1_ n2_
                  (try clear hb)
                  (try clear hb2)
                  (try clear hk)
                  (try clear hi)
                  refine hK.out _ _ ⟨HVia.bc BK101 0 rfl, HVia.bc BK101 1 rfl, HVia.bc BK101 2 rfl, HVia.bc BK101 3 rfl, HVia.bc BK101 4 rfl, HVia.bc BK102 0 rfl, HVia.bc BK102 1 rfl, HVia.bc BK102 2 rfl, HVia.bc BK102 3 rfl, HVia.bc BK102 4 rfl⟩ (fun hHeld => ?_)
                  clear hK K
                  refine norm_ (a' := ?_) ?_ ?_
                  rotate_left
                  · show Act.put _ (some 94) _ = _
                    simp only [Act.put, List.setIfInBounds_toArray, List.set_cons_zero, List.set_cons_succ, i64_w, i32_w]
                    rfl
                  refine HVia.pS 3 95 b12_ HT_ (by kernel_rfl) rfl rfl (fun _ _ _ h => h) (by rfl) (by intro w'; go_simp; with_reducible rfl) (by simp only [List.set_cons_zero, List.set_cons_succ]; rfl) ?_
                  refine HVia.pS 4 96 b13_ HT_ (by kernel_rfl) rfl rfl (fun _ _ _ h => h) (by rfl) (by intro w'; go_simp; with_reducible rfl) (by simp only [List.set_cons_zero, List.set_cons_succ]; rfl) ?_
                  refine HVia.tS 5 97 b14_ HT_ HW_ (by kernel_rfl) rfl rfl (fun _ _ _ h => h) hHeld (by rfl) (by rintro w' ⟨s0, s1, s2, s3, s4, s5, s6, s7, s8, s9⟩; go_simp; with_reducible rfl) (by simp only [List.set_cons_zero, List.set_cons_succ]; rfl) ?_
                  refine HVia.pS 6 98 b15_ HT_ (by kernel_rfl) rfl rfl (fun _ _ _ h => h) (by rfl) (by intro w'; go_simp; with_reducible rfl) (by simp only [List.set_cons_zero, List.set_cons_succ]; rfl) ?_
                  refine HVia.pS 7 99 b16_ HT_ (by kernel_rfl) rfl rfl (fun _ _ _ h => h) (by rfl) (by intro w'; go_simp; with_reducible rfl) (by simp only [List.set_cons_zero, List.set_cons_succ]; rfl) ?_
                  refine HVia.pS 8 100 b17_ HT_ (by kernel_rfl) rfl rfl (fun _ _ _ h => h) (by rfl) (by intro w'; go_simp; with_reducible rfl) (by simp only [List.set_cons_zero, List.set_cons_succ]; rfl) ?_
                  refine HVia.pS 10 102 b42_ HT_ (by kernel_rfl) rfl rfl (fun _ _ _ h => h) (by rfl) (by intro w'; go_simp; with_reducible rfl) (by simp only [List.set_cons_zero, List.set_cons_succ]; rfl) ?_
                  refine HVia.tS 9 101 b19_ HT_ HW_ (by kernel_rfl) rfl rfl (fun _ _ _ h => h) hHeld (by rfl) (by rintro w' ⟨s0, s1, s2, s3, s4, s5, s6, s7, s8, s9⟩; go_simp; with_reducible rfl) (by simp only [List.set_cons_zero, List.set_cons_succ]; rfl) ?_
                  refine HVia.tS 11 103 b20_ HT_ HW_ (by kernel_rfl) rfl rfl (fun _ _ _ h => h) hHeld (by rfl) (by rintro w' ⟨s0, s1, s2, s3, s4, s5, s6, s7, s8, s9⟩; go_simp; with_reducible rfl) (by simp only [List.set_cons_zero, List.set_cons_succ]; rfl) ?_
                  refine HVia.pS 12 104 b21_ HT_ (by kernel_rfl) rfl rfl (fun _ _ _ h => h) (by rfl) (by intro w'; go_simp; with_reducible rfl) (by simp only [List.set_cons_zero, List.set_cons_succ]; rfl) ?_
                  refine HVia.pS 13 105 b22_ HT_ (by kernel_rfl) rfl rfl (fun _ _ _ h => h) (by rfl) (by intro w'; go_simp; with_reducible rfl) (by simp only [List.set_cons_zero, List.set_cons_succ]; rfl) ?_
                  refine HVia.pS 14 106 b23_ HT_ (by kernel_rfl) rfl rfl (fun _ _ _ h => h) (by rfl) (by intro w'; go_simp; with_reducible rfl) (by simp only [List.set_cons_zero, List.set_cons_succ]; rfl) ?_
                  refine HVia.pS 15 107 b24_ HT_ (by kernel_rfl) rfl rfl (fun _ _ _ h => h) (by rfl) (by intro w'; go_simp; with_reducible rfl) (by simp only [List.set_cons_zero, List.set_cons_succ]; rfl) ?_
                  refine HVia.pS 16 108 b25_ HT_ (by kernel_rfl) rfl rfl (fun _ _ _ h => h) (by rfl) (by intro w'; go_simp; with_reducible rfl) (by simp only [List.set_cons_zero, List.set_cons_succ]; rfl) ?_
                  refine HVia.tS 17 109 b26_ HT_ HW_ (by kernel_rfl) rfl rfl (fun _ _ _ h => h) hHeld (by rfl) (by rintro w' ⟨s0, s1, s2, s3, s4, s5, s6, s7, s8, s9⟩; go_simp; with_reducible rfl) (by simp only [List.set_cons_zero, List.set_cons_succ]; rfl) ?_
                  refine HVia.pS 18 110 b27_ HT_ (by kernel_rfl) rfl rfl (fun _ _ _ h => h) (by rfl) (by intro w'; go_simp; with_reducible rfl) (by simp only [List.set_cons_zero, List.set_cons_succ]; rfl) ?_
                  refine HVia.pS 19 111 b28_ HT_ (by kernel_rfl) rfl rfl (fun _ _ _ h => h) (by rfl) (by intro w'; go_simp; with_reducible rfl) (by simp only [List.set_cons_zero, List.set_cons_succ]; rfl) ?_
                  refine HVia.pU 20 112 b29_ HT_ (by kernel_rfl) rfl rfl (fun _ _ _ h => h) (by rfl) (by simp only [List.set_cons_zero, List.set_cons_succ]; rfl) ?_
                  refine HVia.pU 21 113 b30_ HT_ (by kernel_rfl) rfl rfl (fun _ _ _ h => h) (by rfl) (by simp only [List.set_cons_zero, List.set_cons_succ]; rfl) ?_
                  refine HVia.pU 22 114 b31_ HT_ (by kernel_rfl) rfl rfl (fun _ _ _ h => h) (by rfl) (by simp only [List.set_cons_zero, List.set_cons_succ]; rfl) ?_
                  refine HVia.pU 23 115 b32_ HT_ (by kernel_rfl) rfl rfl (fun _ _ _ h => h) (by rfl) (by simp only [List.set_cons_zero, List.set_cons_succ]; rfl) ?_
                  refine HVia.pU 24 116 b33_ HT_ (by kernel_rfl) rfl rfl (fun _ _ _ h => h) (by rfl) (by simp only [List.set_cons_zero, List.set_cons_succ]; rfl) ?_
                  refine HVia.pU 25 117 b34_ HT_ (by kernel_rfl) rfl rfl (fun _ _ _ h => h) (by rfl) (by simp only [List.set_cons_zero, List.set_cons_succ]; rfl) ?_
                  refine HVia.pU 26 118 b35_ HT_ (by kernel_rfl) rfl rfl (fun _ _ _ h => h) (by rfl) (by simp only [List.set_cons_zero, List.set_cons_succ]; rfl) ?_
                  refine HVia.pS 27 119 b36_ HT_ (by kernel_rfl) rfl rfl (fun _ _ _ h => h) (by rfl) (by intro w'; go_simp; with_reducible rfl) (by simp only [List.set_cons_zero, List.set_cons_succ]; rfl) ?_
                  refine HVia.pS 28 120 b37_ HT_ (by kernel_rfl) rfl rfl (fun _ _ _ h => h) (by rfl) (by intro w'; go_simp; with_reducible rfl) (by simp only [List.set_cons_zero, List.set_cons_succ]; rfl) ?_
                  refine HVia.pS 29 12 b38_ HT_ (by kernel_rfl) rfl rfl (fun _ _ _ h => h) (by rfl) (by intro w'; go_simp; with_reducible rfl) (by simp only [List.set_cons_zero, List.set_cons_succ]; rfl) ?_
                  refine done_ (done_of HT_.out (by kernel_rfl)) ?_
                  try go_wp2
                  go_meet
                  case rel => exact ⟨_, (true), (by first | rfl | (simp; done) | (simp [*]; done)), H', ⟨by have := HJ3.out; have := HJ20.out; have := HJ39.out; have := HJ60.out; have := HJ67.out; first | omega | exact Nat.le_refl _⟩, ⟨by (with_reducible repeat (first | refine blk_drewN ?_ _ | refine blk_drew ?_ | refine blk_alloc ?_ _)); exact BK101.out⟩, ⟨by (with_reducible repeat (first | refine blk_drewN ?_ _ | refine blk_drew ?_ | refine blk_alloc ?_ _)); exact BK102.out⟩, ⟨by repeat (first | (with_reducible first | exact HB.out | apply below_alloc | apply pw_below_drewN | apply below_drew1 | refine below_set ?_ GE101.out | refine below_set ?_ GE102.out) | exact HB.out)⟩⟩
               · rw [if_neg c102] at H
                 have c102b0 : (x103004_39.toList == ([] : List UInt8)) = false := beq_eq_false_iff_ne.mpr c102
                 have c102b1 : (x103004_39.toList != ([] : List UInt8)) = true := bne_iff_ne.mpr c102
                 replace H := Option.bind_eq_some_iff.mp H
                 obtain ⟨t121, A1050, H⟩ := H
                 replace H : ((laws_FnIdEqual_1.f t105 t106 x102002_20 t108 x102004_39).bind fun t122 => (laws_FnIdEqual.j5 kj67 t115 t116 t117 x11_67 (t121.toList == t122.toList) t105 t106 x102002_20 t108 x102004_39 x103000_39 x103001_39 x103002_60 x103003_39 x103004_39)) = some r := H
                 have A105 := Aside0.mk A1050
                 clear A1050
                 replace H := Option.bind_eq_some_iff.mp H
                 obtain ⟨t122, A1060, H⟩ := H
                 replace H : (laws_FnIdEqual.j5 kj67 t115 t116 t117 x11_67 (t121.toList == t122.toList) t105 t106 x102002_20 t108 x102004_39 x103000_39 x103001_39 x103002_60 x103003_39 x103004_39) = some r := H
                 have A106 := Aside0.mk A1060
                 clear A1060
                 have H' := Aside0.mk H
                 clear H
                 try go_wp2
                 have n0_ := Aside0.mk (blk_drew BK101.out)
                 have n1_ := Aside0.mk (blk_drew BK102.out)
                 have n2_ := Aside0.mk (below_drew1 HB.out)
                 clear BK101
                 clear BK102
                 clear HB
                 have BK101 := n0_
                 have BK102 := n1_
                 have HB := n2_
                 clear n0_ n1_ n2_
                 as_aux_lemma =>
                  refine start_ (n := 30) (S := fun w' => w'.cell? ⟨gb101, 0, none⟩ = some (.string t105) ∧ w'.cell? ⟨gb101, 1, none⟩ = some (.string t106) ∧ w'.cell? ⟨gb101, 2, none⟩ = some (.string x102002_20) ∧ w'.cell? ⟨gb101, 3, none⟩ = some (.string t108) ∧ w'.cell? ⟨gb101, 4, none⟩ = some (.string x102004_39) ∧ w'.cell? ⟨gb102, 0, none⟩ = some (.string x103000_39) ∧ w'.cell? ⟨gb102, 1, none⟩ = some (.string x103001_39) ∧ w'.cell? ⟨gb102, 2, none⟩ = some (.string x103002_60) ∧ w'.cell? ⟨gb102, 3, none⟩ = some (.string x103003_39) ∧ w'.cell? ⟨gb102, 4, none⟩ = some (.string x103004_39)) (ds := []) b8_ (by kernel_rfl) rfl rfl ⟨HVia.bc BK101 0 rfl, HVia.bc BK101 1 rfl, HVia.bc BK101 2 rfl, HVia.bc BK101 3 rfl, HVia.bc BK101 4 rfl, HVia.bc BK102 0 rfl, HVia.bc BK102 1 rfl, HVia.bc BK102 2 rfl, HVia.bc BK102 3 rfl, HVia.bc BK102 4 rfl⟩ (fun hHeld => ?_); refine with_tabW laws_FnIdEqual.tab25 laws_FnIdEqual.bits25 (fun HT_ HW_ => ?_)
                  generalize wc.drew = w107 at BK101 BK102 HB hHeld ⊢
                  refine take_ (i := 0) (N := some 92) (v := ?_) (a' := ?_) b9_ rfl rfl (take_ofW HT_.out HW_.out (by kernel_rfl)) (fun _ _ _ h => h) (Or.inl ⟨by rfl, ?_⟩) hHeld ?_ ?_
                  rotate_left
                  · rintro w' ⟨s0, s1, s2, s3, s4, s5, s6, s7, s8, s9⟩
                    go_simp
                    with_reducible rfl
                  rotate_left
                  · simp only [Act.put, List.setIfInBounds_toArray, List.set_cons_zero, List.set_cons_succ, i64_w, i32_w]
                    rfl
                  refine HVia.tS 1 93 b10_ HT_ HW_ (by kernel_rfl) rfl rfl (fun _ _ _ h => h) hHeld (by rfl) (by rintro w' ⟨s0, s1, s2, s3, s4, s5, s6, s7, s8, s9⟩; go_simp; with_reducible rfl) (by simp only [List.set_cons_zero, List.set_cons_succ]; rfl) ?_
                  refine one_ (i := 2) (N := some 94) b11_ rfl rfl (one_of HT_.out (by kernel_rfl)) (by decide) (fun K hK => ?_)
                  refine goes_ Try.func10 (by kernel_rfl) rfl #[.agg #[.string t105, .string t106, .string x102002_20, .string t108, .string x102004_39], .agg #[.string x103000_39, .string x103001_39, .string x103002_60, .string x103003_39, .string x103004_39]] (by rfl) rfl rfl (by (try simp only [List.map_toArray, List.map_cons, List.map_nil]); first | done | rfl | (simp only [List.length_drop, List.length_take]; rfl)) ?_
                  with_reducible refine (spec_KySelected.calls t105 t106 x102002_20 t108 x102004_39 x103000_39 x103001_39 x103002_60 x103003_39 x103004_39 true _ A89.out).mono ?_
                  rintro e w108 ⟨rfl, hb⟩
                  refine ⟨_, rfl, ?_⟩
                  have n0_ := Aside0.mk (blk_below (g := gb101) (o := .cells #[.string t105, .string t106, .string x102002_20, .string t108, .string x102004_39] 23 (0, 0)) (by (with_reducible repeat (first | refine blk_drewN ?_ _ | refine blk_drew ?_ | refine blk_alloc ?_ _)); exact BK101.out) hb)
                  have n1_ := Aside0.mk (blk_below (g := gb102) (o := .cells #[.string x103000_39, .string x103001_39, .string x103002_60, .string x103003_39, .string x103004_39] 23 (0, 0)) (by (with_reducible repeat (first | refine blk_drewN ?_ _ | refine blk_drew ?_ | refine blk_alloc ?_ _)); exact BK102.out) hb)
                  have n2_ := Aside0.mk (below_step (by repeat (first | (with_reducible first | exact HB.out | apply below_alloc | apply pw_below_drewN | apply below_drew1 | refine below_set ?_ GE101.out | refine below_set ?_ GE102.out) | exact HB.out)) hb)
                  clear BK101
                  clear BK102
                  clear HB
                  have BK101 := n0_
                  have BK102 := n1_
                  have HB := n2_
                  clear n0_ n1_ n2_
                  (try clear hb)
                  (try clear hb2)
                  (try clear hk)
                  (try clear hi)
                  refine hK.out _ _ ⟨HVia.bc BK101 0 rfl, HVia.bc BK101 1 rfl, HVia.bc BK101 2 rfl, HVia.bc BK101 3 rfl, HVia.bc BK101 4 rfl, HVia.bc BK102 0 rfl, HVia.bc BK102 1 rfl, HVia.bc BK102 2 rfl, HVia.bc BK102 3 rfl, HVia.bc BK102 4 rfl⟩ (fun hHeld => ?_)
                  clear hK K
                  refine norm_ (a' := ?_) ?_ ?_
                  rotate_left
                  · show Act.put _ (some 94) _ = _
                    simp only [Act.put, List.setIfInBounds_toArray, List.set_cons_zero, List.set_cons_succ, i64_w, i32_w]
                    rfl
                  refine HVia.pS 3 95 b12_ HT_ (by kernel_rfl) rfl rfl (fun _ _ _ h => h) (by rfl) (by intro w'; go_simp; with_reducible rfl) (by simp only [List.set_cons_zero, List.set_cons_succ]; rfl) ?_
                  refine HVia.pS 4 96 b13_ HT_ (by kernel_rfl) rfl rfl (fun _ _ _ h => h) (by rfl) (by intro w'; go_simp; with_reducible rfl) (by simp only [List.set_cons_zero, List.set_cons_succ]; rfl) ?_
                  refine HVia.tS 5 97 b14_ HT_ HW_ (by kernel_rfl) rfl rfl (fun _ _ _ h => h) hHeld (by rfl) (by rintro w' ⟨s0, s1, s2, s3, s4, s5, s6, s7, s8, s9⟩; go_simp; with_reducible rfl) (by simp only [List.set_cons_zero, List.set_cons_succ]; rfl) ?_
                  refine HVia.pS 6 98 b15_ HT_ (by kernel_rfl) rfl rfl (fun _ _ _ h => h) (by rfl) (by intro w'; go_simp; with_reducible rfl) (by simp only [List.set_cons_zero, List.set_cons_succ]; rfl) ?_
                  refine HVia.pS 7 99 b16_ HT_ (by kernel_rfl) rfl rfl (fun _ _ _ h => h) (by rfl) (by intro w'; go_simp; with_reducible rfl) (by simp only [List.set_cons_zero, List.set_cons_succ]; rfl) ?_
                  refine HVia.pS 8 100 b17_ HT_ (by kernel_rfl) rfl rfl (fun _ _ _ h => h) (by rfl) (by intro w'; go_simp; with_reducible rfl) (by simp only [List.set_cons_zero, List.set_cons_succ]; rfl) ?_
                  refine HVia.pS 10 102 b42_ HT_ (by kernel_rfl) rfl rfl (fun _ _ _ h => h) (by rfl) (by intro w'; go_simp; with_reducible rfl) (by simp only [List.set_cons_zero, List.set_cons_succ]; rfl) ?_
                  refine HVia.tS 9 101 b19_ HT_ HW_ (by kernel_rfl) rfl rfl (fun _ _ _ h => h) hHeld (by rfl) (by rintro w' ⟨s0, s1, s2, s3, s4, s5, s6, s7, s8, s9⟩; go_simp; with_reducible rfl) (by simp only [List.set_cons_zero, List.set_cons_succ]; rfl) ?_
                  refine HVia.tS 11 103 b20_ HT_ HW_ (by kernel_rfl) rfl rfl (fun _ _ _ h => h) hHeld (by rfl) (by rintro w' ⟨s0, s1, s2, s3, s4, s5, s6, s7, s8, s9⟩; go_simp; with_reducible rfl) (by simp only [List.set_cons_zero, List.set_cons_succ]; rfl) ?_
                  refine HVia.pS 12 104 b21_ HT_ (by kernel_rfl) rfl rfl (fun _ _ _ h => h) (by rfl) (by intro w'; go_simp; with_reducible rfl) (by simp only [List.set_cons_zero, List.set_cons_succ]; rfl) ?_
                  refine HVia.pS 13 105 b22_ HT_ (by kernel_rfl) rfl rfl (fun _ _ _ h => h) (by rfl) (by intro w'; go_simp; with_reducible rfl) (by simp only [List.set_cons_zero, List.set_cons_succ]; rfl) ?_
                  refine HVia.pS 14 106 b23_ HT_ (by kernel_rfl) rfl rfl (fun _ _ _ h => h) (by rfl) (by intro w'; go_simp; with_reducible rfl) (by simp only [List.set_cons_zero, List.set_cons_succ]; rfl) ?_
                  refine HVia.pS 15 107 b24_ HT_ (by kernel_rfl) rfl rfl (fun _ _ _ h => h) (by rfl) (by intro w'; go_simp; with_reducible rfl) (by simp only [List.set_cons_zero, List.set_cons_succ]; rfl) ?_
                  refine HVia.pS 16 108 b25_ HT_ (by kernel_rfl) rfl rfl (fun _ _ _ h => h) (by rfl) (by intro w'; go_simp; with_reducible rfl) (by simp only [List.set_cons_zero, List.set_cons_succ]; rfl) ?_
                  refine HVia.tS 17 109 b26_ HT_ HW_ (by kernel_rfl) rfl rfl (fun _ _ _ h => h) hHeld (by rfl) (by rintro w' ⟨s0, s1, s2, s3, s4, s5, s6, s7, s8, s9⟩; go_simp; with_reducible rfl) (by simp only [List.set_cons_zero, List.set_cons_succ]; rfl) ?_
                  refine HVia.pS 18 110 b27_ HT_ (by kernel_rfl) rfl rfl (fun _ _ _ h => h) (by rfl) (by intro w'; go_simp; with_reducible rfl) (by simp only [List.set_cons_zero, List.set_cons_succ]; rfl) ?_
                  refine HVia.pS 19 111 b28_ HT_ (by kernel_rfl) rfl rfl (fun _ _ _ h => h) (by rfl) (by intro w'; go_simp; with_reducible rfl) (by simp only [List.set_cons_zero, List.set_cons_succ]; rfl) ?_
                  refine HVia.pS 20 112 b29_ HT_ (by kernel_rfl) rfl rfl (fun _ _ _ h => h) (by rfl) (by intro w'; go_simp; with_reducible rfl) (by simp only [List.set_cons_zero, List.set_cons_succ]; rfl) ?_
                  refine HVia.pS 23 115 b39_ HT_ (by kernel_rfl) rfl rfl (fun _ _ _ h => h) (by rfl) (by intro w'; go_simp; with_reducible rfl) (by simp only [List.set_cons_zero, List.set_cons_succ]; rfl) ?_
                  refine HVia.tS 21 113 b40_ HT_ HW_ (by kernel_rfl) rfl rfl (fun _ _ _ h => h) hHeld (by rfl) (by rintro w' ⟨s0, s1, s2, s3, s4, s5, s6, s7, s8, s9⟩; go_simp; with_reducible rfl) (by simp only [List.set_cons_zero, List.set_cons_succ]; rfl) ?_
                  refine HVia.tS 24 116 b41_ HT_ HW_ (by kernel_rfl) rfl rfl (fun _ _ _ h => h) hHeld (by rfl) (by rintro w' ⟨s0, s1, s2, s3, s4, s5, s6, s7, s8, s9⟩; go_simp; with_reducible rfl) (by simp only [List.set_cons_zero, List.set_cons_succ]; rfl) ?_
                  refine one_ (i := 22) (N := some 114) b33_ rfl rfl (one_of HT_.out (by kernel_rfl)) (by decide) (fun K hK => ?_)
                  refine HVia.goesT_ Try.func8 (by kernel_rfl) rfl #[.agg #[.string x103000_39, .string x103001_39, .string x103002_60, .string x103003_39, .string x103004_39]] (by rfl) rfl rfl rfl (by (try simp only [List.map_toArray, List.map_cons, List.map_nil]); first | done | rfl | (simp only [List.length_drop, List.length_take]; rfl)) ?_
                  with_reducible refine (laws_FnIdEqual_1.calls x103000_39 x103001_39 x103002_60 x103003_39 x103004_39 t121 _ A105.out).mono ?_
                  rintro e w109 ⟨rfl, hb⟩
                  refine ⟨_, rfl, ?_⟩
                  have n0_ := Aside0.mk (blk_below (g := gb101) (o := .cells #[.string t105, .string t106, .string x102002_20, .string t108, .string x102004_39] 23 (0, 0)) (by (with_reducible repeat (first | refine blk_drewN ?_ _ | refine blk_drew ?_ | refine blk_alloc ?_ _)); exact BK101.out) hb)
                  have n1_ := Aside0.mk (blk_below (g := gb102) (o := .cells #[.string x103000_39, .string x103001_39, .string x103002_60, .string x103003_39, .string x103004_39] 23 (0, 0)) (by (with_reducible repeat (first | refine blk_drewN ?_ _ | refine blk_drew ?_ | refine blk_alloc ?_ _)); exact BK102.out) hb)
                  have n2_ := Aside0.mk (below_step (by repeat (first | (with_reducible first | exact HB.out | apply below_alloc | apply pw_below_drewN | apply below_drew1 | refine below_set ?_ GE101.out | refine below_set ?_ GE102.out) | exact HB.out)) hb)
                  clear BK101
                  clear BK102
                  clear HB
                  have BK101 := n0_
                  have BK102 := n1_
                  have HB := n2_
                  clear n0_ n1_ n2_
                  (try clear hb)
                  (try clear hb2)
                  (try clear hk)
                  (try clear hi)
                  refine hK.out _ _ ⟨HVia.bc BK101 0 rfl, HVia.bc BK101 1 rfl, HVia.bc BK101 2 rfl, HVia.bc BK101 3 rfl, HVia.bc BK101 4 rfl, HVia.bc BK102 0 rfl, HVia.bc BK102 1 rfl, HVia.bc BK102 2 rfl, HVia.bc BK102 3 rfl, HVia.bc BK102 4 rfl⟩ (fun hHeld => ?_)
                  clear hK K
                  refine norm_ (a' := ?_) ?_ ?_
                  rotate_left
                  · show Act.put _ (some 114) _ = _
                    simp only [Act.put, List.setIfInBounds_toArray, List.set_cons_zero, List.set_cons_succ, i64_w, i32_w]
                    rfl
                  refine one_ (i := 25) (N := some 117) b34_ rfl rfl (one_of HT_.out (by kernel_rfl)) (by decide) (fun K hK => ?_)
                  refine HVia.goesT_ Try.func8 (by kernel_rfl) rfl #[.agg #[.string t105, .string t106, .string x102002_20, .string t108, .string x102004_39]] (by rfl) rfl rfl rfl (by (try simp only [List.map_toArray, List.map_cons, List.map_nil]); first | done | rfl | (simp only [List.length_drop, List.length_take]; rfl)) ?_
                  with_reducible refine (laws_FnIdEqual_1.calls t105 t106 x102002_20 t108 x102004_39 t122 _ A106.out).mono ?_
                  rintro e w110 ⟨rfl, hb⟩
                  refine ⟨_, rfl, ?_⟩
                  have n0_ := Aside0.mk (blk_below (g := gb101) (o := .cells #[.string t105, .string t106, .string x102002_20, .string t108, .string x102004_39] 23 (0, 0)) (by (with_reducible repeat (first | refine blk_drewN ?_ _ | refine blk_drew ?_ | refine blk_alloc ?_ _)); exact BK101.out) hb)
                  have n1_ := Aside0.mk (blk_below (g := gb102) (o := .cells #[.string x103000_39, .string x103001_39, .string x103002_60, .string x103003_39, .string x103004_39] 23 (0, 0)) (by (with_reducible repeat (first | refine blk_drewN ?_ _ | refine blk_drew ?_ | refine blk_alloc ?_ _)); exact BK102.out) hb)
                  have n2_ := Aside0.mk (below_step (by repeat (first | (with_reducible first | exact HB.out | apply below_alloc | apply pw_below_drewN | apply below_drew1 | refine below_set ?_ GE101.out | refine below_set ?_ GE102.out) | exact HB.out)) hb)
                  clear BK101
                  clear BK102
                  clear HB
                  have BK101 := n0_
                  have BK102 := n1_
                  have HB := n2_
                  clear n0_ n1_ n2_
                  (try clear hb)
                  (try clear hb2)
                  (try clear hk)
                  (try clear hi)
                  refine hK.out _ _ ⟨HVia.bc BK101 0 rfl, HVia.bc BK101 1 rfl, HVia.bc BK101 2 rfl, HVia.bc BK101 3 rfl, HVia.bc BK101 4 rfl, HVia.bc BK102 0 rfl, HVia.bc BK102 1 rfl, HVia.bc BK102 2 rfl, HVia.bc BK102 3 rfl, HVia.bc BK102 4 rfl⟩ (fun hHeld => ?_)
                  clear hK K
                  refine norm_ (a' := ?_) ?_ ?_
                  rotate_left
                  · show Act.put _ (some 117) _ = _
                    simp only [Act.put, List.setIfInBounds_toArray, List.set_cons_zero, List.set_cons_succ, i64_w, i32_w]
                    rfl
                  refine HVia.pS 26 118 b35_ HT_ (by kernel_rfl) rfl rfl (fun _ _ _ h => h) (by rfl) (by intro w'; go_simp; with_reducible rfl) (by simp only [List.set_cons_zero, List.set_cons_succ]; rfl) ?_
                  refine HVia.pS 27 119 b36_ HT_ (by kernel_rfl) rfl rfl (fun _ _ _ h => h) (by rfl) (by intro w'; go_simp; with_reducible rfl) (by simp only [List.set_cons_zero, List.set_cons_succ]; rfl) ?_
                  refine HVia.pS 28 120 b37_ HT_ (by kernel_rfl) rfl rfl (fun _ _ _ h => h) (by rfl) (by intro w'; go_simp; with_reducible rfl) (by simp only [List.set_cons_zero, List.set_cons_succ]; rfl) ?_
                  refine HVia.pS 29 12 b38_ HT_ (by kernel_rfl) rfl rfl (fun _ _ _ h => h) (by rfl) (by intro w'; go_simp; with_reducible rfl) (by simp only [List.set_cons_zero, List.set_cons_succ]; rfl) ?_
                  refine done_ (done_of HT_.out (by kernel_rfl)) ?_
                  try go_wp2
                  go_meet
                  case rel => exact ⟨_, ((t121.toList == t122.toList)), (by first | rfl | (simp; done) | (simp [*]; done)), H', ⟨by have := HJ3.out; have := HJ20.out; have := HJ39.out; have := HJ60.out; have := HJ67.out; first | omega | exact Nat.le_refl _⟩, ⟨by (with_reducible repeat (first | refine blk_drewN ?_ _ | refine blk_drew ?_ | refine blk_alloc ?_ _)); exact BK101.out⟩, ⟨by (with_reducible repeat (first | refine blk_drewN ?_ _ | refine blk_drew ?_ | refine blk_alloc ?_ _)); exact BK102.out⟩, ⟨by repeat (first | (with_reducible first | exact HB.out | apply below_alloc | apply pw_below_drewN | apply below_drew1 | refine below_set ?_ GE101.out | refine below_set ?_ GE102.out) | exact HB.out)⟩⟩
             · rw [if_neg c101] at H
               have c101b0 : (x103003_39.toList == t108.toList) = false := beq_eq_false_iff_ne.mpr c101
               have c101b1 : (x103003_39.toList != t108.toList) = true := bne_iff_ne.mpr c101
               have H' := Aside0.mk H
               clear H
               try go_wp2
               have n0_ := Aside0.mk (blk_drew BK101.out)
               have n1_ := Aside0.mk (blk_drew BK102.out)
               have n2_ := Aside0.mk (below_drew1 HB.out)
               clear BK101
               clear BK102
               clear HB
               have BK101 := n0_
               have BK102 := n1_
               have HB := n2_
               clear n0_ n1_ n2_
               as_aux_lemma =>
                refine start_ (n := 30) (S := fun w' => w'.cell? ⟨gb101, 0, none⟩ = some (.string t105) ∧ w'.cell? ⟨gb101, 1, none⟩ = some (.string t106) ∧ w'.cell? ⟨gb101, 2, none⟩ = some (.string x102002_20) ∧ w'.cell? ⟨gb101, 3, none⟩ = some (.string t108) ∧ w'.cell? ⟨gb101, 4, none⟩ = some (.string x102004_39) ∧ w'.cell? ⟨gb102, 0, none⟩ = some (.string x103000_39) ∧ w'.cell? ⟨gb102, 1, none⟩ = some (.string x103001_39) ∧ w'.cell? ⟨gb102, 2, none⟩ = some (.string x103002_60) ∧ w'.cell? ⟨gb102, 3, none⟩ = some (.string x103003_39) ∧ w'.cell? ⟨gb102, 4, none⟩ = some (.string x103004_39)) (ds := []) b8_ (by kernel_rfl) rfl rfl ⟨HVia.bc BK101 0 rfl, HVia.bc BK101 1 rfl, HVia.bc BK101 2 rfl, HVia.bc BK101 3 rfl, HVia.bc BK101 4 rfl, HVia.bc BK102 0 rfl, HVia.bc BK102 1 rfl, HVia.bc BK102 2 rfl, HVia.bc BK102 3 rfl, HVia.bc BK102 4 rfl⟩ (fun hHeld => ?_); refine with_tabW laws_FnIdEqual.tab25 laws_FnIdEqual.bits25 (fun HT_ HW_ => ?_)
                generalize wc.drew = w111 at BK101 BK102 HB hHeld ⊢
                refine take_ (i := 0) (N := some 92) (v := ?_) (a' := ?_) b9_ rfl rfl (take_ofW HT_.out HW_.out (by kernel_rfl)) (fun _ _ _ h => h) (Or.inl ⟨by rfl, ?_⟩) hHeld ?_ ?_
                rotate_left
                · rintro w' ⟨s0, s1, s2, s3, s4, s5, s6, s7, s8, s9⟩
                  go_simp
                  with_reducible rfl
                rotate_left
                · simp only [Act.put, List.setIfInBounds_toArray, List.set_cons_zero, List.set_cons_succ, i64_w, i32_w]
                  rfl
                refine HVia.tS 1 93 b10_ HT_ HW_ (by kernel_rfl) rfl rfl (fun _ _ _ h => h) hHeld (by rfl) (by rintro w' ⟨s0, s1, s2, s3, s4, s5, s6, s7, s8, s9⟩; go_simp; with_reducible rfl) (by simp only [List.set_cons_zero, List.set_cons_succ]; rfl) ?_
                refine one_ (i := 2) (N := some 94) b11_ rfl rfl (one_of HT_.out (by kernel_rfl)) (by decide) (fun K hK => ?_)
                refine goes_ Try.func10 (by kernel_rfl) rfl #[.agg #[.string t105, .string t106, .string x102002_20, .string t108, .string x102004_39], .agg #[.string x103000_39, .string x103001_39, .string x103002_60, .string x103003_39, .string x103004_39]] (by rfl) rfl rfl (by (try simp only [List.map_toArray, List.map_cons, List.map_nil]); first | done | rfl | (simp only [List.length_drop, List.length_take]; rfl)) ?_
                with_reducible refine (spec_KySelected.calls t105 t106 x102002_20 t108 x102004_39 x103000_39 x103001_39 x103002_60 x103003_39 x103004_39 true _ A89.out).mono ?_
                rintro e w112 ⟨rfl, hb⟩
                refine ⟨_, rfl, ?_⟩
                have n0_ := Aside0.mk (blk_below (g := gb101) (o := .cells #[.string t105, .string t106, .string x102002_20, .string t108, .string x102004_39] 23 (0, 0)) (by (with_reducible repeat (first | refine blk_drewN ?_ _ | refine blk_drew ?_ | refine blk_alloc ?_ _)); exact BK101.out) hb)
                have n1_ := Aside0.mk (blk_below (g := gb102) (o := .cells #[.string x103000_39, .string x103001_39, .string x103002_60, .string x103003_39, .string x103004_39] 23 (0, 0)) (by (with_reducible repeat (first | refine blk_drewN ?_ _ | refine blk_drew ?_ | refine blk_alloc ?_ _)); exact BK102.out) hb)
                have n2_ := Aside0.mk (below_step (by repeat (first | (with_reducible first | exact HB.out | apply below_alloc | apply pw_below_drewN | apply below_drew1 | refine below_set ?_ GE101.out | refine below_set ?_ GE102.out) | exact HB.out)) hb)
                clear BK101
                clear BK102
                clear HB
                have BK101 := n0_
                have BK102 := n1_
                have HB := n2_
                clear n0_ n1_ n2_
                (try clear hb)
                (try clear hb2)
                (try clear hk)
                (try clear hi)
                refine hK.out _ _ ⟨HVia.bc BK101 0 rfl, HVia.bc BK101 1 rfl, HVia.bc BK101 2 rfl, HVia.bc BK101 3 rfl, HVia.bc BK101 4 rfl, HVia.bc BK102 0 rfl, HVia.bc BK102 1 rfl, HVia.bc BK102 2 rfl, HVia.bc BK102 3 rfl, HVia.bc BK102 4 rfl⟩ (fun hHeld => ?_)
                clear hK K
                refine norm_ (a' := ?_) ?_ ?_
                rotate_left
                · show Act.put _ (some 94) _ = _
                  simp only [Act.put, List.setIfInBounds_toArray, List.set_cons_zero, List.set_cons_succ, i64_w, i32_w]
                  rfl
                refine HVia.pS 3 95 b12_ HT_ (by kernel_rfl) rfl rfl (fun _ _ _ h => h) (by rfl) (by intro w'; go_simp; with_reducible rfl) (by simp only [List.set_cons_zero, List.set_cons_succ]; rfl) ?_
                refine HVia.pS 4 96 b13_ HT_ (by kernel_rfl) rfl rfl (fun _ _ _ h => h) (by rfl) (by intro w'; go_simp; with_reducible rfl) (by simp only [List.set_cons_zero, List.set_cons_succ]; rfl) ?_
                refine HVia.tS 5 97 b14_ HT_ HW_ (by kernel_rfl) rfl rfl (fun _ _ _ h => h) hHeld (by rfl) (by rintro w' ⟨s0, s1, s2, s3, s4, s5, s6, s7, s8, s9⟩; go_simp; with_reducible rfl) (by simp only [List.set_cons_zero, List.set_cons_succ]; rfl) ?_
                refine HVia.pS 6 98 b15_ HT_ (by kernel_rfl) rfl rfl (fun _ _ _ h => h) (by rfl) (by intro w'; go_simp; with_reducible rfl) (by simp only [List.set_cons_zero, List.set_cons_succ]; rfl) ?_
                refine HVia.pS 7 99 b16_ HT_ (by kernel_rfl) rfl rfl (fun _ _ _ h => h) (by rfl) (by intro w'; go_simp; with_reducible rfl) (by simp only [List.set_cons_zero, List.set_cons_succ]; rfl) ?_
                refine HVia.pS 8 100 b17_ HT_ (by kernel_rfl) rfl rfl (fun _ _ _ h => h) (by rfl) (by intro w'; go_simp; with_reducible rfl) (by simp only [List.set_cons_zero, List.set_cons_succ]; rfl) ?_
                refine HVia.pS 10 102 b42_ HT_ (by kernel_rfl) rfl rfl (fun _ _ _ h => h) (by rfl) (by intro w'; go_simp; with_reducible rfl) (by simp only [List.set_cons_zero, List.set_cons_succ]; rfl) ?_
                refine HVia.tS 9 101 b19_ HT_ HW_ (by kernel_rfl) rfl rfl (fun _ _ _ h => h) hHeld (by rfl) (by rintro w' ⟨s0, s1, s2, s3, s4, s5, s6, s7, s8, s9⟩; go_simp; with_reducible rfl) (by simp only [List.set_cons_zero, List.set_cons_succ]; rfl) ?_
                refine HVia.tS 11 103 b20_ HT_ HW_ (by kernel_rfl) rfl rfl (fun _ _ _ h => h) hHeld (by rfl) (by rintro w' ⟨s0, s1, s2, s3, s4, s5, s6, s7, s8, s9⟩; go_simp; with_reducible rfl) (by simp only [List.set_cons_zero, List.set_cons_succ]; rfl) ?_
                refine HVia.pS 12 104 b21_ HT_ (by kernel_rfl) rfl rfl (fun _ _ _ h => h) (by rfl) (by intro w'; go_simp; with_reducible rfl) (by simp only [List.set_cons_zero, List.set_cons_succ]; rfl) ?_
                refine HVia.pS 13 105 b22_ HT_ (by kernel_rfl) rfl rfl (fun _ _ _ h => h) (by rfl) (by intro w'; go_simp; with_reducible rfl) (by simp only [List.set_cons_zero, List.set_cons_succ]; rfl) ?_
                refine HVia.pS 14 106 b23_ HT_ (by kernel_rfl) rfl rfl (fun _ _ _ h => h) (by rfl) (by intro w'; go_simp; with_reducible rfl) (by simp only [List.set_cons_zero, List.set_cons_succ]; rfl) ?_
                refine HVia.pS 15 107 b24_ HT_ (by kernel_rfl) rfl rfl (fun _ _ _ h => h) (by rfl) (by intro w'; go_simp; with_reducible rfl) (by simp only [List.set_cons_zero, List.set_cons_succ]; rfl) ?_
                refine HVia.pU 16 108 b25_ HT_ (by kernel_rfl) rfl rfl (fun _ _ _ h => h) (by rfl) (by simp only [List.set_cons_zero, List.set_cons_succ]; rfl) ?_
                refine HVia.pU 17 109 b26_ HT_ (by kernel_rfl) rfl rfl (fun _ _ _ h => h) (by rfl) (by simp only [List.set_cons_zero, List.set_cons_succ]; rfl) ?_
                refine HVia.pU 18 110 b27_ HT_ (by kernel_rfl) rfl rfl (fun _ _ _ h => h) (by rfl) (by simp only [List.set_cons_zero, List.set_cons_succ]; rfl) ?_
                refine HVia.pU 19 111 b28_ HT_ (by kernel_rfl) rfl rfl (fun _ _ _ h => h) (by rfl) (by simp only [List.set_cons_zero, List.set_cons_succ]; rfl) ?_
                refine HVia.pU 20 112 b29_ HT_ (by kernel_rfl) rfl rfl (fun _ _ _ h => h) (by rfl) (by simp only [List.set_cons_zero, List.set_cons_succ]; rfl) ?_
                refine HVia.pU 21 113 b30_ HT_ (by kernel_rfl) rfl rfl (fun _ _ _ h => h) (by rfl) (by simp only [List.set_cons_zero, List.set_cons_succ]; rfl) ?_
                refine HVia.pU 22 114 b31_ HT_ (by kernel_rfl) rfl rfl (fun _ _ _ h => h) (by rfl) (by simp only [List.set_cons_zero, List.set_cons_succ]; rfl) ?_
                refine HVia.pU 23 115 b32_ HT_ (by kernel_rfl) rfl rfl (fun _ _ _ h => h) (by rfl) (by simp only [List.set_cons_zero, List.set_cons_succ]; rfl) ?_
                refine HVia.pU 24 116 b33_ HT_ (by kernel_rfl) rfl rfl (fun _ _ _ h => h) (by rfl) (by simp only [List.set_cons_zero, List.set_cons_succ]; rfl) ?_
                refine HVia.pU 25 117 b34_ HT_ (by kernel_rfl) rfl rfl (fun _ _ _ h => h) (by rfl) (by simp only [List.set_cons_zero, List.set_cons_succ]; rfl) ?_
                refine HVia.pU 26 118 b35_ HT_ (by kernel_rfl) rfl rfl (fun _ _ _ h => h) (by rfl) (by simp only [List.set_cons_zero, List.set_cons_succ]; rfl) ?_
                refine HVia.pU 27 119 b36_ HT_ (by kernel_rfl) rfl rfl (fun _ _ _ h => h) (by rfl) (by simp only [List.set_cons_zero, List.set_cons_succ]; rfl) ?_
                refine HVia.pS 28 120 b37_ HT_ (by kernel_rfl) rfl rfl (fun _ _ _ h => h) (by rfl) (by intro w'; go_simp; with_reducible rfl) (by simp only [List.set_cons_zero, List.set_cons_succ]; rfl) ?_
                refine HVia.pS 29 12 b38_ HT_ (by kernel_rfl) rfl rfl (fun _ _ _ h => h) (by rfl) (by intro w'; go_simp; with_reducible rfl) (by simp only [List.set_cons_zero, List.set_cons_succ]; rfl) ?_
                refine done_ (done_of HT_.out (by kernel_rfl)) ?_
                try go_wp2
                go_meet
                case rel => exact ⟨_, (false), (by first | rfl | (simp; done) | (simp [*]; done)), H', ⟨by have := HJ3.out; have := HJ20.out; have := HJ39.out; have := HJ60.out; have := HJ67.out; first | omega | exact Nat.le_refl _⟩, ⟨by (with_reducible repeat (first | refine blk_drewN ?_ _ | refine blk_drew ?_ | refine blk_alloc ?_ _)); exact BK101.out⟩, ⟨by (with_reducible repeat (first | refine blk_drewN ?_ _ | refine blk_drew ?_ | refine blk_alloc ?_ _)); exact BK102.out⟩, ⟨by repeat (first | (with_reducible first | exact HB.out | apply below_alloc | apply pw_below_drewN | apply below_drew1 | refine below_set ?_ GE101.out | refine below_set ?_ GE102.out) | exact HB.out)⟩⟩
         · replace c90 := Bool.eq_false_iff.mpr c90
           subst c90
           have H1 : (laws_FnIdEqual.j5 kj67 t115 t116 t117 x11_67 false t105 t106 x102002_20 t108 x102004_39 x103000_39 x103001_39 x103002_60 x103003_39 x103004_39) = some r := by rw [if_neg (show ¬ (false = true) by decide)] at H; exact H
           clear H
           have H := H1
           clear H1
           have H' := Aside0.mk H
           clear H
           try go_wp2
           have n0_ := Aside0.mk (blk_drew BK101.out)
           have n1_ := Aside0.mk (blk_drew BK102.out)
           have n2_ := Aside0.mk (below_drew1 HB.out)
           clear BK101
           clear BK102
           clear HB
           have BK101 := n0_
           have BK102 := n1_
           have HB := n2_
           clear n0_ n1_ n2_
           as_aux_lemma =>
            refine start_ (n := 30) (S := fun w' => w'.cell? ⟨gb101, 0, none⟩ = some (.string t105) ∧ w'.cell? ⟨gb101, 1, none⟩ = some (.string t106) ∧ w'.cell? ⟨gb101, 2, none⟩ = some (.string x102002_20) ∧ w'.cell? ⟨gb101, 3, none⟩ = some (.string t108) ∧ w'.cell? ⟨gb101, 4, none⟩ = some (.string x102004_39) ∧ w'.cell? ⟨gb102, 0, none⟩ = some (.string x103000_39) ∧ w'.cell? ⟨gb102, 1, none⟩ = some (.string x103001_39) ∧ w'.cell? ⟨gb102, 2, none⟩ = some (.string x103002_60) ∧ w'.cell? ⟨gb102, 3, none⟩ = some (.string x103003_39) ∧ w'.cell? ⟨gb102, 4, none⟩ = some (.string x103004_39)) (ds := []) b8_ (by kernel_rfl) rfl rfl ⟨HVia.bc BK101 0 rfl, HVia.bc BK101 1 rfl, HVia.bc BK101 2 rfl, HVia.bc BK101 3 rfl, HVia.bc BK101 4 rfl, HVia.bc BK102 0 rfl, HVia.bc BK102 1 rfl, HVia.bc BK102 2 rfl, HVia.bc BK102 3 rfl, HVia.bc BK102 4 rfl⟩ (fun hHeld => ?_); refine with_tabW laws_FnIdEqual.tab25 laws_FnIdEqual.bits25 (fun HT_ HW_ => ?_)
            generalize wc.drew = w113 at BK101 BK102 HB hHeld ⊢
            refine take_ (i := 0) (N := some 92) (v := ?_) (a' := ?_) b9_ rfl rfl (take_ofW HT_.out HW_.out (by kernel_rfl)) (fun _ _ _ h => h) (Or.inl ⟨by rfl, ?_⟩) hHeld ?_ ?_
            rotate_left
            · rintro w' ⟨s0, s1, s2, s3, s4, s5, s6, s7, s8, s9⟩
              go_simp
              with_reducible rfl
            rotate_left
            · simp only [Act.put, List.setIfInBounds_toArray, List.set_cons_zero, List.set_cons_succ, i64_w, i32_w]
              rfl
            refine HVia.tS 1 93 b10_ HT_ HW_ (by kernel_rfl) rfl rfl (fun _ _ _ h => h) hHeld (by rfl) (by rintro w' ⟨s0, s1, s2, s3, s4, s5, s6, s7, s8, s9⟩; go_simp; with_reducible rfl) (by simp only [List.set_cons_zero, List.set_cons_succ]; rfl) ?_
            refine one_ (i := 2) (N := some 94) b11_ rfl rfl (one_of HT_.out (by kernel_rfl)) (by decide) (fun K hK => ?_)
            refine goes_ Try.func10 (by kernel_rfl) rfl #[.agg #[.string t105, .string t106, .string x102002_20, .string t108, .string x102004_39], .agg #[.string x103000_39, .string x103001_39, .string x103002_60, .string x103003_39, .string x103004_39]] (by rfl) rfl rfl (by (try simp only [List.map_toArray, List.map_cons, List.map_nil]); first | done | rfl | (simp only [List.length_drop, List.length_take]; rfl)) ?_
            with_reducible refine (spec_KySelected.calls t105 t106 x102002_20 t108 x102004_39 x103000_39 x103001_39 x103002_60 x103003_39 x103004_39 false _ A89.out).mono ?_
            rintro e w114 ⟨rfl, hb⟩
            refine ⟨_, rfl, ?_⟩
            have n0_ := Aside0.mk (blk_below (g := gb101) (o := .cells #[.string t105, .string t106, .string x102002_20, .string t108, .string x102004_39] 23 (0, 0)) (by (with_reducible repeat (first | refine blk_drewN ?_ _ | refine blk_drew ?_ | refine blk_alloc ?_ _)); exact BK101.out) hb)
            have n1_ := Aside0.mk (blk_below (g := gb102) (o := .cells #[.string x103000_39, .string x103001_39, .string x103002_60, .string x103003_39, .string x103004_39] 23 (0, 0)) (by (with_reducible repeat (first | refine blk_drewN ?_ _ | refine blk_drew ?_ | refine blk_alloc ?_ _)); exact BK102.out) hb)
            have n2_ := Aside0.mk (below_step (by repeat (first | (with_reducible first | exact HB.out | apply below_alloc | apply pw_below_drewN | apply below_drew1 | refine below_set ?_ GE101.out | refine below_set ?_ GE102.out) | exact HB.out)) hb)
            clear BK101
            clear BK102
            clear HB
            have BK101 := n0_
            have BK102 := n1_
            have HB := n2_
            clear n0_ n1_ n2_
            (try clear hb)
            (try clear hb2)
            (try clear hk)
            (try clear hi)
            refine hK.out _ _ ⟨HVia.bc BK101 0 rfl, HVia.bc BK101 1 rfl, HVia.bc BK101 2 rfl, HVia.bc BK101 3 rfl, HVia.bc BK101 4 rfl, HVia.bc BK102 0 rfl, HVia.bc BK102 1 rfl, HVia.bc BK102 2 rfl, HVia.bc BK102 3 rfl, HVia.bc BK102 4 rfl⟩ (fun hHeld => ?_)
            clear hK K
            refine norm_ (a' := ?_) ?_ ?_
            rotate_left
            · show Act.put _ (some 94) _ = _
              simp only [Act.put, List.setIfInBounds_toArray, List.set_cons_zero, List.set_cons_succ, i64_w, i32_w]
              rfl
            refine HVia.pS 3 95 b12_ HT_ (by kernel_rfl) rfl rfl (fun _ _ _ h => h) (by rfl) (by intro w'; go_simp; with_reducible rfl) (by simp only [List.set_cons_zero, List.set_cons_succ]; rfl) ?_
            refine HVia.pU 4 96 b13_ HT_ (by kernel_rfl) rfl rfl (fun _ _ _ h => h) (by rfl) (by simp only [List.set_cons_zero, List.set_cons_succ]; rfl) ?_
            refine HVia.pU 5 97 b14_ HT_ (by kernel_rfl) rfl rfl (fun _ _ _ h => h) (by rfl) (by simp only [List.set_cons_zero, List.set_cons_succ]; rfl) ?_
            refine HVia.pU 6 98 b15_ HT_ (by kernel_rfl) rfl rfl (fun _ _ _ h => h) (by rfl) (by simp only [List.set_cons_zero, List.set_cons_succ]; rfl) ?_
            refine HVia.pU 7 99 b16_ HT_ (by kernel_rfl) rfl rfl (fun _ _ _ h => h) (by rfl) (by simp only [List.set_cons_zero, List.set_cons_succ]; rfl) ?_
            refine HVia.pU 8 100 b17_ HT_ (by kernel_rfl) rfl rfl (fun _ _ _ h => h) (by rfl) (by simp only [List.set_cons_zero, List.set_cons_succ]; rfl) ?_
            refine HVia.pU 9 101 b18_ HT_ (by kernel_rfl) rfl rfl (fun _ _ _ h => h) (by rfl) (by simp only [List.set_cons_zero, List.set_cons_succ]; rfl) ?_
            refine HVia.pU 10 102 b19_ HT_ (by kernel_rfl) rfl rfl (fun _ _ _ h => h) (by rfl) (by simp only [List.set_cons_zero, List.set_cons_succ]; rfl) ?_
            refine HVia.pU 11 103 b20_ HT_ (by kernel_rfl) rfl rfl (fun _ _ _ h => h) (by rfl) (by simp only [List.set_cons_zero, List.set_cons_succ]; rfl) ?_
            refine HVia.pU 12 104 b21_ HT_ (by kernel_rfl) rfl rfl (fun _ _ _ h => h) (by rfl) (by simp only [List.set_cons_zero, List.set_cons_succ]; rfl) ?_
            refine HVia.pU 13 105 b22_ HT_ (by kernel_rfl) rfl rfl (fun _ _ _ h => h) (by rfl) (by simp only [List.set_cons_zero, List.set_cons_succ]; rfl) ?_
            refine HVia.pS 14 106 b23_ HT_ (by kernel_rfl) rfl rfl (fun _ _ _ h => h) (by rfl) (by intro w'; go_simp; with_reducible rfl) (by simp only [List.set_cons_zero, List.set_cons_succ]; rfl) ?_
            refine HVia.pS 15 107 b24_ HT_ (by kernel_rfl) rfl rfl (fun _ _ _ h => h) (by rfl) (by intro w'; go_simp; with_reducible rfl) (by simp only [List.set_cons_zero, List.set_cons_succ]; rfl) ?_
            refine HVia.pU 16 108 b25_ HT_ (by kernel_rfl) rfl rfl (fun _ _ _ h => h) (by rfl) (by simp only [List.set_cons_zero, List.set_cons_succ]; rfl) ?_
            refine HVia.pU 17 109 b26_ HT_ (by kernel_rfl) rfl rfl (fun _ _ _ h => h) (by rfl) (by simp only [List.set_cons_zero, List.set_cons_succ]; rfl) ?_
            refine HVia.pU 18 110 b27_ HT_ (by kernel_rfl) rfl rfl (fun _ _ _ h => h) (by rfl) (by simp only [List.set_cons_zero, List.set_cons_succ]; rfl) ?_
            refine HVia.pU 19 111 b28_ HT_ (by kernel_rfl) rfl rfl (fun _ _ _ h => h) (by rfl) (by simp only [List.set_cons_zero, List.set_cons_succ]; rfl) ?_
            refine HVia.pU 20 112 b29_ HT_ (by kernel_rfl) rfl rfl (fun _ _ _ h => h) (by rfl) (by simp only [List.set_cons_zero, List.set_cons_succ]; rfl) ?_
            refine HVia.pU 21 113 b30_ HT_ (by kernel_rfl) rfl rfl (fun _ _ _ h => h) (by rfl) (by simp only [List.set_cons_zero, List.set_cons_succ]; rfl) ?_
            refine HVia.pU 22 114 b31_ HT_ (by kernel_rfl) rfl rfl (fun _ _ _ h => h) (by rfl) (by simp only [List.set_cons_zero, List.set_cons_succ]; rfl) ?_
            refine HVia.pU 23 115 b32_ HT_ (by kernel_rfl) rfl rfl (fun _ _ _ h => h) (by rfl) (by simp only [List.set_cons_zero, List.set_cons_succ]; rfl) ?_
            refine HVia.pU 24 116 b33_ HT_ (by kernel_rfl) rfl rfl (fun _ _ _ h => h) (by rfl) (by simp only [List.set_cons_zero, List.set_cons_succ]; rfl) ?_
            refine HVia.pU 25 117 b34_ HT_ (by kernel_rfl) rfl rfl (fun _ _ _ h => h) (by rfl) (by simp only [List.set_cons_zero, List.set_cons_succ]; rfl) ?_
            refine HVia.pU 26 118 b35_ HT_ (by kernel_rfl) rfl rfl (fun _ _ _ h => h) (by rfl) (by simp only [List.set_cons_zero, List.set_cons_succ]; rfl) ?_
            refine HVia.pU 27 119 b36_ HT_ (by kernel_rfl) rfl rfl (fun _ _ _ h => h) (by rfl) (by simp only [List.set_cons_zero, List.set_cons_succ]; rfl) ?_
            refine HVia.pS 28 120 b37_ HT_ (by kernel_rfl) rfl rfl (fun _ _ _ h => h) (by rfl) (by intro w'; go_simp; with_reducible rfl) (by simp only [List.set_cons_zero, List.set_cons_succ]; rfl) ?_
            refine HVia.pS 29 12 b38_ HT_ (by kernel_rfl) rfl rfl (fun _ _ _ h => h) (by rfl) (by intro w'; go_simp; with_reducible rfl) (by simp only [List.set_cons_zero, List.set_cons_succ]; rfl) ?_
            refine done_ (done_of HT_.out (by kernel_rfl)) ?_
            try go_wp2
            go_meet
            case rel => exact ⟨_, (false), (by first | rfl | (simp; done) | (simp [*]; done)), H', ⟨by have := HJ3.out; have := HJ20.out; have := HJ39.out; have := HJ60.out; have := HJ67.out; first | omega | exact Nat.le_refl _⟩, ⟨by (with_reducible repeat (first | refine blk_drewN ?_ _ | refine blk_drew ?_ | refine blk_alloc ?_ _)); exact BK101.out⟩, ⟨by (with_reducible repeat (first | refine blk_drewN ?_ _ | refine blk_drew ?_ | refine blk_alloc ?_ _)); exact BK102.out⟩, ⟨by repeat (first | (with_reducible first | exact HB.out | apply below_alloc | apply pw_below_drewN | apply below_drew1 | refine below_set ?_ GE101.out | refine below_set ?_ GE102.out) | exact HB.out)⟩⟩
        clear HC88
        try clear c1
        try clear p2
        try clear c8
        try clear c9
        try clear c10
        try clear c90
        try clear c101
        try clear c101b0
        try clear c101b1
        obtain ⟨kq, x12_87, rfl, HA, HJ87, BK101, BK102, HB⟩ := hcut
        cases kq with
        | zero => exact absurd HA.out (by simp [laws_FnIdEqual.j5])
        | succ kj87 =>
         have H := HA.out
         clear HA
         simp only [laws_FnIdEqual.j5] at H
         replace H := Option.bind_eq_some_iff.mp H
         obtain ⟨⟨t123, t124, t125⟩, A1150, H⟩ := H
         replace H : (if (t116 == x11_67) = true then (if x11_67 = true then ((laws_FnIdEqual_1.f t105 t106 x102002_20 t108 x102004_39).bind fun t126 => ((laws_FnIdEqual_1.f x103000_39 x103001_39 x103002_60 x103003_39 x103004_39).bind fun t127 => (if (t115 == (t126.toList == t127.toList)) = true then (if (t117 == x12_87) = true then (some t124) else (some false)) else (some false)))) else (if (t115 == false) = true then (if (t117 == x12_87) = true then (some t124) else (some false)) else (some false))) else (some false)) = some r := H
         have A115 := Aside0.mk A1150
         clear A1150
         by_cases c116 : (t116 == x11_67) = true
         · rw [if_pos c116] at H
           have c116b0 : (t116 == x11_67) = true := c116
           (try (have c116b1 : decide (t116 = x11_67) = true := by simpa using c116))
           (try (have c116b2 : (t116 == x11_67) = true := by simpa using c116))
           clear c116
           by_cases c117 : x11_67 = true
           · subst c117
             have H1 : ((laws_FnIdEqual_1.f t105 t106 x102002_20 t108 x102004_39).bind fun t126 => ((laws_FnIdEqual_1.f x103000_39 x103001_39 x103002_60 x103003_39 x103004_39).bind fun t127 => (if (t115 == (t126.toList == t127.toList)) = true then (if (t117 == x12_87) = true then (some t124) else (some false)) else (some false)))) = some r := by rw [if_pos rfl] at H; exact H
             clear H
             have H := H1
             clear H1
             replace H := Option.bind_eq_some_iff.mp H
             obtain ⟨t126, A1180, H⟩ := H
             replace H : ((laws_FnIdEqual_1.f x103000_39 x103001_39 x103002_60 x103003_39 x103004_39).bind fun t127 => (if (t115 == (t126.toList == t127.toList)) = true then (if (t117 == x12_87) = true then (some t124) else (some false)) else (some false))) = some r := H
             have A118 := Aside0.mk A1180
             clear A1180
             replace H := Option.bind_eq_some_iff.mp H
             obtain ⟨t127, A1190, H⟩ := H
             replace H : (if (t115 == (t126.toList == t127.toList)) = true then (if (t117 == x12_87) = true then (some t124) else (some false)) else (some false)) = some r := H
             have A119 := Aside0.mk A1190
             clear A1190
             by_cases c120 : (t115 == (t126.toList == t127.toList)) = true
             · rw [if_pos c120] at H
               have c120b0 : (t115 == (t126.toList == t127.toList)) = true := c120
               (try (have c120b1 : decide (t115 = (t126.toList == t127.toList)) = true := by simpa using c120))
               (try (have c120b2 : (t115 == (t126.toList == t127.toList)) = true := by simpa using c120))
               clear c120
               by_cases c121 : (t117 == x12_87) = true
               · rw [if_pos c121] at H
                 have c121b0 : (t117 == x12_87) = true := c121
                 (try (have c121b1 : decide (t117 = x12_87) = true := by simpa using c121))
                 (try (have c121b2 : (t117 == x12_87) = true := by simpa using c121))
                 clear c121
                 obtain rfl := Option.some.inj H
                 try go_wp2_with (first | ((with_reducible refine gate_callee (f := 9) rfl ?_); refine goesL_ (some 124) rfl rfl Try.func9 (by kernel_rfl) rfl #[.agg #[.string (⟨#[]⟩ : ByteArray), .string (⟨#[]⟩ : ByteArray), .string (⟨#[90, 122]⟩ : ByteArray), .string (⟨#[]⟩ : ByteArray), .string (⟨#[]⟩ : ByteArray)], .agg #[.string (⟨#[]⟩ : ByteArray), .string (⟨#[]⟩ : ByteArray), .string (⟨#[90, 122]⟩ : ByteArray), .string (⟨#[]⟩ : ByteArray), .string (⟨#[]⟩ : ByteArray)]] rfl (by (try simp only [List.map_toArray, List.map_cons, List.map_nil]); first | done | rfl | (simp only [List.length_drop, List.length_take]; rfl)) ?_; (with_reducible refine (impl_IdEqual.calls (⟨#[]⟩ : ByteArray) (⟨#[]⟩ : ByteArray) (⟨#[90, 122]⟩ : ByteArray) (⟨#[]⟩ : ByteArray) (⟨#[]⟩ : ByteArray) (⟨#[]⟩ : ByteArray) (⟨#[]⟩ : ByteArray) (⟨#[90, 122]⟩ : ByteArray) (⟨#[]⟩ : ByteArray) (⟨#[]⟩ : ByteArray) t123 t124 t125 _ A115.out).mono ?_); rintro e w122 ⟨rfl, hb⟩; refine ⟨_, rfl, ?_⟩; have n0_ := Aside0.mk (blk_below (g := gb101) (o := .cells #[.string t105, .string t106, .string x102002_20, .string t108, .string x102004_39] 23 (0, 0)) (by (with_reducible repeat (first | refine blk_drewN ?_ _ | refine blk_drew ?_ | refine blk_alloc ?_ _)); exact BK101.out) hb); have n1_ := Aside0.mk (blk_below (g := gb102) (o := .cells #[.string x103000_39, .string x103001_39, .string x103002_60, .string x103003_39, .string x103004_39] 23 (0, 0)) (by (with_reducible repeat (first | refine blk_drewN ?_ _ | refine blk_drew ?_ | refine blk_alloc ?_ _)); exact BK102.out) hb); have n2_ := Aside0.mk (below_step (by repeat (first | (with_reducible first | exact HB.out | apply below_alloc | apply pw_below_drewN | apply below_drew1 | refine below_set ?_ GE101.out | refine below_set ?_ GE102.out) | exact HB.out)) hb); clear BK101; clear BK102; clear HB; have BK101 := n0_; have BK102 := n1_; have HB := n2_; clear n0_ n1_ n2_; (try clear hb); (try clear hb2); (try clear hk); (try clear hi)))
                 have n0_ := Aside0.mk (blk_drew BK101.out)
                 have n1_ := Aside0.mk (blk_drew BK102.out)
                 have n2_ := Aside0.mk (below_drew1 HB.out)
                 clear BK101
                 clear BK102
                 clear HB
                 have BK101 := n0_
                 have BK102 := n1_
                 have HB := n2_
                 clear n0_ n1_ n2_
                 as_aux_lemma =>
                  refine start_ (n := 26) (S := fun w' => w'.cell? ⟨gb101, 0, none⟩ = some (.string t105) ∧ w'.cell? ⟨gb101, 1, none⟩ = some (.string t106) ∧ w'.cell? ⟨gb101, 2, none⟩ = some (.string x102002_20) ∧ w'.cell? ⟨gb101, 3, none⟩ = some (.string t108) ∧ w'.cell? ⟨gb101, 4, none⟩ = some (.string x102004_39) ∧ w'.cell? ⟨gb102, 0, none⟩ = some (.string x103000_39) ∧ w'.cell? ⟨gb102, 1, none⟩ = some (.string x103001_39) ∧ w'.cell? ⟨gb102, 2, none⟩ = some (.string x103002_60) ∧ w'.cell? ⟨gb102, 3, none⟩ = some (.string x103003_39) ∧ w'.cell? ⟨gb102, 4, none⟩ = some (.string x103004_39)) (ds := []) b43_ (by kernel_rfl) rfl rfl ⟨HVia.bc BK101 0 rfl, HVia.bc BK101 1 rfl, HVia.bc BK101 2 rfl, HVia.bc BK101 3 rfl, HVia.bc BK101 4 rfl, HVia.bc BK102 0 rfl, HVia.bc BK102 1 rfl, HVia.bc BK102 2 rfl, HVia.bc BK102 3 rfl, HVia.bc BK102 4 rfl⟩ (fun hHeld => ?_); refine with_tabW laws_FnIdEqual.tab27 laws_FnIdEqual.bits27 (fun HT_ HW_ => ?_)
                  generalize w122.drew = w123 at BK101 BK102 HB hHeld ⊢
                  refine pure_ (i := 0) (N := some 128) (v := ?_) (a' := ?_) b44_ rfl rfl (any_of HT_.out (by kernel_rfl)) (fun _ _ _ h => h) (Or.inl ⟨by rfl, ?_⟩) ?_ ?_
                  rotate_left
                  · intro w'
                    go_simp
                    with_reducible rfl
                  rotate_left
                  · simp only [Act.put, List.setIfInBounds_toArray, List.set_cons_zero, List.set_cons_succ, i64_w, i32_w]
                    rfl
                  refine HVia.pS 1 129 b45_ HT_ (by kernel_rfl) rfl rfl (fun _ _ _ h => h) (by rfl) (by intro w'; go_simp; with_reducible rfl) (by simp only [List.set_cons_zero, List.set_cons_succ]; rfl) ?_
                  refine HVia.pS 2 130 b46_ HT_ (by kernel_rfl) rfl rfl (fun _ _ _ h => h) (by rfl) (by intro w'; go_simp; with_reducible rfl) (by simp only [List.set_cons_zero, List.set_cons_succ]; rfl) ?_
                  refine HVia.pS 3 131 b47_ HT_ (by kernel_rfl) rfl rfl (fun _ _ _ h => h) (by rfl) (by intro w'; go_simp; with_reducible rfl) (by simp only [List.set_cons_zero, List.set_cons_succ]; rfl) ?_
                  refine HVia.pS 4 132 b48_ HT_ (by kernel_rfl) rfl rfl (fun _ _ _ h => h) (by rfl) (by intro w'; go_simp; with_reducible rfl) (by simp only [List.set_cons_zero, List.set_cons_succ]; rfl) ?_
                  refine HVia.pS 5 133 b49_ HT_ (by kernel_rfl) rfl rfl (fun _ _ _ h => h) (by rfl) (by intro w'; go_simp; with_reducible rfl) (by simp only [List.set_cons_zero, List.set_cons_succ]; rfl) ?_
                  refine HVia.pS 6 134 b50_ HT_ (by kernel_rfl) rfl rfl (fun _ _ _ h => h) (by rfl) (by intro w'; go_simp; with_reducible rfl) (by simp only [List.set_cons_zero, List.set_cons_succ]; rfl) ?_
                  refine HVia.pS 7 135 b51_ HT_ (by kernel_rfl) rfl rfl (fun _ _ _ h => h) (by rfl) (by intro w'; go_simp; with_reducible rfl) (by simp only [List.set_cons_zero, List.set_cons_succ]; rfl) ?_
                  refine HVia.pS 10 138 b52_ HT_ (by kernel_rfl) rfl rfl (fun _ _ _ h => h) (by rfl) (by intro w'; go_simp; with_reducible rfl) (by simp only [List.set_cons_zero, List.set_cons_succ]; rfl) ?_
                  refine HVia.tS 8 136 b53_ HT_ HW_ (by kernel_rfl) rfl rfl (fun _ _ _ h => h) hHeld (by rfl) (by rintro w' ⟨s0, s1, s2, s3, s4, s5, s6, s7, s8, s9⟩; go_simp; with_reducible rfl) (by simp only [List.set_cons_zero, List.set_cons_succ]; rfl) ?_
                  refine HVia.tS 11 139 b54_ HT_ HW_ (by kernel_rfl) rfl rfl (fun _ _ _ h => h) hHeld (by rfl) (by rintro w' ⟨s0, s1, s2, s3, s4, s5, s6, s7, s8, s9⟩; go_simp; with_reducible rfl) (by simp only [List.set_cons_zero, List.set_cons_succ]; rfl) ?_
                  refine one_ (i := 9) (N := some 137) b55_ rfl rfl (one_of HT_.out (by kernel_rfl)) (by decide) (fun K hK => ?_)
                  refine HVia.goesT_ Try.func8 (by kernel_rfl) rfl #[.agg #[.string t105, .string t106, .string x102002_20, .string t108, .string x102004_39]] (by rfl) rfl rfl rfl (by (try simp only [List.map_toArray, List.map_cons, List.map_nil]); first | done | rfl | (simp only [List.length_drop, List.length_take]; rfl)) ?_
                  with_reducible refine (laws_FnIdEqual_1.calls t105 t106 x102002_20 t108 x102004_39 t126 _ A118.out).mono ?_
                  rintro e w124 ⟨rfl, hb⟩
                  refine ⟨_, rfl, ?_⟩
                  have n0_ := Aside0.mk (blk_below (g := gb101) (o := .cells #[.string t105, .string t106, .string x102002_20, .string t108, .string x102004_39] 23 (0, 0)) (by (with_reducible repeat (first | refine blk_drewN ?_ _ | refine blk_drew ?_ | refine blk_alloc ?_ _)); exact BK101.out) hb)
                  have n1_ := Aside0.mk (blk_below (g := gb102) (o := .cells #[.string x103000_39, .string x103001_39, .string x103002_60, .string x103003_39, .string x103004_39] 23 (0, 0)) (by (with_reducible repeat (first | refine blk_drewN ?_ _ | refine blk_drew ?_ | refine blk_alloc ?_ _)); exact BK102.out) hb)
                  have n2_ := Aside0.mk (below_step (by repeat (first | (with_reducible first | exact HB.out | apply below_alloc | apply pw_below_drewN | apply below_drew1 | refine below_set ?_ GE101.out | refine below_set ?_ GE102.out) | exact HB.out)) hb)
                  clear BK101
                  clear BK102
                  clear HB
                  have BK101 := n0_
                  have BK102 := n1_
                  have HB := n2_
                  clear n0_ n1_ n2_
                  (try clear hb)
                  (try clear hb2)
                  (try clear hk)
                  (try clear hi)
                  refine hK.out _ _ ⟨HVia.bc BK101 0 rfl, HVia.bc BK101 1 rfl, HVia.bc BK101 2 rfl, HVia.bc BK101 3 rfl, HVia.bc BK101 4 rfl, HVia.bc BK102 0 rfl, HVia.bc BK102 1 rfl, HVia.bc BK102 2 rfl, HVia.bc BK102 3 rfl, HVia.bc BK102 4 rfl⟩ (fun hHeld => ?_)
                  clear hK K
                  refine norm_ (a' := ?_) ?_ ?_
                  rotate_left
                  · show Act.put _ (some 137) _ = _
                    simp only [Act.put, List.setIfInBounds_toArray, List.set_cons_zero, List.set_cons_succ, i64_w, i32_w]
                    rfl
                  refine one_ (i := 12) (N := some 140) b56_ rfl rfl (one_of HT_.out (by kernel_rfl)) (by decide) (fun K hK => ?_)
                  refine HVia.goesT_ Try.func8 (by kernel_rfl) rfl #[.agg #[.string x103000_39, .string x103001_39, .string x103002_60, .string x103003_39, .string x103004_39]] (by rfl) rfl rfl rfl (by (try simp only [List.map_toArray, List.map_cons, List.map_nil]); first | done | rfl | (simp only [List.length_drop, List.length_take]; rfl)) ?_
                  with_reducible refine (laws_FnIdEqual_1.calls x103000_39 x103001_39 x103002_60 x103003_39 x103004_39 t127 _ A119.out).mono ?_
                  rintro e w125 ⟨rfl, hb⟩
                  refine ⟨_, rfl, ?_⟩
                  have n0_ := Aside0.mk (blk_below (g := gb101) (o := .cells #[.string t105, .string t106, .string x102002_20, .string t108, .string x102004_39] 23 (0, 0)) (by (with_reducible repeat (first | refine blk_drewN ?_ _ | refine blk_drew ?_ | refine blk_alloc ?_ _)); exact BK101.out) hb)
                  have n1_ := Aside0.mk (blk_below (g := gb102) (o := .cells #[.string x103000_39, .string x103001_39, .string x103002_60, .string x103003_39, .string x103004_39] 23 (0, 0)) (by (with_reducible repeat (first | refine blk_drewN ?_ _ | refine blk_drew ?_ | refine blk_alloc ?_ _)); exact BK102.out) hb)
                  have n2_ := Aside0.mk (below_step (by repeat (first | (with_reducible first | exact HB.out | apply below_alloc | apply pw_below_drewN | apply below_drew1 | refine below_set ?_ GE101.out | refine below_set ?_ GE102.out) | exact HB.out)) hb)
                  clear BK101
                  clear BK102
                  clear HB
                  have BK101 := n0_
                  have BK102 := n1_
                  have HB := n2_
                  clear n0_ n1_ n2_
                  (try clear hb)
                  (try clear hb2)
                  (try clear hk)
                  (try clear hi)
                  refine hK.out _ _ ⟨HVia.bc BK101 0 rfl, HVia.bc BK101 1 rfl, HVia.bc BK101 2 rfl, HVia.bc BK101 3 rfl, HVia.bc BK101 4 rfl, HVia.bc BK102 0 rfl, HVia.bc BK102 1 rfl, HVia.bc BK102 2 rfl, HVia.bc BK102 3 rfl, HVia.bc BK102 4 rfl⟩ (fun hHeld => ?_)
                  clear hK K
                  refine norm_ (a' := ?_) ?_ ?_
                  rotate_left
                  · show Act.put _ (some 140) _ = _
                    simp only [Act.put, List.setIfInBounds_toArray, List.set_cons_zero, List.set_cons_succ, i64_w, i32_w]
                    rfl
                  refine HVia.pS 13 141 b57_ HT_ (by kernel_rfl) rfl rfl (fun _ _ _ h => h) (by rfl) (by intro w'; go_simp; with_reducible rfl) (by simp only [List.set_cons_zero, List.set_cons_succ]; rfl) ?_
                  refine HVia.pS 14 142 b58_ HT_ (by kernel_rfl) rfl rfl (fun _ _ _ h => h) (by rfl) (by intro w'; go_simp; with_reducible rfl) (by simp only [List.set_cons_zero, List.set_cons_succ]; rfl) ?_
                  refine HVia.pS 15 143 b59_ HT_ (by kernel_rfl) rfl rfl (fun _ _ _ h => h) (by rfl) (by intro w'; go_simp; with_reducible rfl) (by simp only [List.set_cons_zero, List.set_cons_succ]; rfl) ?_
                  refine HVia.pS 16 144 b60_ HT_ (by kernel_rfl) rfl rfl (fun _ _ _ h => h) (by rfl) (by intro w'; go_simp; with_reducible rfl) (by simp only [List.set_cons_zero, List.set_cons_succ]; rfl) ?_
                  refine HVia.pS 17 145 b61_ HT_ (by kernel_rfl) rfl rfl (fun _ _ _ h => h) (by rfl) (by intro w'; go_simp; with_reducible rfl) (by simp only [List.set_cons_zero, List.set_cons_succ]; rfl) ?_
                  refine HVia.pS 18 146 b62_ HT_ (by kernel_rfl) rfl rfl (fun _ _ _ h => h) (by rfl) (by intro w'; go_simp; with_reducible rfl) (by simp only [List.set_cons_zero, List.set_cons_succ]; rfl) ?_
                  refine HVia.pS 19 147 b63_ HT_ (by kernel_rfl) rfl rfl (fun _ _ _ h => h) (by rfl) (by intro w'; go_simp; with_reducible rfl) (by simp only [List.set_cons_zero, List.set_cons_succ]; rfl) ?_
                  refine HVia.pS 20 148 b64_ HT_ (by kernel_rfl) rfl rfl (fun _ _ _ h => h) (by rfl) (by intro w'; go_simp; with_reducible rfl) (by simp only [List.set_cons_zero, List.set_cons_succ]; rfl) ?_
                  refine HVia.pS 21 149 b65_ HT_ (by kernel_rfl) rfl rfl (fun _ _ _ h => h) (by rfl) (by intro w'; go_simp; with_reducible rfl) (by simp only [List.set_cons_zero, List.set_cons_succ]; rfl) ?_
                  refine HVia.pS 22 150 b66_ HT_ (by kernel_rfl) rfl rfl (fun _ _ _ h => h) (by rfl) (by intro w'; go_simp; with_reducible rfl) (by simp only [List.set_cons_zero, List.set_cons_succ]; rfl) ?_
                  refine HVia.pS 23 151 b67_ HT_ (by kernel_rfl) rfl rfl (fun _ _ _ h => h) (by rfl) (by intro w'; go_simp; with_reducible rfl) (by simp only [List.set_cons_zero, List.set_cons_succ]; rfl) ?_
                  refine HVia.pS 24 152 b68_ HT_ (by kernel_rfl) rfl rfl (fun _ _ _ h => h) (by rfl) (by intro w'; go_simp; with_reducible rfl) (by simp only [List.set_cons_zero, List.set_cons_succ]; rfl) ?_
                  refine HVia.pS 25 6 b69_ HT_ (by kernel_rfl) rfl rfl (fun _ _ _ h => h) (by rfl) (by intro w'; go_simp; with_reducible rfl) (by simp only [List.set_cons_zero, List.set_cons_succ]; rfl) ?_
                  refine done_ (done_of HT_.out (by kernel_rfl)) ?_
                  try go_wp2
                  go_ret
                  exact ⟨by first | rfl | (simp [errW_none, errW_some] <;> rfl) | (simp [*, errW_none, errW_some] <;> rfl), by repeat (first | (with_reducible first | exact HB.out | apply below_alloc | apply pw_below_drewN | apply below_drew1 | refine below_set ?_ GE101.out | refine below_set ?_ GE102.out) | exact HB.out)⟩
               · rw [if_neg c121] at H
                 have c121b0 : (t117 == x12_87) = false := by simpa using c121
                 (try (have c121b1 : decide (t117 = x12_87) = false := by simpa using c121))
                 (try (have c121b2 : (t117 == x12_87) = false := by simpa using c121))
                 (try (have c121b3 : ¬ (t117 = x12_87) := by simpa using c121))
                 clear c121
                 obtain rfl := Option.some.inj H
                 try go_wp2_with (first | ((with_reducible refine gate_callee (f := 9) rfl ?_); refine goesL_ (some 124) rfl rfl Try.func9 (by kernel_rfl) rfl #[.agg #[.string (⟨#[]⟩ : ByteArray), .string (⟨#[]⟩ : ByteArray), .string (⟨#[90, 122]⟩ : ByteArray), .string (⟨#[]⟩ : ByteArray), .string (⟨#[]⟩ : ByteArray)], .agg #[.string (⟨#[]⟩ : ByteArray), .string (⟨#[]⟩ : ByteArray), .string (⟨#[90, 122]⟩ : ByteArray), .string (⟨#[]⟩ : ByteArray), .string (⟨#[]⟩ : ByteArray)]] rfl (by (try simp only [List.map_toArray, List.map_cons, List.map_nil]); first | done | rfl | (simp only [List.length_drop, List.length_take]; rfl)) ?_; (with_reducible refine (impl_IdEqual.calls (⟨#[]⟩ : ByteArray) (⟨#[]⟩ : ByteArray) (⟨#[90, 122]⟩ : ByteArray) (⟨#[]⟩ : ByteArray) (⟨#[]⟩ : ByteArray) (⟨#[]⟩ : ByteArray) (⟨#[]⟩ : ByteArray) (⟨#[90, 122]⟩ : ByteArray) (⟨#[]⟩ : ByteArray) (⟨#[]⟩ : ByteArray) t123 t124 t125 _ A115.out).mono ?_); rintro e w126 ⟨rfl, hb⟩; refine ⟨_, rfl, ?_⟩; have n0_ := Aside0.mk (blk_below (g := gb101) (o := .cells #[.string t105, .string t106, .string x102002_20, .string t108, .string x102004_39] 23 (0, 0)) (by (with_reducible repeat (first | refine blk_drewN ?_ _ | refine blk_drew ?_ | refine blk_alloc ?_ _)); exact BK101.out) hb); have n1_ := Aside0.mk (blk_below (g := gb102) (o := .cells #[.string x103000_39, .string x103001_39, .string x103002_60, .string x103003_39, .string x103004_39] 23 (0, 0)) (by (with_reducible repeat (first | refine blk_drewN ?_ _ | refine blk_drew ?_ | refine blk_alloc ?_ _)); exact BK102.out) hb); have n2_ := Aside0.mk (below_step (by repeat (first | (with_reducible first | exact HB.out | apply below_alloc | apply pw_below_drewN | apply below_drew1 | refine below_set ?_ GE101.out | refine below_set ?_ GE102.out) | exact HB.out)) hb); clear BK101; clear BK102; clear HB; have BK101 := n0_; have BK102 := n1_; have HB := n2_; clear n0_ n1_ n2_; (try clear hb); (try clear hb2); (try clear hk); (try clear hi)))
                 have n0_ := Aside0.mk (blk_drew BK101.out)
                 have n1_ := Aside0.mk (blk_drew BK102.out)
                 have n2_ := Aside0.mk (below_drew1 HB.out)
                 clear BK101
                 clear BK102
                 clear HB
                 have BK101 := n0_
                 have BK102 := n1_
                 have HB := n2_
                 clear n0_ n1_ n2_
                 as_aux_lemma =>
                  refine start_ (n := 26) (S := fun w' => w'.cell? ⟨gb101, 0, none⟩ = some (.string t105) ∧ w'.cell? ⟨gb101, 1, none⟩ = some (.string t106) ∧ w'.cell? ⟨gb101, 2, none⟩ = some (.string x102002_20) ∧ w'.cell? ⟨gb101, 3, none⟩ = some (.string t108) ∧ w'.cell? ⟨gb101, 4, none⟩ = some (.string x102004_39) ∧ w'.cell? ⟨gb102, 0, none⟩ = some (.string x103000_39) ∧ w'.cell? ⟨gb102, 1, none⟩ = some (.string x103001_39) ∧ w'.cell? ⟨gb102, 2, none⟩ = some (.string x103002_60) ∧ w'.cell? ⟨gb102, 3, none⟩ = some (.string x103003_39) ∧ w'.cell? ⟨gb102, 4, none⟩ = some (.string x103004_39)) (ds := []) b43_ (by kernel_rfl) rfl rfl ⟨HVia.bc BK101 0 rfl, HVia.bc BK101 1 rfl, HVia.bc BK101 2 rfl, HVia.bc BK101 3 rfl, HVia.bc BK101 4 rfl, HVia.bc BK102 0 rfl, HVia.bc BK102 1 rfl, HVia.bc BK102 2 rfl, HVia.bc BK102 3 rfl, HVia.bc BK102 4 rfl⟩ (fun hHeld => ?_); refine with_tabW laws_FnIdEqual.tab27 laws_FnIdEqual.bits27 (fun HT_ HW_ => ?_)
                  generalize w126.drew = w127 at BK101 BK102 HB hHeld ⊢
                  refine pure_ (i := 0) (N := some 128) (v := ?_) (a' := ?_) b44_ rfl rfl (any_of HT_.out (by kernel_rfl)) (fun _ _ _ h => h) (Or.inl ⟨by rfl, ?_⟩) ?_ ?_
                  rotate_left
                  · intro w'
                    go_simp
                    with_reducible rfl
                  rotate_left
                  · simp only [Act.put, List.setIfInBounds_toArray, List.set_cons_zero, List.set_cons_succ, i64_w, i32_w]
                    rfl
                  refine HVia.pS 1 129 b45_ HT_ (by kernel_rfl) rfl rfl (fun _ _ _ h => h) (by rfl) (by intro w'; go_simp; with_reducible rfl) (by simp only [List.set_cons_zero, List.set_cons_succ]; rfl) ?_
                  refine HVia.pS 2 130 b46_ HT_ (by kernel_rfl) rfl rfl (fun _ _ _ h => h) (by rfl) (by intro w'; go_simp; with_reducible rfl) (by simp only [List.set_cons_zero, List.set_cons_succ]; rfl) ?_
                  refine HVia.pS 3 131 b47_ HT_ (by kernel_rfl) rfl rfl (fun _ _ _ h => h) (by rfl) (by intro w'; go_simp; with_reducible rfl) (by simp only [List.set_cons_zero, List.set_cons_succ]; rfl) ?_
                  refine HVia.pS 4 132 b48_ HT_ (by kernel_rfl) rfl rfl (fun _ _ _ h => h) (by rfl) (by intro w'; go_simp; with_reducible rfl) (by simp only [List.set_cons_zero, List.set_cons_succ]; rfl) ?_
                  refine HVia.pS 5 133 b49_ HT_ (by kernel_rfl) rfl rfl (fun _ _ _ h => h) (by rfl) (by intro w'; go_simp; with_reducible rfl) (by simp only [List.set_cons_zero, List.set_cons_succ]; rfl) ?_
                  refine HVia.pS 6 134 b50_ HT_ (by kernel_rfl) rfl rfl (fun _ _ _ h => h) (by rfl) (by intro w'; go_simp; with_reducible rfl) (by simp only [List.set_cons_zero, List.set_cons_succ]; rfl) ?_
                  refine HVia.pS 7 135 b51_ HT_ (by kernel_rfl) rfl rfl (fun _ _ _ h => h) (by rfl) (by intro w'; go_simp; with_reducible rfl) (by simp only [List.set_cons_zero, List.set_cons_succ]; rfl) ?_
                  refine HVia.pS 10 138 b52_ HT_ (by kernel_rfl) rfl rfl (fun _ _ _ h => h) (by rfl) (by intro w'; go_simp; with_reducible rfl) (by simp only [List.set_cons_zero, List.set_cons_succ]; rfl) ?_
                  refine HVia.tS 8 136 b53_ HT_ HW_ (by kernel_rfl) rfl rfl (fun _ _ _ h => h) hHeld (by rfl) (by rintro w' ⟨s0, s1, s2, s3, s4, s5, s6, s7, s8, s9⟩; go_simp; with_reducible rfl) (by simp only [List.set_cons_zero, List.set_cons_succ]; rfl) ?_
                  refine HVia.tS 11 139 b54_ HT_ HW_ (by kernel_rfl) rfl rfl (fun _ _ _ h => h) hHeld (by rfl) (by rintro w' ⟨s0, s1, s2, s3, s4, s5, s6, s7, s8, s9⟩; go_simp; with_reducible rfl) (by simp only [List.set_cons_zero, List.set_cons_succ]; rfl) ?_
                  refine one_ (i := 9) (N := some 137) b55_ rfl rfl (one_of HT_.out (by kernel_rfl)) (by decide) (fun K hK => ?_)
                  refine HVia.goesT_ Try.func8 (by kernel_rfl) rfl #[.agg #[.string t105, .string t106, .string x102002_20, .string t108, .string x102004_39]] (by rfl) rfl rfl rfl (by (try simp only [List.map_toArray, List.map_cons, List.map_nil]); first | done | rfl | (simp only [List.length_drop, List.length_take]; rfl)) ?_
                  with_reducible refine (laws_FnIdEqual_1.calls t105 t106 x102002_20 t108 x102004_39 t126 _ A118.out).mono ?_
                  rintro e w128 ⟨rfl, hb⟩
                  refine ⟨_, rfl, ?_⟩
                  have n0_ := Aside0.mk (blk_below (g := gb101) (o := .cells #[.string t105, .string t106, .string x102002_20, .string t108, .string x102004_39] 23 (0, 0)) (by (with_reducible repeat (first | refine blk_drewN ?_ _ | refine blk_drew ?_ | refine blk_alloc ?_ _)); exact BK101.out) hb)
                  have n1_ := Aside0.mk (blk_below (g := gb102) (o := .cells #[.string x103000_39, .string x103001_39, .string x103002_60, .string x103003_39, .string x103004_39] 23 (0, 0)) (by (with_reducible repeat (first | refine blk_drewN ?_ _ | refine blk_drew ?_ | refine blk_alloc ?_ _)); exact BK102.out) hb)
                  have n2_ := Aside0.mk (below_step (by repeat (first | (with_reducible first | exact HB.out | apply below_alloc | apply pw_below_drewN | apply below_drew1 | refine below_set ?_ GE101.out | refine below_set ?_ GE102.out) | exact HB.out)) hb)
                  clear BK101
                  clear BK102
                  clear HB
                  have BK101 := n0_
                  have BK102 := n1_
                  have HB := n2_
                  clear n0_ n1_ n2_
                  (try clear hb)
                  (try clear hb2)
                  (try clear hk)
                  (try clear hi)
                  refine hK.out _ _ ⟨HVia.bc BK101 0 rfl, HVia.bc BK101 1 rfl, HVia.bc BK101 2 rfl, HVia.bc BK101 3 rfl, HVia.bc BK101 4 rfl, HVia.bc BK102 0 rfl, HVia.bc BK102 1 rfl, HVia.bc BK102 2 rfl, HVia.bc BK102 3 rfl, HVia.bc BK102 4 rfl⟩ (fun hHeld => ?_)
                  clear hK K
                  refine norm_ (a' := ?_) ?_ ?_
                  rotate_left
                  · show Act.put _ (some 137) _ = _
                    simp only [Act.put, List.setIfInBounds_toArray, List.set_cons_zero, List.set_cons_succ, i64_w, i32_w]
                    rfl
                  refine one_ (i := 12) (N := some 140) b56_ rfl rfl (one_of HT_.out (by kernel_rfl)) (by decide) (fun K hK => ?_)
                  refine HVia.goesT_ Try.func8 (by kernel_rfl) rfl #[.agg #[.string x103000_39, .string x103001_39, .string x103002_60, .string x103003_39, .string x103004_39]] (by rfl) rfl rfl rfl (by (try simp only [List.map_toArray, List.map_cons, List.map_nil]); first | done | rfl | (simp only [List.length_drop, List.length_take]; rfl)) ?_
                  with_reducible refine (laws_FnIdEqual_1.calls x103000_39 x103001_39 x103002_60 x103003_39 x103004_39 t127 _ A119.out).mono ?_
                  rintro e w129 ⟨rfl, hb⟩
                  refine ⟨_, rfl, ?_⟩
                  have n0_ := Aside0.mk (blk_below (g := gb101) (o := .cells #[.string t105, .string t106, .string x102002_20, .string t108, .string x102004_39] 23 (0, 0)) (by (with_reducible repeat (first | refine blk_drewN ?_ _ | refine blk_drew ?_ | refine blk_alloc ?_ _)); exact BK101.out) hb)
                  have n1_ := Aside0.mk (blk_below (g := gb102) (o := .cells #[.string x103000_39, .string x103001_39, .string x103002_60, .string x103003_39, .string x103004_39] 23 (0, 0)) (by (with_reducible repeat (first | refine blk_drewN ?_ _ | refine blk_drew ?_ | refine blk_alloc ?_ _)); exact BK102.out) hb)
                  have n2_ := Aside0.mk (below_step (by repeat (first | (with_reducible first | exact HB.out | apply below_alloc | apply pw_below_drewN | apply below_drew1 | refine below_set ?_ GE101.out | refine below_set ?_ GE102.out) | exact HB.out)) hb)
                  clear BK101
                  clear BK102
                  clear HB
                  have BK101 := n0_
                  have BK102 := n1_
                  have HB := n2_
                  clear n0_ n1_ n2_
                  (try clear hb)
                  (try clear hb2)
                  (try clear hk)
                  (try clear hi)
                  refine hK.out _ _ ⟨HVia.bc BK101 0 rfl, HVia.bc BK101 1 rfl, HVia.bc BK101 2 rfl, HVia.bc BK101 3 rfl, HVia.bc BK101 4 rfl, HVia.bc BK102 0 rfl, HVia.bc BK102 1 rfl, HVia.bc BK102 2 rfl, HVia.bc BK102 3 rfl, HVia.bc BK102 4 rfl⟩ (fun hHeld => ?_)
                  clear hK K
                  refine norm_ (a' := ?_) ?_ ?_
                  rotate_left
                  · show Act.put _ (some 140) _ = _
                    simp only [Act.put, List.setIfInBounds_toArray, List.set_cons_zero, List.set_cons_succ, i64_w, i32_w]
                    rfl
                  refine HVia.pS 13 141 b57_ HT_ (by kernel_rfl) rfl rfl (fun _ _ _ h => h) (by rfl) (by intro w'; go_simp; with_reducible rfl) (by simp only [List.set_cons_zero, List.set_cons_succ]; rfl) ?_
                  refine HVia.pS 14 142 b58_ HT_ (by kernel_rfl) rfl rfl (fun _ _ _ h => h) (by rfl) (by intro w'; go_simp; with_reducible rfl) (by simp only [List.set_cons_zero, List.set_cons_succ]; rfl) ?_
                  refine HVia.pS 15 143 b59_ HT_ (by kernel_rfl) rfl rfl (fun _ _ _ h => h) (by rfl) (by intro w'; go_simp; with_reducible rfl) (by simp only [List.set_cons_zero, List.set_cons_succ]; rfl) ?_
                  refine HVia.pS 16 144 b60_ HT_ (by kernel_rfl) rfl rfl (fun _ _ _ h => h) (by rfl) (by intro w'; go_simp; with_reducible rfl) (by simp only [List.set_cons_zero, List.set_cons_succ]; rfl) ?_
                  refine HVia.pS 17 145 b61_ HT_ (by kernel_rfl) rfl rfl (fun _ _ _ h => h) (by rfl) (by intro w'; go_simp; with_reducible rfl) (by simp only [List.set_cons_zero, List.set_cons_succ]; rfl) ?_
                  refine HVia.pS 18 146 b62_ HT_ (by kernel_rfl) rfl rfl (fun _ _ _ h => h) (by rfl) (by intro w'; go_simp; with_reducible rfl) (by simp only [List.set_cons_zero, List.set_cons_succ]; rfl) ?_
                  refine HVia.pS 19 147 b63_ HT_ (by kernel_rfl) rfl rfl (fun _ _ _ h => h) (by rfl) (by intro w'; go_simp; with_reducible rfl) (by simp only [List.set_cons_zero, List.set_cons_succ]; rfl) ?_
                  refine HVia.pS 20 148 b64_ HT_ (by kernel_rfl) rfl rfl (fun _ _ _ h => h) (by rfl) (by intro w'; go_simp; with_reducible rfl) (by simp only [List.set_cons_zero, List.set_cons_succ]; rfl) ?_
                  refine HVia.pS 21 149 b65_ HT_ (by kernel_rfl) rfl rfl (fun _ _ _ h => h) (by rfl) (by intro w'; go_simp; with_reducible rfl) (by simp only [List.set_cons_zero, List.set_cons_succ]; rfl) ?_
                  refine HVia.pS 22 150 b66_ HT_ (by kernel_rfl) rfl rfl (fun _ _ _ h => h) (by rfl) (by intro w'; go_simp; with_reducible rfl) (by simp only [List.set_cons_zero, List.set_cons_succ]; rfl) ?_
                  refine HVia.pU 23 151 b67_ HT_ (by kernel_rfl) rfl rfl (fun _ _ _ h => h) (by rfl) (by simp only [List.set_cons_zero, List.set_cons_succ]; rfl) ?_
                  refine HVia.pS 24 152 b68_ HT_ (by kernel_rfl) rfl rfl (fun _ _ _ h => h) (by rfl) (by intro w'; go_simp; with_reducible rfl) (by simp only [List.set_cons_zero, List.set_cons_succ]; rfl) ?_
                  refine HVia.pS 25 6 b69_ HT_ (by kernel_rfl) rfl rfl (fun _ _ _ h => h) (by rfl) (by intro w'; go_simp; with_reducible rfl) (by simp only [List.set_cons_zero, List.set_cons_succ]; rfl) ?_
                  refine done_ (done_of HT_.out (by kernel_rfl)) ?_
                  try go_wp2
                  go_ret
                  exact ⟨by first | rfl | (simp [errW_none, errW_some] <;> rfl) | (simp [*, errW_none, errW_some] <;> rfl), by repeat (first | (with_reducible first | exact HB.out | apply below_alloc | apply pw_below_drewN | apply below_drew1 | refine below_set ?_ GE101.out | refine below_set ?_ GE102.out) | exact HB.out)⟩
             · rw [if_neg c120] at H
               have c120b0 : (t115 == (t126.toList == t127.toList)) = false := by simpa using c120
               (try (have c120b1 : decide (t115 = (t126.toList == t127.toList)) = false := by simpa using c120))
               (try (have c120b2 : (t115 == (t126.toList == t127.toList)) = false := by simpa using c120))
               (try (have c120b3 : ¬ (t115 = (t126.toList == t127.toList)) := by simpa using c120))
               clear c120
               obtain rfl := Option.some.inj H
               try go_wp2_with (first | ((with_reducible refine gate_callee (f := 9) rfl ?_); refine goesL_ (some 124) rfl rfl Try.func9 (by kernel_rfl) rfl #[.agg #[.string (⟨#[]⟩ : ByteArray), .string (⟨#[]⟩ : ByteArray), .string (⟨#[90, 122]⟩ : ByteArray), .string (⟨#[]⟩ : ByteArray), .string (⟨#[]⟩ : ByteArray)], .agg #[.string (⟨#[]⟩ : ByteArray), .string (⟨#[]⟩ : ByteArray), .string (⟨#[90, 122]⟩ : ByteArray), .string (⟨#[]⟩ : ByteArray), .string (⟨#[]⟩ : ByteArray)]] rfl (by (try simp only [List.map_toArray, List.map_cons, List.map_nil]); first | done | rfl | (simp only [List.length_drop, List.length_take]; rfl)) ?_; (with_reducible refine (impl_IdEqual.calls (⟨#[]⟩ : ByteArray) (⟨#[]⟩ : ByteArray) (⟨#[90, 122]⟩ : ByteArray) (⟨#[]⟩ : ByteArray) (⟨#[]⟩ : ByteArray) (⟨#[]⟩ : ByteArray) (⟨#[]⟩ : ByteArray) (⟨#[90, 122]⟩ : ByteArray) (⟨#[]⟩ : ByteArray) (⟨#[]⟩ : ByteArray) t123 t124 t125 _ A115.out).mono ?_); rintro e w130 ⟨rfl, hb⟩; refine ⟨_, rfl, ?_⟩; have n0_ := Aside0.mk (blk_below (g := gb101) (o := .cells #[.string t105, .string t106, .string x102002_20, .string t108, .string x102004_39] 23 (0, 0)) (by (with_reducible repeat (first | refine blk_drewN ?_ _ | refine blk_drew ?_ | refine blk_alloc ?_ _)); exact BK101.out) hb); have n1_ := Aside0.mk (blk_below (g := gb102) (o := .cells #[.string x103000_39, .string x103001_39, .string x103002_60, .string x103003_39, .string x103004_39] 23 (0, 0)) (by (with_reducible repeat (first | refine blk_drewN ?_ _ | refine blk_drew ?_ | refine blk_alloc ?_ _)); exact BK102.out) hb); have n2_ := Aside0.mk (below_step (by repeat (first | (with_reducible first | exact HB.out | apply below_alloc | apply pw_below_drewN | apply below_drew1 | refine below_set ?_ GE101.out | refine below_set ?_ GE102.out) | exact HB.out)) hb); clear BK101; clear BK102; clear HB; have BK101 := n0_; have BK102 := n1_; have HB := n2_; clear n0_ n1_ n2_; (try clear hb); (try clear hb2); (try clear hk); (try clear hi)))
               have n0_ := Aside0.mk (blk_drew BK101.out)
               have n1_ := Aside0.mk (blk_drew BK102.out)
               have n2_ := Aside0.mk (below_drew1 HB.out)
               clear BK101
               clear BK102
               clear HB
               have BK101 := n0_
               have BK102 := n1_
               have HB := n2_
               clear n0_ n1_ n2_
               as_aux_lemma =>
                refine start_ (n := 26) (S := fun w' => w'.cell? ⟨gb101, 0, none⟩ = some (.string t105) ∧ w'.cell? ⟨gb101, 1, none⟩ = some (.string t106) ∧ w'.cell? ⟨gb101, 2, none⟩ = some (.string x102002_20) ∧ w'.cell? ⟨gb101, 3, none⟩ = some (.string t108) ∧ w'.cell? ⟨gb101, 4, none⟩ = some (.string x102004_39) ∧ w'.cell? ⟨gb102, 0, none⟩ = some (.string x103000_39) ∧ w'.cell? ⟨gb102, 1, none⟩ = some (.string x103001_39) ∧ w'.cell? ⟨gb102, 2, none⟩ = some (.string x103002_60) ∧ w'.cell? ⟨gb102, 3, none⟩ = some (.string x103003_39) ∧ w'.cell? ⟨gb102, 4, none⟩ = some (.string x103004_39)) (ds := []) b43_ (by kernel_rfl) rfl rfl ⟨HVia.bc BK101 0 rfl, HVia.bc BK101 1 rfl, HVia.bc BK101 2 rfl, HVia.bc BK101 3 rfl, HVia.bc BK101 4 rfl, HVia.bc BK102 0 rfl, HVia.bc BK102 1 rfl, HVia.bc BK102 2 rfl, HVia.bc BK102 3 rfl, HVia.bc BK102 4 rfl⟩ (fun hHeld => ?_); refine with_tabW laws_FnIdEqual.tab27 laws_FnIdEqual.bits27 (fun HT_ HW_ => ?_)
                generalize w130.drew = w131 at BK101 BK102 HB hHeld ⊢
                refine pure_ (i := 0) (N := some 128) (v := ?_) (a' := ?_) b44_ rfl rfl (any_of HT_.out (by kernel_rfl)) (fun _ _ _ h => h) (Or.inl ⟨by rfl, ?_⟩) ?_ ?_
                rotate_left
                · intro w'
                  go_simp
                  with_reducible rfl
                rotate_left
                · simp only [Act.put, List.setIfInBounds_toArray, List.set_cons_zero, List.set_cons_succ, i64_w, i32_w]
                  rfl
                refine HVia.pS 1 129 b45_ HT_ (by kernel_rfl) rfl rfl (fun _ _ _ h => h) (by rfl) (by intro w'; go_simp; with_reducible rfl) (by simp only [List.set_cons_zero, List.set_cons_succ]; rfl) ?_
                refine HVia.pS 2 130 b46_ HT_ (by kernel_rfl) rfl rfl (fun _ _ _ h => h) (by rfl) (by intro w'; go_simp; with_reducible rfl) (by simp only [List.set_cons_zero, List.set_cons_succ]; rfl) ?_
                refine HVia.pS 3 131 b47_ HT_ (by kernel_rfl) rfl rfl (fun _ _ _ h => h) (by rfl) (by intro w'; go_simp; with_reducible rfl) (by simp only [List.set_cons_zero, List.set_cons_succ]; rfl) ?_
                refine HVia.pS 4 132 b48_ HT_ (by kernel_rfl) rfl rfl (fun _ _ _ h => h) (by rfl) (by intro w'; go_simp; with_reducible rfl) (by simp only [List.set_cons_zero, List.set_cons_succ]; rfl) ?_
                refine HVia.pS 5 133 b49_ HT_ (by kernel_rfl) rfl rfl (fun _ _ _ h => h) (by rfl) (by intro w'; go_simp; with_reducible rfl) (by simp only [List.set_cons_zero, List.set_cons_succ]; rfl) ?_
                refine HVia.pS 6 134 b50_ HT_ (by kernel_rfl) rfl rfl (fun _ _ _ h => h) (by rfl) (by intro w'; go_simp; with_reducible rfl) (by simp only [List.set_cons_zero, List.set_cons_succ]; rfl) ?_
                refine HVia.pS 7 135 b51_ HT_ (by kernel_rfl) rfl rfl (fun _ _ _ h => h) (by rfl) (by intro w'; go_simp; with_reducible rfl) (by simp only [List.set_cons_zero, List.set_cons_succ]; rfl) ?_
                refine HVia.pS 10 138 b52_ HT_ (by kernel_rfl) rfl rfl (fun _ _ _ h => h) (by rfl) (by intro w'; go_simp; with_reducible rfl) (by simp only [List.set_cons_zero, List.set_cons_succ]; rfl) ?_
                refine HVia.tS 8 136 b53_ HT_ HW_ (by kernel_rfl) rfl rfl (fun _ _ _ h => h) hHeld (by rfl) (by rintro w' ⟨s0, s1, s2, s3, s4, s5, s6, s7, s8, s9⟩; go_simp; with_reducible rfl) (by simp only [List.set_cons_zero, List.set_cons_succ]; rfl) ?_
                refine HVia.tS 11 139 b54_ HT_ HW_ (by kernel_rfl) rfl rfl (fun _ _ _ h => h) hHeld (by rfl) (by rintro w' ⟨s0, s1, s2, s3, s4, s5, s6, s7, s8, s9⟩; go_simp; with_reducible rfl) (by simp only [List.set_cons_zero, List.set_cons_succ]; rfl) ?_
                refine one_ (i := 9) (N := some 137) b55_ rfl rfl (one_of HT_.out (by kernel_rfl)) (by decide) (fun K hK => ?_)
                refine HVia.goesT_ Try.func8 (by kernel_rfl) rfl #[.agg #[.string t105, .string t106, .string x102002_20, .string t108, .string x102004_39]] (by rfl) rfl rfl rfl (by (try simp only [List.map_toArray, List.map_cons, List.map_nil]); first | done | rfl | (simp only [List.length_drop, List.length_take]; rfl)) ?_
                with_reducible refine (laws_FnIdEqual_1.calls t105 t106 x102002_20 t108 x102004_39 t126 _ A118.out).mono ?_
                rintro e w132 ⟨rfl, hb⟩
                refine ⟨_, rfl, ?_⟩
                have n0_ := Aside0.mk (blk_below (g := gb101) (o := .cells #[.string t105, .string t106, .string x102002_20, .string t108, .string x102004_39] 23 (0, 0)) (by (with_reducible repeat (first | refine blk_drewN ?_ _ | refine blk_drew ?_ | refine blk_alloc ?_ _)); exact BK101.out) hb)
                have n1_ := Aside0.mk (blk_below (g := gb102) (o := .cells #[.string x103000_39, .string x103001_39, .string x103002_60, .string x103003_39, .string x103004_39] 23 (0, 0)) (by (with_reducible repeat (first | refine blk_drewN ?_ _ | refine blk_drew ?_ | refine blk_alloc ?_ _)); exact BK102.out) hb)
                have n2_ := Aside0.mk (below_step (by repeat (first | (with_reducible first | exact HB.out | apply below_alloc | apply pw_below_drewN | apply below_drew1 | refine below_set ?_ GE101.out | refine below_set ?_ GE102.out) | exact HB.out)) hb)
                clear BK101
                clear BK102
                clear HB
                have BK101 := n0_
                have BK102 := n1_
                have HB := n2_
                clear n0_ n1_ n2_
                (try clear hb)
                (try clear hb2)
                (try clear hk)
                (try clear hi)
                refine hK.out _ _ ⟨HVia.bc BK101 0 rfl, HVia.bc BK101 1 rfl, HVia.bc BK101 2 rfl, HVia.bc BK101 3 rfl, HVia.bc BK101 4 rfl, HVia.bc BK102 0 rfl, HVia.bc BK102 1 rfl, HVia.bc BK102 2 rfl, HVia.bc BK102 3 rfl, HVia.bc BK102 4 rfl⟩ (fun hHeld => ?_)
                clear hK K
                refine norm_ (a' := ?_) ?_ ?_
                rotate_left
                · show Act.put _ (some 137) _ = _
                  simp only [Act.put, List.setIfInBounds_toArray, List.set_cons_zero, List.set_cons_succ, i64_w, i32_w]
                  rfl
                refine one_ (i := 12) (N := some 140) b56_ rfl rfl (one_of HT_.out (by kernel_rfl)) (by decide) (fun K hK => ?_)
                refine HVia.goesT_ Try.func8 (by kernel_rfl) rfl #[.agg #[.string x103000_39, .string x103001_39, .string x103002_60, .string x103003_39, .string x103004_39]] (by rfl) rfl rfl rfl (by (try simp only [List.map_toArray, List.map_cons, List.map_nil]); first | done | rfl | (simp only [List.length_drop, List.length_take]; rfl)) ?_
                with_reducible refine (laws_FnIdEqual_1.calls x103000_39 x103001_39 x103002_60 x103003_39 x103004_39 t127 _ A119.out).mono ?_
                rintro e w133 ⟨rfl, hb⟩
                refine ⟨_, rfl, ?_⟩
                have n0_ := Aside0.mk (blk_below (g := gb101) (o := .cells #[.string t105, .string t106, .string x102002_20, .string t108, .string x102004_39] 23 (0, 0)) (by (with_reducible repeat (first | refine blk_drewN ?_ _ | refine blk_drew ?_ | refine blk_alloc ?_ _)); exact BK101.out) hb)
                have n1_ := Aside0.mk (blk_below (g := gb102) (o := .cells #[.string x103000_39, .string x103001_39, .string x103002_60, .string x103003_39, .string x103004_39] 23 (0, 0)) (by (with_reducible repeat (first | refine blk_drewN ?_ _ | refine blk_drew ?_ | refine blk_alloc ?_ _)); exact BK102.out) hb)
                have n2_ := Aside0.mk (below_step (by repeat (first | (with_reducible first | exact HB.out | apply below_alloc | apply pw_below_drewN | apply below_drew1 | refine below_set ?_ GE101.out | refine below_set ?_ GE102.out) | exact HB.out)) hb)
                clear BK101
                clear BK102
                clear HB
                have BK101 := n0_
                have BK102 := n1_
                have HB := n2_
                clear n0_ n1_ n2_
                (try clear hb)
                (try clear hb2)
                (try clear hk)
                (try clear hi)
                refine hK.out _ _ ⟨HVia.bc BK101 0 rfl, HVia.bc BK101 1 rfl, HVia.bc BK101 2 rfl, HVia.bc BK101 3 rfl, HVia.bc BK101 4 rfl, HVia.bc BK102 0 rfl, HVia.bc BK102 1 rfl, HVia.bc BK102 2 rfl, HVia.bc BK102 3 rfl, HVia.bc BK102 4 rfl⟩ (fun hHeld => ?_)
                clear hK K
                refine norm_ (a' := ?_) ?_ ?_
                rotate_left
                · show Act.put _ (some 140) _ = _
                  simp only [Act.put, List.setIfInBounds_toArray, List.set_cons_zero, List.set_cons_succ, i64_w, i32_w]
                  rfl
                refine HVia.pS 13 141 b57_ HT_ (by kernel_rfl) rfl rfl (fun _ _ _ h => h) (by rfl) (by intro w'; go_simp; with_reducible rfl) (by simp only [List.set_cons_zero, List.set_cons_succ]; rfl) ?_
                refine HVia.pS 14 142 b58_ HT_ (by kernel_rfl) rfl rfl (fun _ _ _ h => h) (by rfl) (by intro w'; go_simp; with_reducible rfl) (by simp only [List.set_cons_zero, List.set_cons_succ]; rfl) ?_
                refine HVia.pS 15 143 b59_ HT_ (by kernel_rfl) rfl rfl (fun _ _ _ h => h) (by rfl) (by intro w'; go_simp; with_reducible rfl) (by simp only [List.set_cons_zero, List.set_cons_succ]; rfl) ?_
                refine HVia.pS 16 144 b60_ HT_ (by kernel_rfl) rfl rfl (fun _ _ _ h => h) (by rfl) (by intro w'; go_simp; with_reducible rfl) (by simp only [List.set_cons_zero, List.set_cons_succ]; rfl) ?_
                refine HVia.pS 17 145 b61_ HT_ (by kernel_rfl) rfl rfl (fun _ _ _ h => h) (by rfl) (by intro w'; go_simp; with_reducible rfl) (by simp only [List.set_cons_zero, List.set_cons_succ]; rfl) ?_
                refine HVia.pU 18 146 b62_ HT_ (by kernel_rfl) rfl rfl (fun _ _ _ h => h) (by rfl) (by simp only [List.set_cons_zero, List.set_cons_succ]; rfl) ?_
                refine HVia.pU 19 147 b63_ HT_ (by kernel_rfl) rfl rfl (fun _ _ _ h => h) (by rfl) (by simp only [List.set_cons_zero, List.set_cons_succ]; rfl) ?_
                refine HVia.pU 20 148 b64_ HT_ (by kernel_rfl) rfl rfl (fun _ _ _ h => h) (by rfl) (by simp only [List.set_cons_zero, List.set_cons_succ]; rfl) ?_
                refine HVia.pS 21 149 b65_ HT_ (by kernel_rfl) rfl rfl (fun _ _ _ h => h) (by rfl) (by intro w'; go_simp; with_reducible rfl) (by simp only [List.set_cons_zero, List.set_cons_succ]; rfl) ?_
                refine HVia.pS 22 150 b66_ HT_ (by kernel_rfl) rfl rfl (fun _ _ _ h => h) (by rfl) (by intro w'; go_simp; with_reducible rfl) (by simp only [List.set_cons_zero, List.set_cons_succ]; rfl) ?_
                refine HVia.pU 23 151 b67_ HT_ (by kernel_rfl) rfl rfl (fun _ _ _ h => h) (by rfl) (by simp only [List.set_cons_zero, List.set_cons_succ]; rfl) ?_
                refine HVia.pS 24 152 b68_ HT_ (by kernel_rfl) rfl rfl (fun _ _ _ h => h) (by rfl) (by intro w'; go_simp; with_reducible rfl) (by simp only [List.set_cons_zero, List.set_cons_succ]; rfl) ?_
                refine HVia.pS 25 6 b69_ HT_ (by kernel_rfl) rfl rfl (fun _ _ _ h => h) (by rfl) (by intro w'; go_simp; with_reducible rfl) (by simp only [List.set_cons_zero, List.set_cons_succ]; rfl) ?_
                refine done_ (done_of HT_.out (by kernel_rfl)) ?_
                try go_wp2
                go_ret
                exact ⟨by first | rfl | (simp [errW_none, errW_some] <;> rfl) | (simp [*, errW_none, errW_some] <;> rfl), by repeat (first | (with_reducible first | exact HB.out | apply below_alloc | apply pw_below_drewN | apply below_drew1 | refine below_set ?_ GE101.out | refine below_set ?_ GE102.out) | exact HB.out)⟩
           · replace c117 := Bool.eq_false_iff.mpr c117
             subst c117
             have H1 : (if (t115 == false) = true then (if (t117 == x12_87) = true then (some t124) else (some false)) else (some false)) = some r := by rw [if_neg (show ¬ (false = true) by decide)] at H; exact H
             clear H
             have H := H1
             clear H1
             by_cases c134 : (t115 == false) = true
             · rw [if_pos c134] at H
               have c134b0 : (t115 == false) = true := c134
               (try (have c134b1 : decide (t115 = false) = true := by simpa using c134))
               (try (have c134b2 : (t115 == false) = true := by simpa using c134))
               clear c134
               by_cases c135 : (t117 == x12_87) = true
               · rw [if_pos c135] at H
                 have c135b0 : (t117 == x12_87) = true := c135
                 (try (have c135b1 : decide (t117 = x12_87) = true := by simpa using c135))
                 (try (have c135b2 : (t117 == x12_87) = true := by simpa using c135))
                 clear c135
                 obtain rfl := Option.some.inj H
                 try go_wp2_with (first | ((with_reducible refine gate_callee (f := 9) rfl ?_); refine goesL_ (some 124) rfl rfl Try.func9 (by kernel_rfl) rfl #[.agg #[.string (⟨#[]⟩ : ByteArray), .string (⟨#[]⟩ : ByteArray), .string (⟨#[90, 122]⟩ : ByteArray), .string (⟨#[]⟩ : ByteArray), .string (⟨#[]⟩ : ByteArray)], .agg #[.string (⟨#[]⟩ : ByteArray), .string (⟨#[]⟩ : ByteArray), .string (⟨#[90, 122]⟩ : ByteArray), .string (⟨#[]⟩ : ByteArray), .string (⟨#[]⟩ : ByteArray)]] rfl (by (try simp only [List.map_toArray, List.map_cons, List.map_nil]); first | done | rfl | (simp only [List.length_drop, List.length_take]; rfl)) ?_; (with_reducible refine (impl_IdEqual.calls (⟨#[]⟩ : ByteArray) (⟨#[]⟩ : ByteArray) (⟨#[90, 122]⟩ : ByteArray) (⟨#[]⟩ : ByteArray) (⟨#[]⟩ : ByteArray) (⟨#[]⟩ : ByteArray) (⟨#[]⟩ : ByteArray) (⟨#[90, 122]⟩ : ByteArray) (⟨#[]⟩ : ByteArray) (⟨#[]⟩ : ByteArray) t123 t124 t125 _ A115.out).mono ?_); rintro e w136 ⟨rfl, hb⟩; refine ⟨_, rfl, ?_⟩; have n0_ := Aside0.mk (blk_below (g := gb101) (o := .cells #[.string t105, .string t106, .string x102002_20, .string t108, .string x102004_39] 23 (0, 0)) (by (with_reducible repeat (first | refine blk_drewN ?_ _ | refine blk_drew ?_ | refine blk_alloc ?_ _)); exact BK101.out) hb); have n1_ := Aside0.mk (blk_below (g := gb102) (o := .cells #[.string x103000_39, .string x103001_39, .string x103002_60, .string x103003_39, .string x103004_39] 23 (0, 0)) (by (with_reducible repeat (first | refine blk_drewN ?_ _ | refine blk_drew ?_ | refine blk_alloc ?_ _)); exact BK102.out) hb); have n2_ := Aside0.mk (below_step (by repeat (first | (with_reducible first | exact HB.out | apply below_alloc | apply pw_below_drewN | apply below_drew1 | refine below_set ?_ GE101.out | refine below_set ?_ GE102.out) | exact HB.out)) hb); clear BK101; clear BK102; clear HB; have BK101 := n0_; have BK102 := n1_; have HB := n2_; clear n0_ n1_ n2_; (try clear hb); (try clear hb2); (try clear hk); (try clear hi)))
                 have n0_ := Aside0.mk (blk_drew BK101.out)
                 have n1_ := Aside0.mk (blk_drew BK102.out)
                 have n2_ := Aside0.mk (below_drew1 HB.out)
                 clear BK101
                 clear BK102
                 clear HB
                 have BK101 := n0_
                 have BK102 := n1_
                 have HB := n2_
                 clear n0_ n1_ n2_
                 as_aux_lemma =>
                  refine start_ (n := 26) (S := fun w' => True) (ds := []) b43_ (by kernel_rfl) rfl rfl trivial (fun hHeld => ?_); refine with_tabW laws_FnIdEqual.tab27 laws_FnIdEqual.bits27 (fun HT_ HW_ => ?_)
                  generalize w136.drew = w137 at BK101 BK102 HB hHeld ⊢
                  refine pure_ (i := 0) (N := some 128) (v := ?_) (a' := ?_) b44_ rfl rfl (any_of HT_.out (by kernel_rfl)) (fun _ _ _ h => h) (Or.inl ⟨by rfl, ?_⟩) ?_ ?_
                  rotate_left
                  · intro w'
                    go_simp
                    with_reducible rfl
                  rotate_left
                  · simp only [Act.put, List.setIfInBounds_toArray, List.set_cons_zero, List.set_cons_succ, i64_w, i32_w]
                    rfl
                  refine HVia.pS 1 129 b45_ HT_ (by kernel_rfl) rfl rfl (fun _ _ _ h => h) (by rfl) (by intro w'; go_simp; with_reducible rfl) (by simp only [List.set_cons_zero, List.set_cons_succ]; rfl) ?_
                  refine HVia.pS 2 130 b46_ HT_ (by kernel_rfl) rfl rfl (fun _ _ _ h => h) (by rfl) (by intro w'; go_simp; with_reducible rfl) (by simp only [List.set_cons_zero, List.set_cons_succ]; rfl) ?_
                  refine HVia.pS 3 131 b47_ HT_ (by kernel_rfl) rfl rfl (fun _ _ _ h => h) (by rfl) (by intro w'; go_simp; with_reducible rfl) (by simp only [List.set_cons_zero, List.set_cons_succ]; rfl) ?_
                  refine HVia.pS 4 132 b48_ HT_ (by kernel_rfl) rfl rfl (fun _ _ _ h => h) (by rfl) (by intro w'; go_simp; with_reducible rfl) (by simp only [List.set_cons_zero, List.set_cons_succ]; rfl) ?_
                  refine HVia.pS 5 133 b49_ HT_ (by kernel_rfl) rfl rfl (fun _ _ _ h => h) (by rfl) (by intro w'; go_simp; with_reducible rfl) (by simp only [List.set_cons_zero, List.set_cons_succ]; rfl) ?_
                  refine HVia.pS 6 134 b50_ HT_ (by kernel_rfl) rfl rfl (fun _ _ _ h => h) (by rfl) (by intro w'; go_simp; with_reducible rfl) (by simp only [List.set_cons_zero, List.set_cons_succ]; rfl) ?_
                  refine HVia.pU 7 135 b51_ HT_ (by kernel_rfl) rfl rfl (fun _ _ _ h => h) (by rfl) (by simp only [List.set_cons_zero, List.set_cons_succ]; rfl) ?_
                  refine HVia.pU 8 136 b70_ HT_ (by kernel_rfl) rfl rfl (fun _ _ _ h => h) (by rfl) (by simp only [List.set_cons_zero, List.set_cons_succ]; rfl) ?_
                  refine HVia.pU 9 137 b71_ HT_ (by kernel_rfl) rfl rfl (fun _ _ _ h => h) (by rfl) (by simp only [List.set_cons_zero, List.set_cons_succ]; rfl) ?_
                  refine HVia.pU 10 138 b72_ HT_ (by kernel_rfl) rfl rfl (fun _ _ _ h => h) (by rfl) (by simp only [List.set_cons_zero, List.set_cons_succ]; rfl) ?_
                  refine HVia.pU 11 139 b55_ HT_ (by kernel_rfl) rfl rfl (fun _ _ _ h => h) (by rfl) (by simp only [List.set_cons_zero, List.set_cons_succ]; rfl) ?_
                  refine HVia.pU 12 140 b56_ HT_ (by kernel_rfl) rfl rfl (fun _ _ _ h => h) (by rfl) (by simp only [List.set_cons_zero, List.set_cons_succ]; rfl) ?_
                  refine HVia.pU 13 141 b57_ HT_ (by kernel_rfl) rfl rfl (fun _ _ _ h => h) (by rfl) (by simp only [List.set_cons_zero, List.set_cons_succ]; rfl) ?_
                  refine HVia.pS 14 142 b58_ HT_ (by kernel_rfl) rfl rfl (fun _ _ _ h => h) (by rfl) (by intro w'; go_simp; with_reducible rfl) (by simp only [List.set_cons_zero, List.set_cons_succ]; rfl) ?_
                  refine HVia.pS 15 143 b59_ HT_ (by kernel_rfl) rfl rfl (fun _ _ _ h => h) (by rfl) (by intro w'; go_simp; with_reducible rfl) (by simp only [List.set_cons_zero, List.set_cons_succ]; rfl) ?_
                  refine HVia.pS 16 144 b60_ HT_ (by kernel_rfl) rfl rfl (fun _ _ _ h => h) (by rfl) (by intro w'; go_simp; with_reducible rfl) (by simp only [List.set_cons_zero, List.set_cons_succ]; rfl) ?_
                  refine HVia.pS 17 145 b61_ HT_ (by kernel_rfl) rfl rfl (fun _ _ _ h => h) (by rfl) (by intro w'; go_simp; with_reducible rfl) (by simp only [List.set_cons_zero, List.set_cons_succ]; rfl) ?_
                  refine HVia.pS 18 146 b62_ HT_ (by kernel_rfl) rfl rfl (fun _ _ _ h => h) (by rfl) (by intro w'; go_simp; with_reducible rfl) (by simp only [List.set_cons_zero, List.set_cons_succ]; rfl) ?_
                  refine HVia.pS 19 147 b63_ HT_ (by kernel_rfl) rfl rfl (fun _ _ _ h => h) (by rfl) (by intro w'; go_simp; with_reducible rfl) (by simp only [List.set_cons_zero, List.set_cons_succ]; rfl) ?_
                  refine HVia.pS 20 148 b64_ HT_ (by kernel_rfl) rfl rfl (fun _ _ _ h => h) (by rfl) (by intro w'; go_simp; with_reducible rfl) (by simp only [List.set_cons_zero, List.set_cons_succ]; rfl) ?_
                  refine HVia.pS 21 149 b65_ HT_ (by kernel_rfl) rfl rfl (fun _ _ _ h => h) (by rfl) (by intro w'; go_simp; with_reducible rfl) (by simp only [List.set_cons_zero, List.set_cons_succ]; rfl) ?_
                  refine HVia.pS 22 150 b66_ HT_ (by kernel_rfl) rfl rfl (fun _ _ _ h => h) (by rfl) (by intro w'; go_simp; with_reducible rfl) (by simp only [List.set_cons_zero, List.set_cons_succ]; rfl) ?_
                  refine HVia.pS 23 151 b67_ HT_ (by kernel_rfl) rfl rfl (fun _ _ _ h => h) (by rfl) (by intro w'; go_simp; with_reducible rfl) (by simp only [List.set_cons_zero, List.set_cons_succ]; rfl) ?_
                  refine HVia.pS 24 152 b68_ HT_ (by kernel_rfl) rfl rfl (fun _ _ _ h => h) (by rfl) (by intro w'; go_simp; with_reducible rfl) (by simp only [List.set_cons_zero, List.set_cons_succ]; rfl) ?_
                  refine HVia.pS 25 6 b69_ HT_ (by kernel_rfl) rfl rfl (fun _ _ _ h => h) (by rfl) (by intro w'; go_simp; with_reducible rfl) (by simp only [List.set_cons_zero, List.set_cons_succ]; rfl) ?_
                  refine done_ (done_of HT_.out (by kernel_rfl)) ?_
                  try go_wp2
                  go_ret
                  exact ⟨by first | rfl | (simp [errW_none, errW_some] <;> rfl) | (simp [*, errW_none, errW_some] <;> rfl), by repeat (first | (with_reducible first | exact HB.out | apply below_alloc | apply pw_below_drewN | apply below_drew1 | refine below_set ?_ GE101.out | refine below_set ?_ GE102.out) | exact HB.out)⟩
               · rw [if_neg c135] at H
                 have c135b0 : (t117 == x12_87) = false := by simpa using c135
                 (try (have c135b1 : decide (t117 = x12_87) = false := by simpa using c135))
                 (try (have c135b2 : (t117 == x12_87) = false := by simpa using c135))
                 (try (have c135b3 : ¬ (t117 = x12_87) := by simpa using c135))
                 clear c135
                 obtain rfl := Option.some.inj H
                 try go_wp2_with (first | ((with_reducible refine gate_callee (f := 9) rfl ?_); refine goesL_ (some 124) rfl rfl Try.func9 (by kernel_rfl) rfl #[.agg #[.string (⟨#[]⟩ : ByteArray), .string (⟨#[]⟩ : ByteArray), .string (⟨#[90, 122]⟩ : ByteArray), .string (⟨#[]⟩ : ByteArray), .string (⟨#[]⟩ : ByteArray)], .agg #[.string (⟨#[]⟩ : ByteArray), .string (⟨#[]⟩ : ByteArray), .string (⟨#[90, 122]⟩ : ByteArray), .string (⟨#[]⟩ : ByteArray), .string (⟨#[]⟩ : ByteArray)]] rfl (by (try simp only [List.map_toArray, List.map_cons, List.map_nil]); first | done | rfl | (simp only [List.length_drop, List.length_take]; rfl)) ?_; (with_reducible refine (impl_IdEqual.calls (⟨#[]⟩ : ByteArray) (⟨#[]⟩ : ByteArray) (⟨#[90, 122]⟩ : ByteArray) (⟨#[]⟩ : ByteArray) (⟨#[]⟩ : ByteArray) (⟨#[]⟩ : ByteArray) (⟨#[]⟩ : ByteArray) (⟨#[90, 122]⟩ : ByteArray) (⟨#[]⟩ : ByteArray) (⟨#[]⟩ : ByteArray) t123 t124 t125 _ A115.out).mono ?_); rintro e w138 ⟨rfl, hb⟩; refine ⟨_, rfl, ?_⟩; have n0_ := Aside0.mk (blk_below (g := gb101) (o := .cells #[.string t105, .string t106, .string x102002_20, .string t108, .string x102004_39] 23 (0, 0)) (by (with_reducible repeat (first | refine blk_drewN ?_ _ | refine blk_drew ?_ | refine blk_alloc ?_ _)); exact BK101.out) hb); have n1_ := Aside0.mk (blk_below (g := gb102) (o := .cells #[.string x103000_39, .string x103001_39, .string x103002_60, .string x103003_39, .string x103004_39] 23 (0, 0)) (by (with_reducible repeat (first | refine blk_drewN ?_ _ | refine blk_drew ?_ | refine blk_alloc ?_ _)); exact BK102.out) hb); have n2_ := Aside0.mk (below_step (by repeat (first | (with_reducible first | exact HB.out | apply below_alloc | apply pw_below_drewN | apply below_drew1 | refine below_set ?_ GE101.out | refine below_set ?_ GE102.out) | exact HB.out)) hb); clear BK101; clear BK102; clear HB; have BK101 := n0_; have BK102 := n1_; have HB := n2_; clear n0_ n1_ n2_; (try clear hb); (try clear hb2); (try clear hk); (try clear hi)))
                 have n0_ := Aside0.mk (blk_drew BK101.out)
                 have n1_ := Aside0.mk (blk_drew BK102.out)
                 have n2_ := Aside0.mk (below_drew1 HB.out)
                 clear BK101
                 clear BK102
                 clear HB
                 have BK101 := n0_
                 have BK102 := n1_
                 have HB := n2_
                 clear n0_ n1_ n2_
                 as_aux_lemma =>
                  refine start_ (n := 26) (S := fun w' => True) (ds := []) b43_ (by kernel_rfl) rfl rfl trivial (fun hHeld => ?_); refine with_tabW laws_FnIdEqual.tab27 laws_FnIdEqual.bits27 (fun HT_ HW_ => ?_)
                  generalize w138.drew = w139 at BK101 BK102 HB hHeld ⊢
                  refine pure_ (i := 0) (N := some 128) (v := ?_) (a' := ?_) b44_ rfl rfl (any_of HT_.out (by kernel_rfl)) (fun _ _ _ h => h) (Or.inl ⟨by rfl, ?_⟩) ?_ ?_
                  rotate_left
                  · intro w'
                    go_simp
                    with_reducible rfl
                  rotate_left
                  · simp only [Act.put, List.setIfInBounds_toArray, List.set_cons_zero, List.set_cons_succ, i64_w, i32_w]
                    rfl
                  refine HVia.pS 1 129 b45_ HT_ (by kernel_rfl) rfl rfl (fun _ _ _ h => h) (by rfl) (by intro w'; go_simp; with_reducible rfl) (by simp only [List.set_cons_zero, List.set_cons_succ]; rfl) ?_
                  refine HVia.pS 2 130 b46_ HT_ (by kernel_rfl) rfl rfl (fun _ _ _ h => h) (by rfl) (by intro w'; go_simp; with_reducible rfl) (by simp only [List.set_cons_zero, List.set_cons_succ]; rfl) ?_
                  refine HVia.pS 3 131 b47_ HT_ (by kernel_rfl) rfl rfl (fun _ _ _ h => h) (by rfl) (by intro w'; go_simp; with_reducible rfl) (by simp only [List.set_cons_zero, List.set_cons_succ]; rfl) ?_
                  refine HVia.pS 4 132 b48_ HT_ (by kernel_rfl) rfl rfl (fun _ _ _ h => h) (by rfl) (by intro w'; go_simp; with_reducible rfl) (by simp only [List.set_cons_zero, List.set_cons_succ]; rfl) ?_
                  refine HVia.pS 5 133 b49_ HT_ (by kernel_rfl) rfl rfl (fun _ _ _ h => h) (by rfl) (by intro w'; go_simp; with_reducible rfl) (by simp only [List.set_cons_zero, List.set_cons_succ]; rfl) ?_
                  refine HVia.pS 6 134 b50_ HT_ (by kernel_rfl) rfl rfl (fun _ _ _ h => h) (by rfl) (by intro w'; go_simp; with_reducible rfl) (by simp only [List.set_cons_zero, List.set_cons_succ]; rfl) ?_
                  refine HVia.pU 7 135 b51_ HT_ (by kernel_rfl) rfl rfl (fun _ _ _ h => h) (by rfl) (by simp only [List.set_cons_zero, List.set_cons_succ]; rfl) ?_
                  refine HVia.pU 8 136 b70_ HT_ (by kernel_rfl) rfl rfl (fun _ _ _ h => h) (by rfl) (by simp only [List.set_cons_zero, List.set_cons_succ]; rfl) ?_
                  refine HVia.pU 9 137 b71_ HT_ (by kernel_rfl) rfl rfl (fun _ _ _ h => h) (by rfl) (by simp only [List.set_cons_zero, List.set_cons_succ]; rfl) ?_
                  refine HVia.pU 10 138 b72_ HT_ (by kernel_rfl) rfl rfl (fun _ _ _ h => h) (by rfl) (by simp only [List.set_cons_zero, List.set_cons_succ]; rfl) ?_
                  refine HVia.pU 11 139 b55_ HT_ (by kernel_rfl) rfl rfl (fun _ _ _ h => h) (by rfl) (by simp only [List.set_cons_zero, List.set_cons_succ]; rfl) ?_
                  refine HVia.pU 12 140 b56_ HT_ (by kernel_rfl) rfl rfl (fun _ _ _ h => h) (by rfl) (by simp only [List.set_cons_zero, List.set_cons_succ]; rfl) ?_
                  refine HVia.pU 13 141 b57_ HT_ (by kernel_rfl) rfl rfl (fun _ _ _ h => h) (by rfl) (by simp only [List.set_cons_zero, List.set_cons_succ]; rfl) ?_
                  refine HVia.pS 14 142 b58_ HT_ (by kernel_rfl) rfl rfl (fun _ _ _ h => h) (by rfl) (by intro w'; go_simp; with_reducible rfl) (by simp only [List.set_cons_zero, List.set_cons_succ]; rfl) ?_
                  refine HVia.pS 15 143 b59_ HT_ (by kernel_rfl) rfl rfl (fun _ _ _ h => h) (by rfl) (by intro w'; go_simp; with_reducible rfl) (by simp only [List.set_cons_zero, List.set_cons_succ]; rfl) ?_
                  refine HVia.pS 16 144 b60_ HT_ (by kernel_rfl) rfl rfl (fun _ _ _ h => h) (by rfl) (by intro w'; go_simp; with_reducible rfl) (by simp only [List.set_cons_zero, List.set_cons_succ]; rfl) ?_
                  refine HVia.pS 17 145 b61_ HT_ (by kernel_rfl) rfl rfl (fun _ _ _ h => h) (by rfl) (by intro w'; go_simp; with_reducible rfl) (by simp only [List.set_cons_zero, List.set_cons_succ]; rfl) ?_
                  refine HVia.pS 18 146 b62_ HT_ (by kernel_rfl) rfl rfl (fun _ _ _ h => h) (by rfl) (by intro w'; go_simp; with_reducible rfl) (by simp only [List.set_cons_zero, List.set_cons_succ]; rfl) ?_
                  refine HVia.pS 19 147 b63_ HT_ (by kernel_rfl) rfl rfl (fun _ _ _ h => h) (by rfl) (by intro w'; go_simp; with_reducible rfl) (by simp only [List.set_cons_zero, List.set_cons_succ]; rfl) ?_
                  refine HVia.pS 20 148 b64_ HT_ (by kernel_rfl) rfl rfl (fun _ _ _ h => h) (by rfl) (by intro w'; go_simp; with_reducible rfl) (by simp only [List.set_cons_zero, List.set_cons_succ]; rfl) ?_
                  refine HVia.pS 21 149 b65_ HT_ (by kernel_rfl) rfl rfl (fun _ _ _ h => h) (by rfl) (by intro w'; go_simp; with_reducible rfl) (by simp only [List.set_cons_zero, List.set_cons_succ]; rfl) ?_
                  refine HVia.pS 22 150 b66_ HT_ (by kernel_rfl) rfl rfl (fun _ _ _ h => h) (by rfl) (by intro w'; go_simp; with_reducible rfl) (by simp only [List.set_cons_zero, List.set_cons_succ]; rfl) ?_
                  refine HVia.pU 23 151 b67_ HT_ (by kernel_rfl) rfl rfl (fun _ _ _ h => h) (by rfl) (by simp only [List.set_cons_zero, List.set_cons_succ]; rfl) ?_
                  refine HVia.pS 24 152 b68_ HT_ (by kernel_rfl) rfl rfl (fun _ _ _ h => h) (by rfl) (by intro w'; go_simp; with_reducible rfl) (by simp only [List.set_cons_zero, List.set_cons_succ]; rfl) ?_
                  refine HVia.pS 25 6 b69_ HT_ (by kernel_rfl) rfl rfl (fun _ _ _ h => h) (by rfl) (by intro w'; go_simp; with_reducible rfl) (by simp only [List.set_cons_zero, List.set_cons_succ]; rfl) ?_
                  refine done_ (done_of HT_.out (by kernel_rfl)) ?_
                  try go_wp2
                  go_ret
                  exact ⟨by first | rfl | (simp [errW_none, errW_some] <;> rfl) | (simp [*, errW_none, errW_some] <;> rfl), by repeat (first | (with_reducible first | exact HB.out | apply below_alloc | apply pw_below_drewN | apply below_drew1 | refine below_set ?_ GE101.out | refine below_set ?_ GE102.out) | exact HB.out)⟩
             · rw [if_neg c134] at H
               have c134b0 : (t115 == false) = false := by simpa using c134
               (try (have c134b1 : decide (t115 = false) = false := by simpa using c134))
               (try (have c134b2 : (t115 == false) = false := by simpa using c134))
               (try (have c134b3 : ¬ (t115 = false) := by simpa using c134))
               clear c134
               obtain rfl := Option.some.inj H
               try go_wp2_with (first | ((with_reducible refine gate_callee (f := 9) rfl ?_); refine goesL_ (some 124) rfl rfl Try.func9 (by kernel_rfl) rfl #[.agg #[.string (⟨#[]⟩ : ByteArray), .string (⟨#[]⟩ : ByteArray), .string (⟨#[90, 122]⟩ : ByteArray), .string (⟨#[]⟩ : ByteArray), .string (⟨#[]⟩ : ByteArray)], .agg #[.string (⟨#[]⟩ : ByteArray), .string (⟨#[]⟩ : ByteArray), .string (⟨#[90, 122]⟩ : ByteArray), .string (⟨#[]⟩ : ByteArray), .string (⟨#[]⟩ : ByteArray)]] rfl (by (try simp only [List.map_toArray, List.map_cons, List.map_nil]); first | done | rfl | (simp only [List.length_drop, List.length_take]; rfl)) ?_; (with_reducible refine (impl_IdEqual.calls (⟨#[]⟩ : ByteArray) (⟨#[]⟩ : ByteArray) (⟨#[90, 122]⟩ : ByteArray) (⟨#[]⟩ : ByteArray) (⟨#[]⟩ : ByteArray) (⟨#[]⟩ : ByteArray) (⟨#[]⟩ : ByteArray) (⟨#[90, 122]⟩ : ByteArray) (⟨#[]⟩ : ByteArray) (⟨#[]⟩ : ByteArray) t123 t124 t125 _ A115.out).mono ?_); rintro e w140 ⟨rfl, hb⟩; refine ⟨_, rfl, ?_⟩; have n0_ := Aside0.mk (blk_below (g := gb101) (o := .cells #[.string t105, .string t106, .string x102002_20, .string t108, .string x102004_39] 23 (0, 0)) (by (with_reducible repeat (first | refine blk_drewN ?_ _ | refine blk_drew ?_ | refine blk_alloc ?_ _)); exact BK101.out) hb); have n1_ := Aside0.mk (blk_below (g := gb102) (o := .cells #[.string x103000_39, .string x103001_39, .string x103002_60, .string x103003_39, .string x103004_39] 23 (0, 0)) (by (with_reducible repeat (first | refine blk_drewN ?_ _ | refine blk_drew ?_ | refine blk_alloc ?_ _)); exact BK102.out) hb); have n2_ := Aside0.mk (below_step (by repeat (first | (with_reducible first | exact HB.out | apply below_alloc | apply pw_below_drewN | apply below_drew1 | refine below_set ?_ GE101.out | refine below_set ?_ GE102.out) | exact HB.out)) hb); clear BK101; clear BK102; clear HB; have BK101 := n0_; have BK102 := n1_; have HB := n2_; clear n0_ n1_ n2_; (try clear hb); (try clear hb2); (try clear hk); (try clear hi)))
               have n0_ := Aside0.mk (blk_drew BK101.out)
               have n1_ := Aside0.mk (blk_drew BK102.out)
               have n2_ := Aside0.mk (below_drew1 HB.out)
               clear BK101
               clear BK102
               clear HB
               have BK101 := n0_
               have BK102 := n1_
               have HB := n2_
               clear n0_ n1_ n2_
               as_aux_lemma =>
                refine start_ (n := 26) (S := fun w' => True) (ds := []) b43_ (by kernel_rfl) rfl rfl trivial (fun hHeld => ?_); refine with_tabW laws_FnIdEqual.tab27 laws_FnIdEqual.bits27 (fun HT_ HW_ => ?_)
                generalize w140.drew = w141 at BK101 BK102 HB hHeld ⊢
                refine pure_ (i := 0) (N := some 128) (v := ?_) (a' := ?_) b44_ rfl rfl (any_of HT_.out (by kernel_rfl)) (fun _ _ _ h => h) (Or.inl ⟨by rfl, ?_⟩) ?_ ?_
                rotate_left
                · intro w'
                  go_simp
                  with_reducible rfl
                rotate_left
                · simp only [Act.put, List.setIfInBounds_toArray, List.set_cons_zero, List.set_cons_succ, i64_w, i32_w]
                  rfl
                refine HVia.pS 1 129 b45_ HT_ (by kernel_rfl) rfl rfl (fun _ _ _ h => h) (by rfl) (by intro w'; go_simp; with_reducible rfl) (by simp only [List.set_cons_zero, List.set_cons_succ]; rfl) ?_
                refine HVia.pS 2 130 b46_ HT_ (by kernel_rfl) rfl rfl (fun _ _ _ h => h) (by rfl) (by intro w'; go_simp; with_reducible rfl) (by simp only [List.set_cons_zero, List.set_cons_succ]; rfl) ?_
                refine HVia.pS 3 131 b47_ HT_ (by kernel_rfl) rfl rfl (fun _ _ _ h => h) (by rfl) (by intro w'; go_simp; with_reducible rfl) (by simp only [List.set_cons_zero, List.set_cons_succ]; rfl) ?_
                refine HVia.pS 4 132 b48_ HT_ (by kernel_rfl) rfl rfl (fun _ _ _ h => h) (by rfl) (by intro w'; go_simp; with_reducible rfl) (by simp only [List.set_cons_zero, List.set_cons_succ]; rfl) ?_
                refine HVia.pS 5 133 b49_ HT_ (by kernel_rfl) rfl rfl (fun _ _ _ h => h) (by rfl) (by intro w'; go_simp; with_reducible rfl) (by simp only [List.set_cons_zero, List.set_cons_succ]; rfl) ?_
                refine HVia.pS 6 134 b50_ HT_ (by kernel_rfl) rfl rfl (fun _ _ _ h => h) (by rfl) (by intro w'; go_simp; with_reducible rfl) (by simp only [List.set_cons_zero, List.set_cons_succ]; rfl) ?_
                refine HVia.pU 7 135 b51_ HT_ (by kernel_rfl) rfl rfl (fun _ _ _ h => h) (by rfl) (by simp only [List.set_cons_zero, List.set_cons_succ]; rfl) ?_
                refine HVia.pU 8 136 b70_ HT_ (by kernel_rfl) rfl rfl (fun _ _ _ h => h) (by rfl) (by simp only [List.set_cons_zero, List.set_cons_succ]; rfl) ?_
                refine HVia.pU 9 137 b71_ HT_ (by kernel_rfl) rfl rfl (fun _ _ _ h => h) (by rfl) (by simp only [List.set_cons_zero, List.set_cons_succ]; rfl) ?_
                refine HVia.pU 10 138 b72_ HT_ (by kernel_rfl) rfl rfl (fun _ _ _ h => h) (by rfl) (by simp only [List.set_cons_zero, List.set_cons_succ]; rfl) ?_
                refine HVia.pU 11 139 b55_ HT_ (by kernel_rfl) rfl rfl (fun _ _ _ h => h) (by rfl) (by simp only [List.set_cons_zero, List.set_cons_succ]; rfl) ?_
                refine HVia.pU 12 140 b56_ HT_ (by kernel_rfl) rfl rfl (fun _ _ _ h => h) (by rfl) (by simp only [List.set_cons_zero, List.set_cons_succ]; rfl) ?_
                refine HVia.pU 13 141 b57_ HT_ (by kernel_rfl) rfl rfl (fun _ _ _ h => h) (by rfl) (by simp only [List.set_cons_zero, List.set_cons_succ]; rfl) ?_
                refine HVia.pS 14 142 b58_ HT_ (by kernel_rfl) rfl rfl (fun _ _ _ h => h) (by rfl) (by intro w'; go_simp; with_reducible rfl) (by simp only [List.set_cons_zero, List.set_cons_succ]; rfl) ?_
                refine HVia.pS 15 143 b59_ HT_ (by kernel_rfl) rfl rfl (fun _ _ _ h => h) (by rfl) (by intro w'; go_simp; with_reducible rfl) (by simp only [List.set_cons_zero, List.set_cons_succ]; rfl) ?_
                refine HVia.pS 16 144 b60_ HT_ (by kernel_rfl) rfl rfl (fun _ _ _ h => h) (by rfl) (by intro w'; go_simp; with_reducible rfl) (by simp only [List.set_cons_zero, List.set_cons_succ]; rfl) ?_
                refine HVia.pS 17 145 b61_ HT_ (by kernel_rfl) rfl rfl (fun _ _ _ h => h) (by rfl) (by intro w'; go_simp; with_reducible rfl) (by simp only [List.set_cons_zero, List.set_cons_succ]; rfl) ?_
                refine HVia.pU 18 146 b62_ HT_ (by kernel_rfl) rfl rfl (fun _ _ _ h => h) (by rfl) (by simp only [List.set_cons_zero, List.set_cons_succ]; rfl) ?_
                refine HVia.pU 19 147 b63_ HT_ (by kernel_rfl) rfl rfl (fun _ _ _ h => h) (by rfl) (by simp only [List.set_cons_zero, List.set_cons_succ]; rfl) ?_
                refine HVia.pU 20 148 b64_ HT_ (by kernel_rfl) rfl rfl (fun _ _ _ h => h) (by rfl) (by simp only [List.set_cons_zero, List.set_cons_succ]; rfl) ?_
                refine HVia.pS 21 149 b65_ HT_ (by kernel_rfl) rfl rfl (fun _ _ _ h => h) (by rfl) (by intro w'; go_simp; with_reducible rfl) (by simp only [List.set_cons_zero, List.set_cons_succ]; rfl) ?_
                refine HVia.pS 22 150 b66_ HT_ (by kernel_rfl) rfl rfl (fun _ _ _ h => h) (by rfl) (by intro w'; go_simp; with_reducible rfl) (by simp only [List.set_cons_zero, List.set_cons_succ]; rfl) ?_
                refine HVia.pU 23 151 b67_ HT_ (by kernel_rfl) rfl rfl (fun _ _ _ h => h) (by rfl) (by simp only [List.set_cons_zero, List.set_cons_succ]; rfl) ?_
                refine HVia.pS 24 152 b68_ HT_ (by kernel_rfl) rfl rfl (fun _ _ _ h => h) (by rfl) (by intro w'; go_simp; with_reducible rfl) (by simp only [List.set_cons_zero, List.set_cons_succ]; rfl) ?_
                refine HVia.pS 25 6 b69_ HT_ (by kernel_rfl) rfl rfl (fun _ _ _ h => h) (by rfl) (by intro w'; go_simp; with_reducible rfl) (by simp only [List.set_cons_zero, List.set_cons_succ]; rfl) ?_
                refine done_ (done_of HT_.out (by kernel_rfl)) ?_
                try go_wp2
                go_ret
                exact ⟨by first | rfl | (simp [errW_none, errW_some] <;> rfl) | (simp [*, errW_none, errW_some] <;> rfl), by repeat (first | (with_reducible first | exact HB.out | apply below_alloc | apply pw_below_drewN | apply below_drew1 | refine below_set ?_ GE101.out | refine below_set ?_ GE102.out) | exact HB.out)⟩
         · rw [if_neg c116] at H
           have c116b0 : (t116 == x11_67) = false := by simpa using c116
           (try (have c116b1 : decide (t116 = x11_67) = false := by simpa using c116))
           (try (have c116b2 : (t116 == x11_67) = false := by simpa using c116))
           (try (have c116b3 : ¬ (t116 = x11_67) := by simpa using c116))
           clear c116
           obtain rfl := Option.some.inj H
           try go_wp2_with (first | ((with_reducible refine gate_callee (f := 9) rfl ?_); refine goesL_ (some 124) rfl rfl Try.func9 (by kernel_rfl) rfl #[.agg #[.string (⟨#[]⟩ : ByteArray), .string (⟨#[]⟩ : ByteArray), .string (⟨#[90, 122]⟩ : ByteArray), .string (⟨#[]⟩ : ByteArray), .string (⟨#[]⟩ : ByteArray)], .agg #[.string (⟨#[]⟩ : ByteArray), .string (⟨#[]⟩ : ByteArray), .string (⟨#[90, 122]⟩ : ByteArray), .string (⟨#[]⟩ : ByteArray), .string (⟨#[]⟩ : ByteArray)]] rfl (by (try simp only [List.map_toArray, List.map_cons, List.map_nil]); first | done | rfl | (simp only [List.length_drop, List.length_take]; rfl)) ?_; (with_reducible refine (impl_IdEqual.calls (⟨#[]⟩ : ByteArray) (⟨#[]⟩ : ByteArray) (⟨#[90, 122]⟩ : ByteArray) (⟨#[]⟩ : ByteArray) (⟨#[]⟩ : ByteArray) (⟨#[]⟩ : ByteArray) (⟨#[]⟩ : ByteArray) (⟨#[90, 122]⟩ : ByteArray) (⟨#[]⟩ : ByteArray) (⟨#[]⟩ : ByteArray) t123 t124 t125 _ A115.out).mono ?_); rintro e w142 ⟨rfl, hb⟩; refine ⟨_, rfl, ?_⟩; have n0_ := Aside0.mk (blk_below (g := gb101) (o := .cells #[.string t105, .string t106, .string x102002_20, .string t108, .string x102004_39] 23 (0, 0)) (by (with_reducible repeat (first | refine blk_drewN ?_ _ | refine blk_drew ?_ | refine blk_alloc ?_ _)); exact BK101.out) hb); have n1_ := Aside0.mk (blk_below (g := gb102) (o := .cells #[.string x103000_39, .string x103001_39, .string x103002_60, .string x103003_39, .string x103004_39] 23 (0, 0)) (by (with_reducible repeat (first | refine blk_drewN ?_ _ | refine blk_drew ?_ | refine blk_alloc ?_ _)); exact BK102.out) hb); have n2_ := Aside0.mk (below_step (by repeat (first | (with_reducible first | exact HB.out | apply below_alloc | apply pw_below_drewN | apply below_drew1 | refine below_set ?_ GE101.out | refine below_set ?_ GE102.out) | exact HB.out)) hb); clear BK101; clear BK102; clear HB; have BK101 := n0_; have BK102 := n1_; have HB := n2_; clear n0_ n1_ n2_; (try clear hb); (try clear hb2); (try clear hk); (try clear hi)))
           have n0_ := Aside0.mk (blk_drew BK101.out)
           have n1_ := Aside0.mk (blk_drew BK102.out)
           have n2_ := Aside0.mk (below_drew1 HB.out)
           clear BK101
           clear BK102
           clear HB
           have BK101 := n0_
           have BK102 := n1_
           have HB := n2_
           clear n0_ n1_ n2_
           as_aux_lemma =>
            refine start_ (n := 26) (S := fun w' => True) (ds := []) b43_ (by kernel_rfl) rfl rfl trivial (fun hHeld => ?_); refine with_tabW laws_FnIdEqual.tab27 laws_FnIdEqual.bits27 (fun HT_ HW_ => ?_)
            generalize w142.drew = w143 at BK101 BK102 HB hHeld ⊢
            refine pure_ (i := 0) (N := some 128) (v := ?_) (a' := ?_) b44_ rfl rfl (any_of HT_.out (by kernel_rfl)) (fun _ _ _ h => h) (Or.inl ⟨by rfl, ?_⟩) ?_ ?_
            rotate_left
            · intro w'
              go_simp
              with_reducible rfl
            rotate_left
            · simp only [Act.put, List.setIfInBounds_toArray, List.set_cons_zero, List.set_cons_succ, i64_w, i32_w]
              rfl
            refine HVia.pS 1 129 b45_ HT_ (by kernel_rfl) rfl rfl (fun _ _ _ h => h) (by rfl) (by intro w'; go_simp; with_reducible rfl) (by simp only [List.set_cons_zero, List.set_cons_succ]; rfl) ?_
            refine HVia.pS 2 130 b46_ HT_ (by kernel_rfl) rfl rfl (fun _ _ _ h => h) (by rfl) (by intro w'; go_simp; with_reducible rfl) (by simp only [List.set_cons_zero, List.set_cons_succ]; rfl) ?_
            refine HVia.pS 3 131 b47_ HT_ (by kernel_rfl) rfl rfl (fun _ _ _ h => h) (by rfl) (by intro w'; go_simp; with_reducible rfl) (by simp only [List.set_cons_zero, List.set_cons_succ]; rfl) ?_
            refine HVia.pU 4 132 b48_ HT_ (by kernel_rfl) rfl rfl (fun _ _ _ h => h) (by rfl) (by simp only [List.set_cons_zero, List.set_cons_succ]; rfl) ?_
            refine HVia.pU 5 133 b49_ HT_ (by kernel_rfl) rfl rfl (fun _ _ _ h => h) (by rfl) (by simp only [List.set_cons_zero, List.set_cons_succ]; rfl) ?_
            refine HVia.pU 6 134 b50_ HT_ (by kernel_rfl) rfl rfl (fun _ _ _ h => h) (by rfl) (by simp only [List.set_cons_zero, List.set_cons_succ]; rfl) ?_
            refine HVia.pU 7 135 b51_ HT_ (by kernel_rfl) rfl rfl (fun _ _ _ h => h) (by rfl) (by simp only [List.set_cons_zero, List.set_cons_succ]; rfl) ?_
            refine HVia.pU 8 136 b70_ HT_ (by kernel_rfl) rfl rfl (fun _ _ _ h => h) (by rfl) (by simp only [List.set_cons_zero, List.set_cons_succ]; rfl) ?_
            refine HVia.pU 9 137 b71_ HT_ (by kernel_rfl) rfl rfl (fun _ _ _ h => h) (by rfl) (by simp only [List.set_cons_zero, List.set_cons_succ]; rfl) ?_
            refine HVia.pU 10 138 b72_ HT_ (by kernel_rfl) rfl rfl (fun _ _ _ h => h) (by rfl) (by simp only [List.set_cons_zero, List.set_cons_succ]; rfl) ?_
            refine HVia.pU 11 139 b55_ HT_ (by kernel_rfl) rfl rfl (fun _ _ _ h => h) (by rfl) (by simp only [List.set_cons_zero, List.set_cons_succ]; rfl) ?_
            refine HVia.pU 12 140 b56_ HT_ (by kernel_rfl) rfl rfl (fun _ _ _ h => h) (by rfl) (by simp only [List.set_cons_zero, List.set_cons_succ]; rfl) ?_
            refine HVia.pU 13 141 b57_ HT_ (by kernel_rfl) rfl rfl (fun _ _ _ h => h) (by rfl) (by simp only [List.set_cons_zero, List.set_cons_succ]; rfl) ?_
            refine HVia.pU 14 142 b58_ HT_ (by kernel_rfl) rfl rfl (fun _ _ _ h => h) (by rfl) (by simp only [List.set_cons_zero, List.set_cons_succ]; rfl) ?_
            refine HVia.pU 15 143 b59_ HT_ (by kernel_rfl) rfl rfl (fun _ _ _ h => h) (by rfl) (by simp only [List.set_cons_zero, List.set_cons_succ]; rfl) ?_
            refine HVia.pS 16 144 b60_ HT_ (by kernel_rfl) rfl rfl (fun _ _ _ h => h) (by rfl) (by intro w'; go_simp; with_reducible rfl) (by simp only [List.set_cons_zero, List.set_cons_succ]; rfl) ?_
            refine HVia.pS 17 145 b61_ HT_ (by kernel_rfl) rfl rfl (fun _ _ _ h => h) (by rfl) (by intro w'; go_simp; with_reducible rfl) (by simp only [List.set_cons_zero, List.set_cons_succ]; rfl) ?_
            refine HVia.pU 18 146 b62_ HT_ (by kernel_rfl) rfl rfl (fun _ _ _ h => h) (by rfl) (by simp only [List.set_cons_zero, List.set_cons_succ]; rfl) ?_
            refine HVia.pU 19 147 b63_ HT_ (by kernel_rfl) rfl rfl (fun _ _ _ h => h) (by rfl) (by simp only [List.set_cons_zero, List.set_cons_succ]; rfl) ?_
            refine HVia.pU 20 148 b64_ HT_ (by kernel_rfl) rfl rfl (fun _ _ _ h => h) (by rfl) (by simp only [List.set_cons_zero, List.set_cons_succ]; rfl) ?_
            refine HVia.pS 21 149 b65_ HT_ (by kernel_rfl) rfl rfl (fun _ _ _ h => h) (by rfl) (by intro w'; go_simp; with_reducible rfl) (by simp only [List.set_cons_zero, List.set_cons_succ]; rfl) ?_
            refine HVia.pS 22 150 b66_ HT_ (by kernel_rfl) rfl rfl (fun _ _ _ h => h) (by rfl) (by intro w'; go_simp; with_reducible rfl) (by simp only [List.set_cons_zero, List.set_cons_succ]; rfl) ?_
            refine HVia.pU 23 151 b67_ HT_ (by kernel_rfl) rfl rfl (fun _ _ _ h => h) (by rfl) (by simp only [List.set_cons_zero, List.set_cons_succ]; rfl) ?_
            refine HVia.pS 24 152 b68_ HT_ (by kernel_rfl) rfl rfl (fun _ _ _ h => h) (by rfl) (by intro w'; go_simp; with_reducible rfl) (by simp only [List.set_cons_zero, List.set_cons_succ]; rfl) ?_
            refine HVia.pS 25 6 b69_ HT_ (by kernel_rfl) rfl rfl (fun _ _ _ h => h) (by rfl) (by intro w'; go_simp; with_reducible rfl) (by simp only [List.set_cons_zero, List.set_cons_succ]; rfl) ?_
            refine done_ (done_of HT_.out (by kernel_rfl)) ?_
            try go_wp2
            go_ret
            exact ⟨by first | rfl | (simp [errW_none, errW_some] <;> rfl) | (simp [*, errW_none, errW_some] <;> rfl), by repeat (first | (with_reducible first | exact HB.out | apply below_alloc | apply pw_below_drewN | apply below_drew1 | refine below_set ?_ GE101.out | refine below_set ?_ GE102.out) | exact HB.out)⟩
end Go.Proofs.Ytfdgbgjbncakfaa.GFnIdEqual

