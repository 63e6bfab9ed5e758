/- What the thin package's GvkLess comes to, for kinds that stand in none of the two orders. (Its first region was printed by stub.py.) -/
import Derived.Test.YtfdgbgjbncakfaaDoorProg
import Derived.Test.YtfdgbgjbncakfaaDoorPlain
import Derived.Below
import Derived.Deep.Draws
import Derived.Deep.AppendLies
import Derived.Maps.AppendAt
import Derived.OwnWalk
import Derived.Laws.BytesArg
import Derived.Laws.MakeOwn
import Derived.Laws.OwnMore
import Derived.Deep.OwnRows
import Derived.Tactics
import Derived.Lib.ConvBytes
import Derived.Laws.Slices
import Derived.WalkKit
import Derived.KernelRfl
import Derived.RowKit3
import Derived.Deep.LoopGhost
import Derived.Deep.QuietTactic
import Derived.BigQuiet
import Derived.WideLaws
import Derived.Deep.DeepCutAuto
import Derived.Deep.CutBlock
import Derived.Deep.RegionHeld3
import Derived.Laws.Rows
import Derived.Lib.AppendStr
import Derived.ArgAppend
import Derived.Laws.IdiomCopy
import Derived.OrdersHeld
import Derived.Laws.BitsLemmas
import Derived.RowKit
import Derived.Test.YtfdgbgjbncakfaaDoorWWords
import Derived.Test.YtfdgbgjbncakfaaDoorWLast
import Derived.Test.YtfdgbgjbncakfaaDoorWTab
import Derived.Test.YtfdgbgjbncakfaaDoorWFour
import Derived.Test.YtfdgbgjbncakfaaDoorWQPut
import Derived.Test.YtfdgbgjbncakfaaDoorWApart
import Derived.Test.YtfdgbgjbncakfaaDoorWArr
import Derived.Test.YtfdgbgjbncakfaaDoorWZeros
import Derived.Test.YtfdgbgjbncakfaaDoorWFoot
import Derived.Test.YtfdgbgjbncakfaaDoorWKept
import Derived.Test.YtfdgbgjbncakfaaDoorWShare
import Derived.Test.YtfdgbgjbncakfaaDoorWN
import Derived.Test.YtfdgbgjbncakfaaDoorWFootNe
import Derived.Test.YtfdgbgjbncakfaaDoorWAt
import Derived.Test.YtfdgbgjbncakfaaDoorWEqStruct
import Derived.Test.YtfdgbgjbncakfaaDoorWRepsOne
import Derived.Test.YtfdgbgjbncakfaaDoorWInv
import Derived.Test.YtfdgbgjbncakfaaDoorWInvWords
import Derived.Test.YtfdgbgjbncakfaaDoorWGuard
import Derived.Test.YtfdgbgjbncakfaaDoorWNEv
import Derived.Test.YtfdgbgjbncakfaaDoorWMore
import Derived.Test.YtfdgbgjbncakfaaDoorHOrd
import Derived.Test.YtfdgbgjbncakfaaDoorHSel
import Derived.Test.YtfdgbgjbncakfaaDoorPgvkx
import Derived.Test.YtfdgbgjbncakfaaDoorPEqualsx
namespace Go.Proofs.YtfdgbgjbncakfaaDoor.HLess
open Go.RowKit Go.Proofs.YtfdgbgjbncakfaaDoorW.PrintWords Go.Proofs.YtfdgbgjbncakfaaDoorW.PrintLast Go.Proofs.YtfdgbgjbncakfaaDoorW.PrintMore Go.Proofs.YtfdgbgjbncakfaaDoor.Pgvk Go.Proofs.YtfdgbgjbncakfaaDoor.HOrd Go.Proofs.YtfdgbgjbncakfaaDoor.HSel
attribute [local go_sem] max2_int min2_int max_two min_two max_three min_three max_four min_four   -- for this text's walks alone
set_option linter.unusedVariables false
set_option linter.unusedSimpArgs false
def impl_GvkLess.T1 : Bool × List (List Nat × List Nat) := (true, [([], []), ([0], [0]), ([], []), ([2, 1], [2]), ([], []), ([], []), ([4, 1, 3, 0, 1, 4, 5], [1, 4]), ([5, 3, 6, 0, 1, 2, 3, 4, 5, 6], [3, 5])])
def impl_GvkLess.B1 : List Nat := [0, 1, 0, 7, 0, 0, 63, 127]
theorem impl_GvkLess.tab1 : rtab .any (opsOf Tryd.f6 1) = impl_GvkLess.T1 := by kernel_rfl
theorem impl_GvkLess.bits1 : waitsOk impl_GvkLess.T1.2 impl_GvkLess.B1 = true := by kernel_rfl
def eqB (g v k g' v' k' : ByteArray) : Bool := (g.toList == g'.toList) && ((v.toList == v'.toList) && (k.toList == k'.toList))
theorem equals_calls (g v k g' v' k' : ByteArray) (w : World) : Calls Tryd.prog 10 #[.agg #[.string g, .string v, .string k, .bool false], .agg #[.string g', .string v', .string k', .bool false]] w fun e w' => e = .returned (.bool (eqB g v k g' v' k')) ∧ Below w.heap.size w w' := by
  refine PEquals.resid_Gvk_Equals.calls g v k false g' v' k' false _ w ?_
  unfold PEquals.resid_Gvk_Equals.f eqB
  by_cases h1 : g.toList = g'.toList
  · rw [if_pos h1]
    by_cases h2 : v.toList = v'.toList
    · rw [if_pos h2]; simp [h1, h2]
    · rw [if_neg h2]; simp [h2]
  · rw [if_neg h1]; simp [h1]
/-- The order, equality, and some bool. -/
def Three (w : World) (x y : Bool) (e : Ending) (w' : World) : Prop := ∃ z : Bool, e = .returned (.tuple #[.bool x, .bool y, .bool z]) ∧ Below w.heap.size w w'
set_option maxHeartbeats 8000000 in
set_option maxRecDepth 100000 in
theorem gen_calls (a0_0 a0_1 a0_2 a0_3 a0_4 a1_0 a1_1 a1_2 a1_3 a1_4 t108 t109 t110 t112 t113 t114 : ByteArray) (w : World) (h3 : impl_gvk.f a0_0 a0_1 a0_2 a0_3 a0_4 = some (t108, t109, t110, false)) (h4 : impl_gvk.f a1_0 a1_1 a1_2 a1_3 a1_4 = some (t112, t113, t114, false))
    (l0 l1 : List ByteArray) (hl0 : Lay 0 l0 w) (hl1 : Lay 1 l1 w)
    (hc : ∀ w, Lay 0 l0 w → Lay 1 l1 w → Calls Tryd.prog 9 #[.agg #[.string t108, .string t109, .string t110, .bool false], .agg #[.string t112, .string t113, .string t114, .bool false]] w fun e w' => e = .returned (.bool (lessS t108 t109 t110 t112 t113 t114)) ∧ Below w.heap.size w w') :
    Calls Tryd.prog 6 #[.agg #[.string a0_0, .string a0_1, .string a0_2, .string a0_3, .string a0_4], .agg #[.string a1_0, .string a1_1, .string a1_2, .string a1_3, .string a1_4]] w (Three w (lessS t108 t109 t110 t112 t113 t114) (eqB t108 t109 t110 t112 t113 t114)) := by
  have A3 := Aside0.mk h3
  have A4 := Aside0.mk h4
  have HL0 := Aside0.mk hl0
  have HL1 := Aside0.mk hl1
  have HC := Aside0.mk hc
  clear h3 h4 hl0 hl1 hc
  have hu23 := Tryd.underlying23
  have hu33 := Tryd.underlying33
  have HB := Aside0.mk (Below.refl w.heap.size w)
  go_enter Tryd.func6, Tryd.ntmps6
  try go_wp2_with (first | ((with_reducible refine gate_dst (N := 2) rfl ?_); refine box_event ?hg (N := 2) ?hd (cs := #[.string a0_0, .string a0_1, .string a0_2, .string a0_3, .string a0_4]) (t := 23) ?hr ?_; (case hd => rfl); (case hg => rfl); (case hr => first | (go_simp; done) | (go_simp; rfl)); intro gb106 hg w8 hbox hb; have n0_ := Aside0.mk (below_step (by repeat (first | (with_reducible first | exact HB.out | apply below_alloc | apply pw_below_drewN | apply below_drew1) | exact HB.out)) hb); have n1_ := Aside0.mk (hbox); have n2_ := Aside0.mk ((by rw [hg]; exact (below_size (by repeat (first | (with_reducible first | exact HB.out | apply below_alloc | apply pw_below_drewN | apply below_drew1) | exact HB.out))) : w.heap.size ≤ gb106)); have n3_ := Aside0.mk ((by rw [hg]; exact (below_size (by repeat (first | (with_reducible first | exact HB.out | apply below_alloc | apply pw_below_drewN | apply below_drew1) | exact HB.out))) : w.heap.size ≤ gb106)); clear HB; have HB := n0_; have BK106 := n1_; have GW106 := n2_; have GE106 := n3_; clear n0_ n1_ n2_ n3_; clear hb hbox hg) | ((with_reducible refine gate_dst (N := 3) rfl ?_); refine box_event ?hg (N := 3) ?hd (cs := #[.string a1_0, .string a1_1, .string a1_2, .string a1_3, .string a1_4]) (t := 23) ?hr ?_; (case hd => rfl); (case hg => rfl); (case hr => first | (go_simp; done) | (go_simp; rfl)); intro gb107 hg w9 hbox hb; have n0_ := Aside0.mk (blk_below (g := gb106) (o := .cells #[.string a0_0, .string a0_1, .string a0_2, .string a0_3, .string a0_4] 23 (0, 0)) (by (with_reducible repeat (first | refine blk_drewN ?_ _ | refine blk_drew ?_ | refine blk_alloc ?_ _)); exact BK106.out) hb); have n1_ := Aside0.mk (below_step (by repeat (first | (with_reducible first | exact HB.out | apply below_alloc | apply pw_below_drewN | apply below_drew1 | refine below_set ?_ GE106.out) | exact HB.out)) hb); have n2_ := Aside0.mk (hbox); have n3_ := Aside0.mk ((by rw [hg]; exact (below_size (by repeat (first | (with_reducible first | exact HB.out | apply below_alloc | apply pw_below_drewN | apply below_drew1 | refine below_set ?_ GE106.out) | exact HB.out))) : w.heap.size ≤ gb107)); have n4_ := Aside0.mk ((by rw [hg]; exact (below_size (by repeat (first | (with_reducible first | exact HB.out | apply below_alloc | apply pw_below_drewN | apply below_drew1 | refine below_set ?_ GE106.out) | exact HB.out))) : w.heap.size ≤ gb107)); have n5_ := Aside0.mk ((by rw [hg]; exact Nat.ne_of_lt (blk_lt (g := gb106) (o := .cells #[.string a0_0, .string a0_1, .string a0_2, .string a0_3, .string a0_4] 23 (0, 0)) (by (with_reducible repeat (first | refine blk_drewN ?_ _ | refine blk_drew ?_ | refine blk_alloc ?_ _)); exact BK106.out)) : gb106 ≠ gb107)); have n6_ := Aside0.mk ((by rw [hg]; exact Nat.ne_of_gt (blk_lt (g := gb106) (o := .cells #[.string a0_0, .string a0_1, .string a0_2, .string a0_3, .string a0_4] 23 (0, 0)) (by (with_reducible repeat (first | refine blk_drewN ?_ _ | refine blk_drew ?_ | refine blk_alloc ?_ _)); exact BK106.out)) : gb107 ≠ gb106)); clear BK106; clear HB; have BK106 := n0_; have HB := n1_; have BK107 := n2_; have GW107 := n3_; have GE107 := n4_; have NB106_107 := n5_; have NB107_106 := n6_; clear n0_ n1_ n2_ n3_ n4_ n5_ n6_; clear hb hbox hg))
  have n0_ := Aside0.mk (blk_drew BK106.out)
  have n1_ := Aside0.mk (blk_drew BK107.out)
  have n2_ := Aside0.mk (below_drew1 HB.out)
  clear BK106
  clear BK107
  clear HB
  have BK106 := n0_
  have BK107 := n1_
  have HB := n2_
  clear n0_ n1_ n2_
  refine start_ (n := 8) (S := fun w' => w'.cell? ⟨gb106, 0, none⟩ = some (.string a0_0) ∧ w'.cell? ⟨gb106, 1, none⟩ = some (.string a0_1) ∧ w'.cell? ⟨gb106, 2, none⟩ = some (.string a0_2) ∧ w'.cell? ⟨gb106, 3, none⟩ = some (.string a0_3) ∧ w'.cell? ⟨gb106, 4, none⟩ = some (.string a0_4) ∧ w'.cell? ⟨gb107, 0, none⟩ = some (.string a1_0) ∧ w'.cell? ⟨gb107, 1, none⟩ = some (.string a1_1) ∧ w'.cell? ⟨gb107, 2, none⟩ = some (.string a1_2) ∧ w'.cell? ⟨gb107, 3, none⟩ = some (.string a1_3) ∧ w'.cell? ⟨gb107, 4, none⟩ = some (.string a1_4)) (ds := []) #[false, false, false, false, false, false, false, false] (by kernel_rfl) rfl rfl ⟨(blk_cell BK106.out 0).trans rfl, (blk_cell BK106.out 1).trans rfl, (blk_cell BK106.out 2).trans rfl, (blk_cell BK106.out 3).trans rfl, (blk_cell BK106.out 4).trans rfl, (blk_cell BK107.out 0).trans rfl, (blk_cell BK107.out 1).trans rfl, (blk_cell BK107.out 2).trans rfl, (blk_cell BK107.out 3).trans rfl, (blk_cell BK107.out 4).trans rfl⟩ (fun hHeld => ?_); refine with_tabW impl_GvkLess.tab1 impl_GvkLess.bits1 (fun HT_ HW_ => ?_)
  generalize w9.drew = w10 at BK106 BK107 HB hHeld ⊢
  refine take_ (i := 0) (N := some 9) (v := ?_) (a' := ?_) #[true, false, false, false, false, false, false, false] rfl rfl (take_ofW HT_.out HW_.out (by kernel_rfl)) (fun _ _ _ h => h) (Or.inl ⟨by rfl, ?_⟩) hHeld ?_ ?_
  rotate_left
  · rintro w' ⟨s0, s1, s2, s3, s4, s5, s6, s7, s8, s9⟩
    go_simp
    with_reducible rfl
  rotate_left
  · simp only [Act.put, List.setIfInBounds_toArray, List.set_cons_zero, List.set_cons_succ, i64_w, i32_w]
    rfl
  refine take_ (i := 2) (N := some 11) (v := ?_) (a' := ?_) #[true, false, true, false, false, false, false, false] rfl rfl (take_ofW HT_.out HW_.out (by kernel_rfl)) (fun _ _ _ h => h) (Or.inl ⟨by rfl, ?_⟩) hHeld ?_ ?_
  rotate_left
  · rintro w' ⟨s0, s1, s2, s3, s4, s5, s6, s7, s8, s9⟩
    go_simp
    with_reducible rfl
  rotate_left
  · simp only [Act.put, List.setIfInBounds_toArray, List.set_cons_zero, List.set_cons_succ, i64_w, i32_w]
    rfl
  refine join_ (σ := Nat × Nat) 2 #[true, true, true, true, true, true, false, false] (fun s_ => [(10, .agg #[.string t108, .string t109, .string t110, .bool false]), (12, .agg #[.string t112, .string t113, .string t114, .bool false]), (7, .pointer (some ⟨s_.1, 0, none⟩)), (8, .pointer (some ⟨s_.2, 0, none⟩))]) (fun s_ w' => (w'.cell? ⟨gb106, 0, none⟩ = some (.string a0_0) ∧ w'.cell? ⟨gb106, 1, none⟩ = some (.string a0_1) ∧ w'.cell? ⟨gb106, 2, none⟩ = some (.string a0_2) ∧ w'.cell? ⟨gb106, 3, none⟩ = some (.string a0_3) ∧ w'.cell? ⟨gb106, 4, none⟩ = some (.string a0_4) ∧ w'.cell? ⟨gb107, 0, none⟩ = some (.string a1_0) ∧ w'.cell? ⟨gb107, 1, none⟩ = some (.string a1_1) ∧ w'.cell? ⟨gb107, 2, none⟩ = some (.string a1_2) ∧ w'.cell? ⟨gb107, 3, none⟩ = some (.string a1_3) ∧ w'.cell? ⟨gb107, 4, none⟩ = some (.string a1_4)) ∧ (w'.heap[gb106]? = some (.cells #[.string a0_0, .string a0_1, .string a0_2, .string a0_3, .string a0_4] 23 (0, 0))) ∧ (w'.heap[gb107]? = some (.cells #[.string a1_0, .string a1_1, .string a1_2, .string a1_3, .string a1_4] 23 (0, 0))) ∧ (w'.heap[s_.1]? = some (.cells #[.string (⟨#[]⟩ : ByteArray), .string (⟨#[]⟩ : ByteArray), .string (⟨#[]⟩ : ByteArray), .bool false] 33 (0, 0))) ∧ (w'.heap[s_.2]? = some (.cells #[.string (⟨#[]⟩ : ByteArray), .string (⟨#[]⟩ : ByteArray), .string (⟨#[]⟩ : ByteArray), .bool false] 33 (0, 0))) ∧ (w.heap.size ≤ s_.1) ∧ (w.heap.size ≤ s_.1) ∧ (gb106 ≠ s_.1) ∧ (s_.1 ≠ gb106) ∧ (gb107 ≠ s_.1) ∧ (s_.1 ≠ gb107) ∧ (s_.2 ≠ s_.1) ∧ (s_.1 ≠ s_.2) ∧ (w.heap.size ≤ s_.2) ∧ (w.heap.size ≤ s_.2) ∧ (gb106 ≠ s_.2) ∧ (s_.2 ≠ gb106) ∧ (gb107 ≠ s_.2) ∧ (s_.2 ≠ gb107) ∧ (Below w.heap.size w w')) ?_ ?_
  rotate_left
  · intro hJ1_3_4_5
    refine join_ (σ := Nat) 3 #[true, true, true, true, true, false, false, false] (fun s_ => [(10, .agg #[.string t108, .string t109, .string t110, .bool false]), (12, .agg #[.string t112, .string t113, .string t114, .bool false]), (7, .pointer (some ⟨s_, 0, none⟩))]) (fun s_ w' => (w'.cell? ⟨gb106, 0, none⟩ = some (.string a0_0) ∧ w'.cell? ⟨gb106, 1, none⟩ = some (.string a0_1) ∧ w'.cell? ⟨gb106, 2, none⟩ = some (.string a0_2) ∧ w'.cell? ⟨gb106, 3, none⟩ = some (.string a0_3) ∧ w'.cell? ⟨gb106, 4, none⟩ = some (.string a0_4) ∧ w'.cell? ⟨gb107, 0, none⟩ = some (.string a1_0) ∧ w'.cell? ⟨gb107, 1, none⟩ = some (.string a1_1) ∧ w'.cell? ⟨gb107, 2, none⟩ = some (.string a1_2) ∧ w'.cell? ⟨gb107, 3, none⟩ = some (.string a1_3) ∧ w'.cell? ⟨gb107, 4, none⟩ = some (.string a1_4)) ∧ (w'.heap[gb106]? = some (.cells #[.string a0_0, .string a0_1, .string a0_2, .string a0_3, .string a0_4] 23 (0, 0))) ∧ (w'.heap[gb107]? = some (.cells #[.string a1_0, .string a1_1, .string a1_2, .string a1_3, .string a1_4] 23 (0, 0))) ∧ (w'.heap[s_]? = some (.cells #[.string (⟨#[]⟩ : ByteArray), .string (⟨#[]⟩ : ByteArray), .string (⟨#[]⟩ : ByteArray), .bool false] 33 (0, 0))) ∧ (w.heap.size ≤ s_) ∧ (w.heap.size ≤ s_) ∧ (gb106 ≠ s_) ∧ (s_ ≠ gb106) ∧ (gb107 ≠ s_) ∧ (s_ ≠ gb107) ∧ (Below w.heap.size w w')) ?_ ?_
    rotate_left
    · intro hJ1_3_4
      refine join_ (σ := Nat) 3 #[true, true, true, true, false, true, false, false] (fun s_ => [(10, .agg #[.string t108, .string t109, .string t110, .bool false]), (12, .agg #[.string t112, .string t113, .string t114, .bool false]), (8, .pointer (some ⟨s_, 0, none⟩))]) (fun s_ w' => (w'.cell? ⟨gb106, 0, none⟩ = some (.string a0_0) ∧ w'.cell? ⟨gb106, 1, none⟩ = some (.string a0_1) ∧ w'.cell? ⟨gb106, 2, none⟩ = some (.string a0_2) ∧ w'.cell? ⟨gb106, 3, none⟩ = some (.string a0_3) ∧ w'.cell? ⟨gb106, 4, none⟩ = some (.string a0_4) ∧ w'.cell? ⟨gb107, 0, none⟩ = some (.string a1_0) ∧ w'.cell? ⟨gb107, 1, none⟩ = some (.string a1_1) ∧ w'.cell? ⟨gb107, 2, none⟩ = some (.string a1_2) ∧ w'.cell? ⟨gb107, 3, none⟩ = some (.string a1_3) ∧ w'.cell? ⟨gb107, 4, none⟩ = some (.string a1_4)) ∧ (w'.heap[gb106]? = some (.cells #[.string a0_0, .string a0_1, .string a0_2, .string a0_3, .string a0_4] 23 (0, 0))) ∧ (w'.heap[gb107]? = some (.cells #[.string a1_0, .string a1_1, .string a1_2, .string a1_3, .string a1_4] 23 (0, 0))) ∧ (w'.heap[s_]? = some (.cells #[.string (⟨#[]⟩ : ByteArray), .string (⟨#[]⟩ : ByteArray), .string (⟨#[]⟩ : ByteArray), .bool false] 33 (0, 0))) ∧ (w.heap.size ≤ s_) ∧ (w.heap.size ≤ s_) ∧ (gb106 ≠ s_) ∧ (s_ ≠ gb106) ∧ (gb107 ≠ s_) ∧ (s_ ≠ gb107) ∧ (Below w.heap.size w w')) ?_ ?_
      rotate_left
      · intro hJ1_3_5
        refine join_ (σ := Nat × Nat) 3 #[true, true, true, false, true, true, false, false] (fun s_ => [(10, .agg #[.string t108, .string t109, .string t110, .bool false]), (7, .pointer (some ⟨s_.1, 0, none⟩)), (8, .pointer (some ⟨s_.2, 0, none⟩))]) (fun s_ w' => (w'.cell? ⟨gb106, 0, none⟩ = some (.string a0_0) ∧ w'.cell? ⟨gb106, 1, none⟩ = some (.string a0_1) ∧ w'.cell? ⟨gb106, 2, none⟩ = some (.string a0_2) ∧ w'.cell? ⟨gb106, 3, none⟩ = some (.string a0_3) ∧ w'.cell? ⟨gb106, 4, none⟩ = some (.string a0_4) ∧ w'.cell? ⟨gb107, 0, none⟩ = some (.string a1_0) ∧ w'.cell? ⟨gb107, 1, none⟩ = some (.string a1_1) ∧ w'.cell? ⟨gb107, 2, none⟩ = some (.string a1_2) ∧ w'.cell? ⟨gb107, 3, none⟩ = some (.string a1_3) ∧ w'.cell? ⟨gb107, 4, none⟩ = some (.string a1_4)) ∧ (w'.heap[gb106]? = some (.cells #[.string a0_0, .string a0_1, .string a0_2, .string a0_3, .string a0_4] 23 (0, 0))) ∧ (w'.heap[gb107]? = some (.cells #[.string a1_0, .string a1_1, .string a1_2, .string a1_3, .string a1_4] 23 (0, 0))) ∧ (w'.heap[s_.1]? = some (.cells #[.string (⟨#[]⟩ : ByteArray), .string (⟨#[]⟩ : ByteArray), .string (⟨#[]⟩ : ByteArray), .bool false] 33 (0, 0))) ∧ (w'.heap[s_.2]? = some (.cells #[.string (⟨#[]⟩ : ByteArray), .string (⟨#[]⟩ : ByteArray), .string (⟨#[]⟩ : ByteArray), .bool false] 33 (0, 0))) ∧ (w.heap.size ≤ s_.1) ∧ (w.heap.size ≤ s_.1) ∧ (gb106 ≠ s_.1) ∧ (s_.1 ≠ gb106) ∧ (gb107 ≠ s_.1) ∧ (s_.1 ≠ gb107) ∧ (s_.2 ≠ s_.1) ∧ (s_.1 ≠ s_.2) ∧ (w.heap.size ≤ s_.2) ∧ (w.heap.size ≤ s_.2) ∧ (gb106 ≠ s_.2) ∧ (s_.2 ≠ gb106) ∧ (gb107 ≠ s_.2) ∧ (s_.2 ≠ gb107) ∧ (Below w.heap.size w w')) ?_ ?_
        rotate_left
        · intro hJ1_4_5
          refine join_ (σ := Unit) 4 #[true, true, true, true, false, false, false, false] (fun s_ => [(10, .agg #[.string t108, .string t109, .string t110, .bool false]), (12, .agg #[.string t112, .string t113, .string t114, .bool false])]) (fun s_ w' => (w'.cell? ⟨gb106, 0, none⟩ = some (.string a0_0) ∧ w'.cell? ⟨gb106, 1, none⟩ = some (.string a0_1) ∧ w'.cell? ⟨gb106, 2, none⟩ = some (.string a0_2) ∧ w'.cell? ⟨gb106, 3, none⟩ = some (.string a0_3) ∧ w'.cell? ⟨gb106, 4, none⟩ = some (.string a0_4) ∧ w'.cell? ⟨gb107, 0, none⟩ = some (.string a1_0) ∧ w'.cell? ⟨gb107, 1, none⟩ = some (.string a1_1) ∧ w'.cell? ⟨gb107, 2, none⟩ = some (.string a1_2) ∧ w'.cell? ⟨gb107, 3, none⟩ = some (.string a1_3) ∧ w'.cell? ⟨gb107, 4, none⟩ = some (.string a1_4)) ∧ (w'.heap[gb106]? = some (.cells #[.string a0_0, .string a0_1, .string a0_2, .string a0_3, .string a0_4] 23 (0, 0))) ∧ (w'.heap[gb107]? = some (.cells #[.string a1_0, .string a1_1, .string a1_2, .string a1_3, .string a1_4] 23 (0, 0))) ∧ (Below w.heap.size w w')) ?_ ?_
          rotate_left
          · intro hJ1_3
            refine join_ (σ := Nat) 4 #[true, true, true, false, true, false, false, false] (fun s_ => [(10, .agg #[.string t108, .string t109, .string t110, .bool false]), (7, .pointer (some ⟨s_, 0, none⟩))]) (fun s_ w' => (w'.cell? ⟨gb106, 0, none⟩ = some (.string a0_0) ∧ w'.cell? ⟨gb106, 1, none⟩ = some (.string a0_1) ∧ w'.cell? ⟨gb106, 2, none⟩ = some (.string a0_2) ∧ w'.cell? ⟨gb106, 3, none⟩ = some (.string a0_3) ∧ w'.cell? ⟨gb106, 4, none⟩ = some (.string a0_4) ∧ w'.cell? ⟨gb107, 0, none⟩ = some (.string a1_0) ∧ w'.cell? ⟨gb107, 1, none⟩ = some (.string a1_1) ∧ w'.cell? ⟨gb107, 2, none⟩ = some (.string a1_2) ∧ w'.cell? ⟨gb107, 3, none⟩ = some (.string a1_3) ∧ w'.cell? ⟨gb107, 4, none⟩ = some (.string a1_4)) ∧ (w'.heap[gb106]? = some (.cells #[.string a0_0, .string a0_1, .string a0_2, .string a0_3, .string a0_4] 23 (0, 0))) ∧ (w'.heap[gb107]? = some (.cells #[.string a1_0, .string a1_1, .string a1_2, .string a1_3, .string a1_4] 23 (0, 0))) ∧ (w'.heap[s_]? = some (.cells #[.string (⟨#[]⟩ : ByteArray), .string (⟨#[]⟩ : ByteArray), .string (⟨#[]⟩ : ByteArray), .bool false] 33 (0, 0))) ∧ (w.heap.size ≤ s_) ∧ (w.heap.size ≤ s_) ∧ (gb106 ≠ s_) ∧ (s_ ≠ gb106) ∧ (gb107 ≠ s_) ∧ (s_ ≠ gb107) ∧ (Below w.heap.size w w')) ?_ ?_
            rotate_left
            · intro hJ1_4
              refine join_ (σ := Nat) 4 #[true, true, true, false, false, true, false, false] (fun s_ => [(10, .agg #[.string t108, .string t109, .string t110, .bool false]), (8, .pointer (some ⟨s_, 0, none⟩))]) (fun s_ w' => (w'.cell? ⟨gb106, 0, none⟩ = some (.string a0_0) ∧ w'.cell? ⟨gb106, 1, none⟩ = some (.string a0_1) ∧ w'.cell? ⟨gb106, 2, none⟩ = some (.string a0_2) ∧ w'.cell? ⟨gb106, 3, none⟩ = some (.string a0_3) ∧ w'.cell? ⟨gb106, 4, none⟩ = some (.string a0_4) ∧ w'.cell? ⟨gb107, 0, none⟩ = some (.string a1_0) ∧ w'.cell? ⟨gb107, 1, none⟩ = some (.string a1_1) ∧ w'.cell? ⟨gb107, 2, none⟩ = some (.string a1_2) ∧ w'.cell? ⟨gb107, 3, none⟩ = some (.string a1_3) ∧ w'.cell? ⟨gb107, 4, none⟩ = some (.string a1_4)) ∧ (w'.heap[gb106]? = some (.cells #[.string a0_0, .string a0_1, .string a0_2, .string a0_3, .string a0_4] 23 (0, 0))) ∧ (w'.heap[gb107]? = some (.cells #[.string a1_0, .string a1_1, .string a1_2, .string a1_3, .string a1_4] 23 (0, 0))) ∧ (w'.heap[s_]? = some (.cells #[.string (⟨#[]⟩ : ByteArray), .string (⟨#[]⟩ : ByteArray), .string (⟨#[]⟩ : ByteArray), .bool false] 33 (0, 0))) ∧ (w.heap.size ≤ s_) ∧ (w.heap.size ≤ s_) ∧ (gb106 ≠ s_) ∧ (s_ ≠ gb106) ∧ (gb107 ≠ s_) ∧ (s_ ≠ gb107) ∧ (Below w.heap.size w w')) ?_ ?_
              rotate_left
              · intro hJ1_5
                refine join_ (σ := Nat × Nat) 4 #[true, false, true, false, true, true, false, false] (fun s_ => [(7, .pointer (some ⟨s_.1, 0, none⟩)), (8, .pointer (some ⟨s_.2, 0, none⟩))]) (fun s_ w' => (w'.cell? ⟨gb106, 0, none⟩ = some (.string a0_0) ∧ w'.cell? ⟨gb106, 1, none⟩ = some (.string a0_1) ∧ w'.cell? ⟨gb106, 2, none⟩ = some (.string a0_2) ∧ w'.cell? ⟨gb106, 3, none⟩ = some (.string a0_3) ∧ w'.cell? ⟨gb106, 4, none⟩ = some (.string a0_4) ∧ w'.cell? ⟨gb107, 0, none⟩ = some (.string a1_0) ∧ w'.cell? ⟨gb107, 1, none⟩ = some (.string a1_1) ∧ w'.cell? ⟨gb107, 2, none⟩ = some (.string a1_2) ∧ w'.cell? ⟨gb107, 3, none⟩ = some (.string a1_3) ∧ w'.cell? ⟨gb107, 4, none⟩ = some (.string a1_4)) ∧ (w'.heap[gb106]? = some (.cells #[.string a0_0, .string a0_1, .string a0_2, .string a0_3, .string a0_4] 23 (0, 0))) ∧ (w'.heap[gb107]? = some (.cells #[.string a1_0, .string a1_1, .string a1_2, .string a1_3, .string a1_4] 23 (0, 0))) ∧ (w'.heap[s_.1]? = some (.cells #[.string (⟨#[]⟩ : ByteArray), .string (⟨#[]⟩ : ByteArray), .string (⟨#[]⟩ : ByteArray), .bool false] 33 (0, 0))) ∧ (w'.heap[s_.2]? = some (.cells #[.string (⟨#[]⟩ : ByteArray), .string (⟨#[]⟩ : ByteArray), .string (⟨#[]⟩ : ByteArray), .bool false] 33 (0, 0))) ∧ (w.heap.size ≤ s_.1) ∧ (w.heap.size ≤ s_.1) ∧ (gb106 ≠ s_.1) ∧ (s_.1 ≠ gb106) ∧ (gb107 ≠ s_.1) ∧ (s_.1 ≠ gb107) ∧ (s_.2 ≠ s_.1) ∧ (s_.1 ≠ s_.2) ∧ (w.heap.size ≤ s_.2) ∧ (w.heap.size ≤ s_.2) ∧ (gb106 ≠ s_.2) ∧ (s_.2 ≠ gb106) ∧ (gb107 ≠ s_.2) ∧ (s_.2 ≠ gb107) ∧ (Below w.heap.size w w')) ?_ ?_
                rotate_left
                · intro hJ4_5
                  refine join_ (σ := Unit) 5 #[true, true, true, false, false, false, false, false] (fun s_ => [(10, .agg #[.string t108, .string t109, .string t110, .bool false])]) (fun s_ w' => (w'.cell? ⟨gb106, 0, none⟩ = some (.string a0_0) ∧ w'.cell? ⟨gb106, 1, none⟩ = some (.string a0_1) ∧ w'.cell? ⟨gb106, 2, none⟩ = some (.string a0_2) ∧ w'.cell? ⟨gb106, 3, none⟩ = some (.string a0_3) ∧ w'.cell? ⟨gb106, 4, none⟩ = some (.string a0_4) ∧ w'.cell? ⟨gb107, 0, none⟩ = some (.string a1_0) ∧ w'.cell? ⟨gb107, 1, none⟩ = some (.string a1_1) ∧ w'.cell? ⟨gb107, 2, none⟩ = some (.string a1_2) ∧ w'.cell? ⟨gb107, 3, none⟩ = some (.string a1_3) ∧ w'.cell? ⟨gb107, 4, none⟩ = some (.string a1_4)) ∧ (w'.heap[gb106]? = some (.cells #[.string a0_0, .string a0_1, .string a0_2, .string a0_3, .string a0_4] 23 (0, 0))) ∧ (w'.heap[gb107]? = some (.cells #[.string a1_0, .string a1_1, .string a1_2, .string a1_3, .string a1_4] 23 (0, 0))) ∧ (Below w.heap.size w w')) ?_ ?_
                  rotate_left
                  · intro hJ1
                    refine join_ (σ := Nat) 5 #[true, false, true, false, true, false, false, false] (fun s_ => [(7, .pointer (some ⟨s_, 0, none⟩))]) (fun s_ w' => (w'.cell? ⟨gb106, 0, none⟩ = some (.string a0_0) ∧ w'.cell? ⟨gb106, 1, none⟩ = some (.string a0_1) ∧ w'.cell? ⟨gb106, 2, none⟩ = some (.string a0_2) ∧ w'.cell? ⟨gb106, 3, none⟩ = some (.string a0_3) ∧ w'.cell? ⟨gb106, 4, none⟩ = some (.string a0_4) ∧ w'.cell? ⟨gb107, 0, none⟩ = some (.string a1_0) ∧ w'.cell? ⟨gb107, 1, none⟩ = some (.string a1_1) ∧ w'.cell? ⟨gb107, 2, none⟩ = some (.string a1_2) ∧ w'.cell? ⟨gb107, 3, none⟩ = some (.string a1_3) ∧ w'.cell? ⟨gb107, 4, none⟩ = some (.string a1_4)) ∧ (w'.heap[gb106]? = some (.cells #[.string a0_0, .string a0_1, .string a0_2, .string a0_3, .string a0_4] 23 (0, 0))) ∧ (w'.heap[gb107]? = some (.cells #[.string a1_0, .string a1_1, .string a1_2, .string a1_3, .string a1_4] 23 (0, 0))) ∧ (w'.heap[s_]? = some (.cells #[.string (⟨#[]⟩ : ByteArray), .string (⟨#[]⟩ : ByteArray), .string (⟨#[]⟩ : ByteArray), .bool false] 33 (0, 0))) ∧ (w.heap.size ≤ s_) ∧ (w.heap.size ≤ s_) ∧ (gb106 ≠ s_) ∧ (s_ ≠ gb106) ∧ (gb107 ≠ s_) ∧ (s_ ≠ gb107) ∧ (Below w.heap.size w w')) ?_ ?_
                    rotate_left
                    · intro hJ4
                      refine join_ (σ := Nat) 5 #[true, false, true, false, false, true, false, false] (fun s_ => [(8, .pointer (some ⟨s_, 0, none⟩))]) (fun s_ w' => (w'.cell? ⟨gb106, 0, none⟩ = some (.string a0_0) ∧ w'.cell? ⟨gb106, 1, none⟩ = some (.string a0_1) ∧ w'.cell? ⟨gb106, 2, none⟩ = some (.string a0_2) ∧ w'.cell? ⟨gb106, 3, none⟩ = some (.string a0_3) ∧ w'.cell? ⟨gb106, 4, none⟩ = some (.string a0_4) ∧ w'.cell? ⟨gb107, 0, none⟩ = some (.string a1_0) ∧ w'.cell? ⟨gb107, 1, none⟩ = some (.string a1_1) ∧ w'.cell? ⟨gb107, 2, none⟩ = some (.string a1_2) ∧ w'.cell? ⟨gb107, 3, none⟩ = some (.string a1_3) ∧ w'.cell? ⟨gb107, 4, none⟩ = some (.string a1_4)) ∧ (w'.heap[gb106]? = some (.cells #[.string a0_0, .string a0_1, .string a0_2, .string a0_3, .string a0_4] 23 (0, 0))) ∧ (w'.heap[gb107]? = some (.cells #[.string a1_0, .string a1_1, .string a1_2, .string a1_3, .string a1_4] 23 (0, 0))) ∧ (w'.heap[s_]? = some (.cells #[.string (⟨#[]⟩ : ByteArray), .string (⟨#[]⟩ : ByteArray), .string (⟨#[]⟩ : ByteArray), .bool false] 33 (0, 0))) ∧ (w.heap.size ≤ s_) ∧ (w.heap.size ≤ s_) ∧ (gb106 ≠ s_) ∧ (s_ ≠ gb106) ∧ (gb107 ≠ s_) ∧ (s_ ≠ gb107) ∧ (Below w.heap.size w w')) ?_ ?_
                      rotate_left
                      · intro hJ5
                        refine three_ (i := 1) (j := 4) (k := 5) (Ni := some 10) (Nj := some 7) (Nk := some 8) #[true, true, true, false, false, false, false, false] #[true, false, true, false, true, false, false, false] #[true, false, true, false, false, true, false, false] rfl rfl rfl rfl rfl rfl (three_of HT_.out (by kernel_rfl)) (by decide) (by decide) (by decide) (fun K hK => ?_) (fun K hK => ?_) (fun K hK => ?_)
                        · skip
                          refine goes_ Tryd.func8 (by kernel_rfl) rfl #[.agg #[.string a0_0, .string a0_1, .string a0_2, .string a0_3, .string a0_4]] (by rfl) rfl rfl (by (try simp only [List.map_toArray, List.map_cons, List.map_nil]); first | done | rfl | (simp only [List.length_drop, List.length_take]; rfl)) ?_
                          with_reducible refine (impl_gvk.calls a0_0 a0_1 a0_2 a0_3 a0_4 t108 t109 t110 false _ A3.out).mono ?_
                          rintro e w11 ⟨rfl, hb⟩
                          refine ⟨_, rfl, ?_⟩
                          have n0_ := Aside0.mk (blk_below (g := gb106) (o := .cells #[.string a0_0, .string a0_1, .string a0_2, .string a0_3, .string a0_4] 23 (0, 0)) (by (with_reducible repeat (first | refine blk_drewN ?_ _ | refine blk_drew ?_ | refine blk_alloc ?_ _)); exact BK106.out) hb)
                          have n1_ := Aside0.mk (blk_below (g := gb107) (o := .cells #[.string a1_0, .string a1_1, .string a1_2, .string a1_3, .string a1_4] 23 (0, 0)) (by (with_reducible repeat (first | refine blk_drewN ?_ _ | refine blk_drew ?_ | refine blk_alloc ?_ _)); exact BK107.out) hb)
                          have n2_ := Aside0.mk (below_step (by repeat (first | (with_reducible first | exact HB.out | apply below_alloc | apply pw_below_drewN | apply below_drew1 | refine below_set ?_ GE106.out | refine below_set ?_ GE107.out) | exact HB.out)) hb)
                          clear BK106
                          clear BK107
                          clear HB
                          have BK106 := n0_
                          have BK107 := n1_
                          have HB := n2_
                          clear n0_ n1_ n2_
                          (try clear hb)
                          (try clear hb2)
                          (try clear hk)
                          (try clear hi)
                          refine hK.out _ _ ⟨(blk_cell BK106.out 0).trans rfl, (blk_cell BK106.out 1).trans rfl, (blk_cell BK106.out 2).trans rfl, (blk_cell BK106.out 3).trans rfl, (blk_cell BK106.out 4).trans rfl, (blk_cell BK107.out 0).trans rfl, (blk_cell BK107.out 1).trans rfl, (blk_cell BK107.out 2).trans rfl, (blk_cell BK107.out 3).trans rfl, (blk_cell BK107.out 4).trans rfl⟩ (fun hHeld => ?_)
                          clear hK K
                          refine norm_ (a' := ?_) ?_ ?_
                          rotate_left
                          · show Act.put _ (some 10) _ = _
                            simp only [Act.put, List.setIfInBounds_toArray, List.set_cons_zero, List.set_cons_succ, i64_w, i32_w]
                            rfl
                          exact norm_ (by first | (simp only [putAll, Act.put, List.setIfInBounds_toArray, List.set_cons_zero, List.set_cons_succ]; done) | (simp only [putAll, Act.put, List.setIfInBounds_toArray, List.set_cons_zero, List.set_cons_succ]; rfl)) (hJ1 () _ ⟨hHeld, (by (with_reducible repeat (first | refine blk_drewN ?_ _ | refine blk_drew ?_ | refine blk_alloc ?_ _)); exact BK106.out), (by (with_reducible repeat (first | refine blk_drewN ?_ _ | refine blk_drew ?_ | refine blk_alloc ?_ _)); exact BK107.out), (by repeat (first | (with_reducible first | exact HB.out | apply below_alloc | apply pw_below_drewN | apply below_drew1 | refine below_set ?_ GE106.out | refine below_set ?_ GE107.out) | exact HB.out))⟩)
                        · skip
                          refine box_step ?hg (N := 7) ?hd (cs := #[.string (⟨#[]⟩ : ByteArray), .string (⟨#[]⟩ : ByteArray), .string (⟨#[]⟩ : ByteArray), .bool false]) (t := 33) ?hr ?_; (case hd => rfl); (case hg => rfl); (case hr => first | (go_simp; done) | (go_simp; rfl))
                          intro gb116 hg w11 hbox hb
                          have n0_ := Aside0.mk (blk_below (g := gb106) (o := .cells #[.string a0_0, .string a0_1, .string a0_2, .string a0_3, .string a0_4] 23 (0, 0)) (by (with_reducible repeat (first | refine blk_drewN ?_ _ | refine blk_drew ?_ | refine blk_alloc ?_ _)); exact BK106.out) hb)
                          have n1_ := Aside0.mk (blk_below (g := gb107) (o := .cells #[.string a1_0, .string a1_1, .string a1_2, .string a1_3, .string a1_4] 23 (0, 0)) (by (with_reducible repeat (first | refine blk_drewN ?_ _ | refine blk_drew ?_ | refine blk_alloc ?_ _)); exact BK107.out) hb)
                          have n2_ := Aside0.mk (below_step (by repeat (first | (with_reducible first | exact HB.out | apply below_alloc | apply pw_below_drewN | apply below_drew1 | refine below_set ?_ GE106.out | refine below_set ?_ GE107.out) | exact HB.out)) hb)
                          have n3_ := Aside0.mk (hbox)
                          have n4_ := Aside0.mk ((by rw [hg]; exact (below_size (by repeat (first | (with_reducible first | exact HB.out | apply below_alloc | apply pw_below_drewN | apply below_drew1 | refine below_set ?_ GE106.out | refine below_set ?_ GE107.out) | exact HB.out))) : w.heap.size ≤ gb116))
                          have n5_ := Aside0.mk ((by rw [hg]; exact (below_size (by repeat (first | (with_reducible first | exact HB.out | apply below_alloc | apply pw_below_drewN | apply below_drew1 | refine below_set ?_ GE106.out | refine below_set ?_ GE107.out) | exact HB.out))) : w.heap.size ≤ gb116))
                          have n6_ := Aside0.mk ((by rw [hg]; exact Nat.ne_of_lt (blk_lt (g := gb106) (o := .cells #[.string a0_0, .string a0_1, .string a0_2, .string a0_3, .string a0_4] 23 (0, 0)) (by (with_reducible repeat (first | refine blk_drewN ?_ _ | refine blk_drew ?_ | refine blk_alloc ?_ _)); exact BK106.out)) : gb106 ≠ gb116))
                          have n7_ := Aside0.mk ((by rw [hg]; exact Nat.ne_of_gt (blk_lt (g := gb106) (o := .cells #[.string a0_0, .string a0_1, .string a0_2, .string a0_3, .string a0_4] 23 (0, 0)) (by (with_reducible repeat (first | refine blk_drewN ?_ _ | refine blk_drew ?_ | refine blk_alloc ?_ _)); exact BK106.out)) : gb116 ≠ gb106))
                          have n8_ := Aside0.mk ((by rw [hg]; exact Nat.ne_of_lt (blk_lt (g := gb107) (o := .cells #[.string a1_0, .string a1_1, .string a1_2, .string a1_3, .string a1_4] 23 (0, 0)) (by (with_reducible repeat (first | refine blk_drewN ?_ _ | refine blk_drew ?_ | refine blk_alloc ?_ _)); exact BK107.out)) : gb107 ≠ gb116))
                          have n9_ := Aside0.mk ((by rw [hg]; exact Nat.ne_of_gt (blk_lt (g := gb107) (o := .cells #[.string a1_0, .string a1_1, .string a1_2, .string a1_3, .string a1_4] 23 (0, 0)) (by (with_reducible repeat (first | refine blk_drewN ?_ _ | refine blk_drew ?_ | refine blk_alloc ?_ _)); exact BK107.out)) : gb116 ≠ gb107))
                          clear BK106
                          clear BK107
                          clear HB
                          have BK106 := n0_
                          have BK107 := n1_
                          have HB := n2_
                          have BK116 := n3_
                          have GW116 := n4_
                          have GE116 := n5_
                          have NB106_116 := n6_
                          have NB116_106 := n7_
                          have NB107_116 := n8_
                          have NB116_107 := n9_
                          clear n0_ n1_ n2_ n3_ n4_ n5_ n6_ n7_ n8_ n9_
                          clear hb hbox hg
                          refine hK.out _ _ ⟨(blk_cell BK106.out 0).trans rfl, (blk_cell BK106.out 1).trans rfl, (blk_cell BK106.out 2).trans rfl, (blk_cell BK106.out 3).trans rfl, (blk_cell BK106.out 4).trans rfl, (blk_cell BK107.out 0).trans rfl, (blk_cell BK107.out 1).trans rfl, (blk_cell BK107.out 2).trans rfl, (blk_cell BK107.out 3).trans rfl, (blk_cell BK107.out 4).trans rfl⟩ (fun hHeld => ?_)
                          clear hK K
                          refine norm_ (a' := ?_) ?_ ?_
                          rotate_left
                          · show Act.put _ (some 7) _ = _
                            simp only [Act.put, List.setIfInBounds_toArray, List.set_cons_zero, List.set_cons_succ, i64_w, i32_w]
                            rfl
                          exact norm_ (by first | (simp only [putAll, Act.put, List.setIfInBounds_toArray, List.set_cons_zero, List.set_cons_succ]; done) | (simp only [putAll, Act.put, List.setIfInBounds_toArray, List.set_cons_zero, List.set_cons_succ]; rfl)) (hJ4 (gb116) _ ⟨hHeld, (by (with_reducible repeat (first | refine blk_drewN ?_ _ | refine blk_drew ?_ | refine blk_alloc ?_ _)); exact BK106.out), (by (with_reducible repeat (first | refine blk_drewN ?_ _ | refine blk_drew ?_ | refine blk_alloc ?_ _)); exact BK107.out), (by (with_reducible repeat (first | refine blk_drewN ?_ _ | refine blk_drew ?_ | refine blk_alloc ?_ _)); exact BK116.out), GW116.out, GE116.out, NB106_116.out, NB116_106.out, NB107_116.out, NB116_107.out, (by repeat (first | (with_reducible first | exact HB.out | apply below_alloc | apply pw_below_drewN | apply below_drew1 | refine below_set ?_ GE106.out | refine below_set ?_ GE107.out | refine below_set ?_ GE116.out) | exact HB.out))⟩)
                        · skip
                          refine box_step ?hg (N := 8) ?hd (cs := #[.string (⟨#[]⟩ : ByteArray), .string (⟨#[]⟩ : ByteArray), .string (⟨#[]⟩ : ByteArray), .bool false]) (t := 33) ?hr ?_; (case hd => rfl); (case hg => rfl); (case hr => first | (go_simp; done) | (go_simp; rfl))
                          intro gb117 hg w11 hbox hb
                          have n0_ := Aside0.mk (blk_below (g := gb106) (o := .cells #[.string a0_0, .string a0_1, .string a0_2, .string a0_3, .string a0_4] 23 (0, 0)) (by (with_reducible repeat (first | refine blk_drewN ?_ _ | refine blk_drew ?_ | refine blk_alloc ?_ _)); exact BK106.out) hb)
                          have n1_ := Aside0.mk (blk_below (g := gb107) (o := .cells #[.string a1_0, .string a1_1, .string a1_2, .string a1_3, .string a1_4] 23 (0, 0)) (by (with_reducible repeat (first | refine blk_drewN ?_ _ | refine blk_drew ?_ | refine blk_alloc ?_ _)); exact BK107.out) hb)
                          have n2_ := Aside0.mk (below_step (by repeat (first | (with_reducible first | exact HB.out | apply below_alloc | apply pw_below_drewN | apply below_drew1 | refine below_set ?_ GE106.out | refine below_set ?_ GE107.out) | exact HB.out)) hb)
                          have n3_ := Aside0.mk (hbox)
                          have n4_ := Aside0.mk ((by rw [hg]; exact (below_size (by repeat (first | (with_reducible first | exact HB.out | apply below_alloc | apply pw_below_drewN | apply below_drew1 | refine below_set ?_ GE106.out | refine below_set ?_ GE107.out) | exact HB.out))) : w.heap.size ≤ gb117))
                          have n5_ := Aside0.mk ((by rw [hg]; exact (below_size (by repeat (first | (with_reducible first | exact HB.out | apply below_alloc | apply pw_below_drewN | apply below_drew1 | refine below_set ?_ GE106.out | refine below_set ?_ GE107.out) | exact HB.out))) : w.heap.size ≤ gb117))
                          have n6_ := Aside0.mk ((by rw [hg]; exact Nat.ne_of_lt (blk_lt (g := gb106) (o := .cells #[.string a0_0, .string a0_1, .string a0_2, .string a0_3, .string a0_4] 23 (0, 0)) (by (with_reducible repeat (first | refine blk_drewN ?_ _ | refine blk_drew ?_ | refine blk_alloc ?_ _)); exact BK106.out)) : gb106 ≠ gb117))
                          have n7_ := Aside0.mk ((by rw [hg]; exact Nat.ne_of_gt (blk_lt (g := gb106) (o := .cells #[.string a0_0, .string a0_1, .string a0_2, .string a0_3, .string a0_4] 23 (0, 0)) (by (with_reducible repeat (first | refine blk_drewN ?_ _ | refine blk_drew ?_ | refine blk_alloc ?_ _)); exact BK106.out)) : gb117 ≠ gb106))
                          have n8_ := Aside0.mk ((by rw [hg]; exact Nat.ne_of_lt (blk_lt (g := gb107) (o := .cells #[.string a1_0, .string a1_1, .string a1_2, .string a1_3, .string a1_4] 23 (0, 0)) (by (with_reducible repeat (first | refine blk_drewN ?_ _ | refine blk_drew ?_ | refine blk_alloc ?_ _)); exact BK107.out)) : gb107 ≠ gb117))
                          have n9_ := Aside0.mk ((by rw [hg]; exact Nat.ne_of_gt (blk_lt (g := gb107) (o := .cells #[.string a1_0, .string a1_1, .string a1_2, .string a1_3, .string a1_4] 23 (0, 0)) (by (with_reducible repeat (first | refine blk_drewN ?_ _ | refine blk_drew ?_ | refine blk_alloc ?_ _)); exact BK107.out)) : gb117 ≠ gb107))
                          clear BK106
                          clear BK107
                          clear HB
                          have BK106 := n0_
                          have BK107 := n1_
                          have HB := n2_
                          have BK117 := n3_
                          have GW117 := n4_
                          have GE117 := n5_
                          have NB106_117 := n6_
                          have NB117_106 := n7_
                          have NB107_117 := n8_
                          have NB117_107 := n9_
                          clear n0_ n1_ n2_ n3_ n4_ n5_ n6_ n7_ n8_ n9_
                          clear hb hbox hg
                          refine hK.out _ _ ⟨(blk_cell BK106.out 0).trans rfl, (blk_cell BK106.out 1).trans rfl, (blk_cell BK106.out 2).trans rfl, (blk_cell BK106.out 3).trans rfl, (blk_cell BK106.out 4).trans rfl, (blk_cell BK107.out 0).trans rfl, (blk_cell BK107.out 1).trans rfl, (blk_cell BK107.out 2).trans rfl, (blk_cell BK107.out 3).trans rfl, (blk_cell BK107.out 4).trans rfl⟩ (fun hHeld => ?_)
                          clear hK K
                          refine norm_ (a' := ?_) ?_ ?_
                          rotate_left
                          · show Act.put _ (some 8) _ = _
                            simp only [Act.put, List.setIfInBounds_toArray, List.set_cons_zero, List.set_cons_succ, i64_w, i32_w]
                            rfl
                          exact norm_ (by first | (simp only [putAll, Act.put, List.setIfInBounds_toArray, List.set_cons_zero, List.set_cons_succ]; done) | (simp only [putAll, Act.put, List.setIfInBounds_toArray, List.set_cons_zero, List.set_cons_succ]; rfl)) (hJ5 (gb117) _ ⟨hHeld, (by (with_reducible repeat (first | refine blk_drewN ?_ _ | refine blk_drew ?_ | refine blk_alloc ?_ _)); exact BK106.out), (by (with_reducible repeat (first | refine blk_drewN ?_ _ | refine blk_drew ?_ | refine blk_alloc ?_ _)); exact BK107.out), (by (with_reducible repeat (first | refine blk_drewN ?_ _ | refine blk_drew ?_ | refine blk_alloc ?_ _)); exact BK117.out), GW117.out, GE117.out, NB106_117.out, NB117_106.out, NB107_117.out, NB117_107.out, (by repeat (first | (with_reducible first | exact HB.out | apply below_alloc | apply pw_below_drewN | apply below_drew1 | refine below_set ?_ GE106.out | refine below_set ?_ GE107.out | refine below_set ?_ GE117.out) | exact HB.out))⟩)
                      · skip
                        rintro gb117 w12 ⟨hS_, h0_, h1_, h2_, h3_, h4_, h5_, h6_, h7_, h8_, h9_⟩
                        have n0_ : Aside0 (w12.heap[gb106]? = some (.cells #[.string a0_0, .string a0_1, .string a0_2, .string a0_3, .string a0_4] 23 (0, 0))) := ⟨h0_⟩
                        have n1_ : Aside0 (w12.heap[gb107]? = some (.cells #[.string a1_0, .string a1_1, .string a1_2, .string a1_3, .string a1_4] 23 (0, 0))) := ⟨h1_⟩
                        have n2_ : Aside0 (w12.heap[gb117]? = some (.cells #[.string (⟨#[]⟩ : ByteArray), .string (⟨#[]⟩ : ByteArray), .string (⟨#[]⟩ : ByteArray), .bool false] 33 (0, 0))) := ⟨h2_⟩
                        have n3_ : Aside0 (w.heap.size ≤ gb117) := ⟨h3_⟩
                        have n4_ : Aside0 (w.heap.size ≤ gb117) := ⟨h4_⟩
                        have n5_ : Aside0 (gb106 ≠ gb117) := ⟨h5_⟩
                        have n6_ : Aside0 (gb117 ≠ gb106) := ⟨h6_⟩
                        have n7_ : Aside0 (gb107 ≠ gb117) := ⟨h7_⟩
                        have n8_ : Aside0 (gb117 ≠ gb107) := ⟨h8_⟩
                        have n9_ : Aside0 (Below w.heap.size w w12) := ⟨h9_⟩
                        clear BK106
                        clear BK107
                        clear HB
                        clear h0_ h1_ h2_ h3_ h4_ h5_ h6_ h7_ h8_ h9_
                        have BK106 := n0_
                        have BK107 := n1_
                        have BK117 := n2_
                        have GW117 := n3_
                        have GE117 := n4_
                        have NB106_117 := n5_
                        have NB117_106 := n6_
                        have NB107_117 := n7_
                        have NB117_107 := n8_
                        have HB := n9_
                        clear n0_ n1_ n2_ n3_ n4_ n5_ n6_ n7_ n8_ n9_
                        have hHeld : w12.cell? ⟨gb106, 0, none⟩ = some (.string a0_0) ∧ w12.cell? ⟨gb106, 1, none⟩ = some (.string a0_1) ∧ w12.cell? ⟨gb106, 2, none⟩ = some (.string a0_2) ∧ w12.cell? ⟨gb106, 3, none⟩ = some (.string a0_3) ∧ w12.cell? ⟨gb106, 4, none⟩ = some (.string a0_4) ∧ w12.cell? ⟨gb107, 0, none⟩ = some (.string a1_0) ∧ w12.cell? ⟨gb107, 1, none⟩ = some (.string a1_1) ∧ w12.cell? ⟨gb107, 2, none⟩ = some (.string a1_2) ∧ w12.cell? ⟨gb107, 3, none⟩ = some (.string a1_3) ∧ w12.cell? ⟨gb107, 4, none⟩ = some (.string a1_4) := hS_
                        refine norm_ (a' := ?_) ?_ ?_
                        rotate_left
                        · simp only [putAll, Act.put, List.setIfInBounds_toArray, List.set_cons_zero, List.set_cons_succ]
                          rfl
                        refine two_ (i := 1) (j := 4) (Ni := some 10) (Nj := some 7) #[true, true, true, false, false, true, false, false] #[true, false, true, false, true, true, false, false] rfl rfl rfl rfl (two_of HT_.out (by kernel_rfl)) (by decide) (by decide) (fun K hK => ?_) (fun K hK => ?_)
                        · skip
                          refine goes_ Tryd.func8 (by kernel_rfl) rfl #[.agg #[.string a0_0, .string a0_1, .string a0_2, .string a0_3, .string a0_4]] (by rfl) rfl rfl (by (try simp only [List.map_toArray, List.map_cons, List.map_nil]); first | done | rfl | (simp only [List.length_drop, List.length_take]; rfl)) ?_
                          with_reducible refine (impl_gvk.calls a0_0 a0_1 a0_2 a0_3 a0_4 t108 t109 t110 false _ A3.out).mono ?_
                          rintro e w13 ⟨rfl, hb⟩
                          refine ⟨_, rfl, ?_⟩
                          have n0_ := Aside0.mk (blk_below (g := gb106) (o := .cells #[.string a0_0, .string a0_1, .string a0_2, .string a0_3, .string a0_4] 23 (0, 0)) (by (with_reducible repeat (first | refine blk_drewN ?_ _ | refine blk_drew ?_ | refine blk_alloc ?_ _)); exact BK106.out) hb)
                          have n1_ := Aside0.mk (blk_below (g := gb107) (o := .cells #[.string a1_0, .string a1_1, .string a1_2, .string a1_3, .string a1_4] 23 (0, 0)) (by (with_reducible repeat (first | refine blk_drewN ?_ _ | refine blk_drew ?_ | refine blk_alloc ?_ _)); exact BK107.out) hb)
                          have n2_ := Aside0.mk (blk_below (g := gb117) (o := .cells #[.string (⟨#[]⟩ : ByteArray), .string (⟨#[]⟩ : ByteArray), .string (⟨#[]⟩ : ByteArray), .bool false] 33 (0, 0)) (by (with_reducible repeat (first | refine blk_drewN ?_ _ | refine blk_drew ?_ | refine blk_alloc ?_ _)); exact BK117.out) hb)
                          have n3_ := Aside0.mk (below_step (by repeat (first | (with_reducible first | exact HB.out | apply below_alloc | apply pw_below_drewN | apply below_drew1 | refine below_set ?_ GE106.out | refine below_set ?_ GE107.out | refine below_set ?_ GE117.out) | exact HB.out)) hb)
                          clear BK106
                          clear BK107
                          clear BK117
                          clear HB
                          have BK106 := n0_
                          have BK107 := n1_
                          have BK117 := n2_
                          have HB := n3_
                          clear n0_ n1_ n2_ n3_
                          (try clear hb)
                          (try clear hb2)
                          (try clear hk)
                          (try clear hi)
                          refine hK.out _ _ ⟨(blk_cell BK106.out 0).trans rfl, (blk_cell BK106.out 1).trans rfl, (blk_cell BK106.out 2).trans rfl, (blk_cell BK106.out 3).trans rfl, (blk_cell BK106.out 4).trans rfl, (blk_cell BK107.out 0).trans rfl, (blk_cell BK107.out 1).trans rfl, (blk_cell BK107.out 2).trans rfl, (blk_cell BK107.out 3).trans rfl, (blk_cell BK107.out 4).trans rfl⟩ (fun hHeld => ?_)
                          clear hK K
                          refine norm_ (a' := ?_) ?_ ?_
                          rotate_left
                          · show Act.put _ (some 10) _ = _
                            simp only [Act.put, List.setIfInBounds_toArray, List.set_cons_zero, List.set_cons_succ, i64_w, i32_w]
                            rfl
                          exact norm_ (by first | (simp only [putAll, Act.put, List.setIfInBounds_toArray, List.set_cons_zero, List.set_cons_succ]; done) | (simp only [putAll, Act.put, List.setIfInBounds_toArray, List.set_cons_zero, List.set_cons_succ]; rfl)) (hJ1_5 (gb117) _ ⟨hHeld, (by (with_reducible repeat (first | refine blk_drewN ?_ _ | refine blk_drew ?_ | refine blk_alloc ?_ _)); exact BK106.out), (by (with_reducible repeat (first | refine blk_drewN ?_ _ | refine blk_drew ?_ | refine blk_alloc ?_ _)); exact BK107.out), (by (with_reducible repeat (first | refine blk_drewN ?_ _ | refine blk_drew ?_ | refine blk_alloc ?_ _)); exact BK117.out), GW117.out, GE117.out, NB106_117.out, NB117_106.out, NB107_117.out, NB117_107.out, (by repeat (first | (with_reducible first | exact HB.out | apply below_alloc | apply pw_below_drewN | apply below_drew1 | refine below_set ?_ GE106.out | refine below_set ?_ GE107.out | refine below_set ?_ GE117.out) | exact HB.out))⟩)
                        · skip
                          refine box_step ?hg (N := 7) ?hd (cs := #[.string (⟨#[]⟩ : ByteArray), .string (⟨#[]⟩ : ByteArray), .string (⟨#[]⟩ : ByteArray), .bool false]) (t := 33) ?hr ?_; (case hd => rfl); (case hg => rfl); (case hr => first | (go_simp; done) | (go_simp; rfl))
                          intro gb116 hg w13 hbox hb
                          have n0_ := Aside0.mk (blk_below (g := gb106) (o := .cells #[.string a0_0, .string a0_1, .string a0_2, .string a0_3, .string a0_4] 23 (0, 0)) (by (with_reducible repeat (first | refine blk_drewN ?_ _ | refine blk_drew ?_ | refine blk_alloc ?_ _)); exact BK106.out) hb)
                          have n1_ := Aside0.mk (blk_below (g := gb107) (o := .cells #[.string a1_0, .string a1_1, .string a1_2, .string a1_3, .string a1_4] 23 (0, 0)) (by (with_reducible repeat (first | refine blk_drewN ?_ _ | refine blk_drew ?_ | refine blk_alloc ?_ _)); exact BK107.out) hb)
                          have n2_ := Aside0.mk (blk_below (g := gb117) (o := .cells #[.string (⟨#[]⟩ : ByteArray), .string (⟨#[]⟩ : ByteArray), .string (⟨#[]⟩ : ByteArray), .bool false] 33 (0, 0)) (by (with_reducible repeat (first | refine blk_drewN ?_ _ | refine blk_drew ?_ | refine blk_alloc ?_ _)); exact BK117.out) hb)
                          have n3_ := Aside0.mk (below_step (by repeat (first | (with_reducible first | exact HB.out | apply below_alloc | apply pw_below_drewN | apply below_drew1 | refine below_set ?_ GE106.out | refine below_set ?_ GE107.out | refine below_set ?_ GE117.out) | exact HB.out)) hb)
                          have n4_ := Aside0.mk (hbox)
                          have n5_ := Aside0.mk ((by rw [hg]; exact (below_size (by repeat (first | (with_reducible first | exact HB.out | apply below_alloc | apply pw_below_drewN | apply below_drew1 | refine below_set ?_ GE106.out | refine below_set ?_ GE107.out | refine below_set ?_ GE117.out) | exact HB.out))) : w.heap.size ≤ gb116))
                          have n6_ := Aside0.mk ((by rw [hg]; exact (below_size (by repeat (first | (with_reducible first | exact HB.out | apply below_alloc | apply pw_below_drewN | apply below_drew1 | refine below_set ?_ GE106.out | refine below_set ?_ GE107.out | refine below_set ?_ GE117.out) | exact HB.out))) : w.heap.size ≤ gb116))
                          have n7_ := Aside0.mk ((by rw [hg]; exact Nat.ne_of_lt (blk_lt (g := gb106) (o := .cells #[.string a0_0, .string a0_1, .string a0_2, .string a0_3, .string a0_4] 23 (0, 0)) (by (with_reducible repeat (first | refine blk_drewN ?_ _ | refine blk_drew ?_ | refine blk_alloc ?_ _)); exact BK106.out)) : gb106 ≠ gb116))
                          have n8_ := Aside0.mk ((by rw [hg]; exact Nat.ne_of_gt (blk_lt (g := gb106) (o := .cells #[.string a0_0, .string a0_1, .string a0_2, .string a0_3, .string a0_4] 23 (0, 0)) (by (with_reducible repeat (first | refine blk_drewN ?_ _ | refine blk_drew ?_ | refine blk_alloc ?_ _)); exact BK106.out)) : gb116 ≠ gb106))
                          have n9_ := Aside0.mk ((by rw [hg]; exact Nat.ne_of_lt (blk_lt (g := gb107) (o := .cells #[.string a1_0, .string a1_1, .string a1_2, .string a1_3, .string a1_4] 23 (0, 0)) (by (with_reducible repeat (first | refine blk_drewN ?_ _ | refine blk_drew ?_ | refine blk_alloc ?_ _)); exact BK107.out)) : gb107 ≠ gb116))
                          have n10_ := Aside0.mk ((by rw [hg]; exact Nat.ne_of_gt (blk_lt (g := gb107) (o := .cells #[.string a1_0, .string a1_1, .string a1_2, .string a1_3, .string a1_4] 23 (0, 0)) (by (with_reducible repeat (first | refine blk_drewN ?_ _ | refine blk_drew ?_ | refine blk_alloc ?_ _)); exact BK107.out)) : gb116 ≠ gb107))
                          have n11_ := Aside0.mk ((by rw [hg]; exact Nat.ne_of_lt (blk_lt (g := gb117) (o := .cells #[.string (⟨#[]⟩ : ByteArray), .string (⟨#[]⟩ : ByteArray), .string (⟨#[]⟩ : ByteArray), .bool false] 33 (0, 0)) (by (with_reducible repeat (first | refine blk_drewN ?_ _ | refine blk_drew ?_ | refine blk_alloc ?_ _)); exact BK117.out)) : gb117 ≠ gb116))
                          have n12_ := Aside0.mk ((by rw [hg]; exact Nat.ne_of_gt (blk_lt (g := gb117) (o := .cells #[.string (⟨#[]⟩ : ByteArray), .string (⟨#[]⟩ : ByteArray), .string (⟨#[]⟩ : ByteArray), .bool false] 33 (0, 0)) (by (with_reducible repeat (first | refine blk_drewN ?_ _ | refine blk_drew ?_ | refine blk_alloc ?_ _)); exact BK117.out)) : gb116 ≠ gb117))
                          clear BK106
                          clear BK107
                          clear BK117
                          clear HB
                          have BK106 := n0_
                          have BK107 := n1_
                          have BK117 := n2_
                          have HB := n3_
                          have BK116 := n4_
                          have GW116 := n5_
                          have GE116 := n6_
                          have NB106_116 := n7_
                          have NB116_106 := n8_
                          have NB107_116 := n9_
                          have NB116_107 := n10_
                          have NB117_116 := n11_
                          have NB116_117 := n12_
                          clear n0_ n1_ n2_ n3_ n4_ n5_ n6_ n7_ n8_ n9_ n10_ n11_ n12_
                          clear hb hbox hg
                          refine hK.out _ _ ⟨(blk_cell BK106.out 0).trans rfl, (blk_cell BK106.out 1).trans rfl, (blk_cell BK106.out 2).trans rfl, (blk_cell BK106.out 3).trans rfl, (blk_cell BK106.out 4).trans rfl, (blk_cell BK107.out 0).trans rfl, (blk_cell BK107.out 1).trans rfl, (blk_cell BK107.out 2).trans rfl, (blk_cell BK107.out 3).trans rfl, (blk_cell BK107.out 4).trans rfl⟩ (fun hHeld => ?_)
                          clear hK K
                          refine norm_ (a' := ?_) ?_ ?_
                          rotate_left
                          · show Act.put _ (some 7) _ = _
                            simp only [Act.put, List.setIfInBounds_toArray, List.set_cons_zero, List.set_cons_succ, i64_w, i32_w]
                            rfl
                          exact norm_ (by first | (simp only [putAll, Act.put, List.setIfInBounds_toArray, List.set_cons_zero, List.set_cons_succ]; done) | (simp only [putAll, Act.put, List.setIfInBounds_toArray, List.set_cons_zero, List.set_cons_succ]; rfl)) (hJ4_5 (gb116, gb117) _ ⟨hHeld, (by (with_reducible repeat (first | refine blk_drewN ?_ _ | refine blk_drew ?_ | refine blk_alloc ?_ _)); exact BK106.out), (by (with_reducible repeat (first | refine blk_drewN ?_ _ | refine blk_drew ?_ | refine blk_alloc ?_ _)); exact BK107.out), (by (with_reducible repeat (first | refine blk_drewN ?_ _ | refine blk_drew ?_ | refine blk_alloc ?_ _)); exact BK116.out), (by (with_reducible repeat (first | refine blk_drewN ?_ _ | refine blk_drew ?_ | refine blk_alloc ?_ _)); exact BK117.out), GW116.out, GE116.out, NB106_116.out, NB116_106.out, NB107_116.out, NB116_107.out, NB117_116.out, NB116_117.out, GW117.out, GE117.out, NB106_117.out, NB117_106.out, NB107_117.out, NB117_107.out, (by repeat (first | (with_reducible first | exact HB.out | apply below_alloc | apply pw_below_drewN | apply below_drew1 | refine below_set ?_ GE106.out | refine below_set ?_ GE107.out | refine below_set ?_ GE117.out | refine below_set ?_ GE116.out) | exact HB.out))⟩)
                    · skip
                      rintro gb116 w12 ⟨hS_, h0_, h1_, h2_, h3_, h4_, h5_, h6_, h7_, h8_, h9_⟩
                      have n0_ : Aside0 (w12.heap[gb106]? = some (.cells #[.string a0_0, .string a0_1, .string a0_2, .string a0_3, .string a0_4] 23 (0, 0))) := ⟨h0_⟩
                      have n1_ : Aside0 (w12.heap[gb107]? = some (.cells #[.string a1_0, .string a1_1, .string a1_2, .string a1_3, .string a1_4] 23 (0, 0))) := ⟨h1_⟩
                      have n2_ : Aside0 (w12.heap[gb116]? = some (.cells #[.string (⟨#[]⟩ : ByteArray), .string (⟨#[]⟩ : ByteArray), .string (⟨#[]⟩ : ByteArray), .bool false] 33 (0, 0))) := ⟨h2_⟩
                      have n3_ : Aside0 (w.heap.size ≤ gb116) := ⟨h3_⟩
                      have n4_ : Aside0 (w.heap.size ≤ gb116) := ⟨h4_⟩
                      have n5_ : Aside0 (gb106 ≠ gb116) := ⟨h5_⟩
                      have n6_ : Aside0 (gb116 ≠ gb106) := ⟨h6_⟩
                      have n7_ : Aside0 (gb107 ≠ gb116) := ⟨h7_⟩
                      have n8_ : Aside0 (gb116 ≠ gb107) := ⟨h8_⟩
                      have n9_ : Aside0 (Below w.heap.size w w12) := ⟨h9_⟩
                      clear BK106
                      clear BK107
                      clear HB
                      clear h0_ h1_ h2_ h3_ h4_ h5_ h6_ h7_ h8_ h9_
                      have BK106 := n0_
                      have BK107 := n1_
                      have BK116 := n2_
                      have GW116 := n3_
                      have GE116 := n4_
                      have NB106_116 := n5_
                      have NB116_106 := n6_
                      have NB107_116 := n7_
                      have NB116_107 := n8_
                      have HB := n9_
                      clear n0_ n1_ n2_ n3_ n4_ n5_ n6_ n7_ n8_ n9_
                      have hHeld : w12.cell? ⟨gb106, 0, none⟩ = some (.string a0_0) ∧ w12.cell? ⟨gb106, 1, none⟩ = some (.string a0_1) ∧ w12.cell? ⟨gb106, 2, none⟩ = some (.string a0_2) ∧ w12.cell? ⟨gb106, 3, none⟩ = some (.string a0_3) ∧ w12.cell? ⟨gb106, 4, none⟩ = some (.string a0_4) ∧ w12.cell? ⟨gb107, 0, none⟩ = some (.string a1_0) ∧ w12.cell? ⟨gb107, 1, none⟩ = some (.string a1_1) ∧ w12.cell? ⟨gb107, 2, none⟩ = some (.string a1_2) ∧ w12.cell? ⟨gb107, 3, none⟩ = some (.string a1_3) ∧ w12.cell? ⟨gb107, 4, none⟩ = some (.string a1_4) := hS_
                      refine norm_ (a' := ?_) ?_ ?_
                      rotate_left
                      · simp only [putAll, Act.put, List.setIfInBounds_toArray, List.set_cons_zero, List.set_cons_succ]
                        rfl
                      refine two_ (i := 1) (j := 5) (Ni := some 10) (Nj := some 8) #[true, true, true, false, true, false, false, false] #[true, false, true, false, true, true, false, false] rfl rfl rfl rfl (two_of HT_.out (by kernel_rfl)) (by decide) (by decide) (fun K hK => ?_) (fun K hK => ?_)
                      · skip
                        refine goes_ Tryd.func8 (by kernel_rfl) rfl #[.agg #[.string a0_0, .string a0_1, .string a0_2, .string a0_3, .string a0_4]] (by rfl) rfl rfl (by (try simp only [List.map_toArray, List.map_cons, List.map_nil]); first | done | rfl | (simp only [List.length_drop, List.length_take]; rfl)) ?_
                        with_reducible refine (impl_gvk.calls a0_0 a0_1 a0_2 a0_3 a0_4 t108 t109 t110 false _ A3.out).mono ?_
                        rintro e w13 ⟨rfl, hb⟩
                        refine ⟨_, rfl, ?_⟩
                        have n0_ := Aside0.mk (blk_below (g := gb106) (o := .cells #[.string a0_0, .string a0_1, .string a0_2, .string a0_3, .string a0_4] 23 (0, 0)) (by (with_reducible repeat (first | refine blk_drewN ?_ _ | refine blk_drew ?_ | refine blk_alloc ?_ _)); exact BK106.out) hb)
                        have n1_ := Aside0.mk (blk_below (g := gb107) (o := .cells #[.string a1_0, .string a1_1, .string a1_2, .string a1_3, .string a1_4] 23 (0, 0)) (by (with_reducible repeat (first | refine blk_drewN ?_ _ | refine blk_drew ?_ | refine blk_alloc ?_ _)); exact BK107.out) hb)
                        have n2_ := Aside0.mk (blk_below (g := gb116) (o := .cells #[.string (⟨#[]⟩ : ByteArray), .string (⟨#[]⟩ : ByteArray), .string (⟨#[]⟩ : ByteArray), .bool false] 33 (0, 0)) (by (with_reducible repeat (first | refine blk_drewN ?_ _ | refine blk_drew ?_ | refine blk_alloc ?_ _)); exact BK116.out) hb)
                        have n3_ := Aside0.mk (below_step (by repeat (first | (with_reducible first | exact HB.out | apply below_alloc | apply pw_below_drewN | apply below_drew1 | refine below_set ?_ GE106.out | refine below_set ?_ GE107.out | refine below_set ?_ GE116.out) | exact HB.out)) hb)
                        clear BK106
                        clear BK107
                        clear BK116
                        clear HB
                        have BK106 := n0_
                        have BK107 := n1_
                        have BK116 := n2_
                        have HB := n3_
                        clear n0_ n1_ n2_ n3_
                        (try clear hb)
                        (try clear hb2)
                        (try clear hk)
                        (try clear hi)
                        refine hK.out _ _ ⟨(blk_cell BK106.out 0).trans rfl, (blk_cell BK106.out 1).trans rfl, (blk_cell BK106.out 2).trans rfl, (blk_cell BK106.out 3).trans rfl, (blk_cell BK106.out 4).trans rfl, (blk_cell BK107.out 0).trans rfl, (blk_cell BK107.out 1).trans rfl, (blk_cell BK107.out 2).trans rfl, (blk_cell BK107.out 3).trans rfl, (blk_cell BK107.out 4).trans rfl⟩ (fun hHeld => ?_)
                        clear hK K
                        refine norm_ (a' := ?_) ?_ ?_
                        rotate_left
                        · show Act.put _ (some 10) _ = _
                          simp only [Act.put, List.setIfInBounds_toArray, List.set_cons_zero, List.set_cons_succ, i64_w, i32_w]
                          rfl
                        exact norm_ (by first | (simp only [putAll, Act.put, List.setIfInBounds_toArray, List.set_cons_zero, List.set_cons_succ]; done) | (simp only [putAll, Act.put, List.setIfInBounds_toArray, List.set_cons_zero, List.set_cons_succ]; rfl)) (hJ1_4 (gb116) _ ⟨hHeld, (by (with_reducible repeat (first | refine blk_drewN ?_ _ | refine blk_drew ?_ | refine blk_alloc ?_ _)); exact BK106.out), (by (with_reducible repeat (first | refine blk_drewN ?_ _ | refine blk_drew ?_ | refine blk_alloc ?_ _)); exact BK107.out), (by (with_reducible repeat (first | refine blk_drewN ?_ _ | refine blk_drew ?_ | refine blk_alloc ?_ _)); exact BK116.out), GW116.out, GE116.out, NB106_116.out, NB116_106.out, NB107_116.out, NB116_107.out, (by repeat (first | (with_reducible first | exact HB.out | apply below_alloc | apply pw_below_drewN | apply below_drew1 | refine below_set ?_ GE106.out | refine below_set ?_ GE107.out | refine below_set ?_ GE116.out) | exact HB.out))⟩)
                      · skip
                        refine box_step ?hg (N := 8) ?hd (cs := #[.string (⟨#[]⟩ : ByteArray), .string (⟨#[]⟩ : ByteArray), .string (⟨#[]⟩ : ByteArray), .bool false]) (t := 33) ?hr ?_; (case hd => rfl); (case hg => rfl); (case hr => first | (go_simp; done) | (go_simp; rfl))
                        intro gb117 hg w13 hbox hb
                        have n0_ := Aside0.mk (blk_below (g := gb106) (o := .cells #[.string a0_0, .string a0_1, .string a0_2, .string a0_3, .string a0_4] 23 (0, 0)) (by (with_reducible repeat (first | refine blk_drewN ?_ _ | refine blk_drew ?_ | refine blk_alloc ?_ _)); exact BK106.out) hb)
                        have n1_ := Aside0.mk (blk_below (g := gb107) (o := .cells #[.string a1_0, .string a1_1, .string a1_2, .string a1_3, .string a1_4] 23 (0, 0)) (by (with_reducible repeat (first | refine blk_drewN ?_ _ | refine blk_drew ?_ | refine blk_alloc ?_ _)); exact BK107.out) hb)
                        have n2_ := Aside0.mk (blk_below (g := gb116) (o := .cells #[.string (⟨#[]⟩ : ByteArray), .string (⟨#[]⟩ : ByteArray), .string (⟨#[]⟩ : ByteArray), .bool false] 33 (0, 0)) (by (with_reducible repeat (first | refine blk_drewN ?_ _ | refine blk_drew ?_ | refine blk_alloc ?_ _)); exact BK116.out) hb)
                        have n3_ := Aside0.mk (below_step (by repeat (first | (with_reducible first | exact HB.out | apply below_alloc | apply pw_below_drewN | apply below_drew1 | refine below_set ?_ GE106.out | refine below_set ?_ GE107.out | refine below_set ?_ GE116.out) | exact HB.out)) hb)
                        have n4_ := Aside0.mk (hbox)
                        have n5_ := Aside0.mk ((by rw [hg]; exact (below_size (by repeat (first | (with_reducible first | exact HB.out | apply below_alloc | apply pw_below_drewN | apply below_drew1 | refine below_set ?_ GE106.out | refine below_set ?_ GE107.out | refine below_set ?_ GE116.out) | exact HB.out))) : w.heap.size ≤ gb117))
                        have n6_ := Aside0.mk ((by rw [hg]; exact (below_size (by repeat (first | (with_reducible first | exact HB.out | apply below_alloc | apply pw_below_drewN | apply below_drew1 | refine below_set ?_ GE106.out | refine below_set ?_ GE107.out | refine below_set ?_ GE116.out) | exact HB.out))) : w.heap.size ≤ gb117))
                        have n7_ := Aside0.mk ((by rw [hg]; exact Nat.ne_of_lt (blk_lt (g := gb106) (o := .cells #[.string a0_0, .string a0_1, .string a0_2, .string a0_3, .string a0_4] 23 (0, 0)) (by (with_reducible repeat (first | refine blk_drewN ?_ _ | refine blk_drew ?_ | refine blk_alloc ?_ _)); exact BK106.out)) : gb106 ≠ gb117))
                        have n8_ := Aside0.mk ((by rw [hg]; exact Nat.ne_of_gt (blk_lt (g := gb106) (o := .cells #[.string a0_0, .string a0_1, .string a0_2, .string a0_3, .string a0_4] 23 (0, 0)) (by (with_reducible repeat (first | refine blk_drewN ?_ _ | refine blk_drew ?_ | refine blk_alloc ?_ _)); exact BK106.out)) : gb117 ≠ gb106))
                        have n9_ := Aside0.mk ((by rw [hg]; exact Nat.ne_of_lt (blk_lt (g := gb107) (o := .cells #[.string a1_0, .string a1_1, .string a1_2, .string a1_3, .string a1_4] 23 (0, 0)) (by (with_reducible repeat (first | refine blk_drewN ?_ _ | refine blk_drew ?_ | refine blk_alloc ?_ _)); exact BK107.out)) : gb107 ≠ gb117))
                        have n10_ := Aside0.mk ((by rw [hg]; exact Nat.ne_of_gt (blk_lt (g := gb107) (o := .cells #[.string a1_0, .string a1_1, .string a1_2, .string a1_3, .string a1_4] 23 (0, 0)) (by (with_reducible repeat (first | refine blk_drewN ?_ _ | refine blk_drew ?_ | refine blk_alloc ?_ _)); exact BK107.out)) : gb117 ≠ gb107))
                        have n11_ := Aside0.mk ((by rw [hg]; exact Nat.ne_of_lt (blk_lt (g := gb116) (o := .cells #[.string (⟨#[]⟩ : ByteArray), .string (⟨#[]⟩ : ByteArray), .string (⟨#[]⟩ : ByteArray), .bool false] 33 (0, 0)) (by (with_reducible repeat (first | refine blk_drewN ?_ _ | refine blk_drew ?_ | refine blk_alloc ?_ _)); exact BK116.out)) : gb116 ≠ gb117))
                        have n12_ := Aside0.mk ((by rw [hg]; exact Nat.ne_of_gt (blk_lt (g := gb116) (o := .cells #[.string (⟨#[]⟩ : ByteArray), .string (⟨#[]⟩ : ByteArray), .string (⟨#[]⟩ : ByteArray), .bool false] 33 (0, 0)) (by (with_reducible repeat (first | refine blk_drewN ?_ _ | refine blk_drew ?_ | refine blk_alloc ?_ _)); exact BK116.out)) : gb117 ≠ gb116))
                        clear BK106
                        clear BK107
                        clear BK116
                        clear HB
                        have BK106 := n0_
                        have BK107 := n1_
                        have BK116 := n2_
                        have HB := n3_
                        have BK117 := n4_
                        have GW117 := n5_
                        have GE117 := n6_
                        have NB106_117 := n7_
                        have NB117_106 := n8_
                        have NB107_117 := n9_
                        have NB117_107 := n10_
                        have NB116_117 := n11_
                        have NB117_116 := n12_
                        clear n0_ n1_ n2_ n3_ n4_ n5_ n6_ n7_ n8_ n9_ n10_ n11_ n12_
                        clear hb hbox hg
                        refine hK.out _ _ ⟨(blk_cell BK106.out 0).trans rfl, (blk_cell BK106.out 1).trans rfl, (blk_cell BK106.out 2).trans rfl, (blk_cell BK106.out 3).trans rfl, (blk_cell BK106.out 4).trans rfl, (blk_cell BK107.out 0).trans rfl, (blk_cell BK107.out 1).trans rfl, (blk_cell BK107.out 2).trans rfl, (blk_cell BK107.out 3).trans rfl, (blk_cell BK107.out 4).trans rfl⟩ (fun hHeld => ?_)
                        clear hK K
                        refine norm_ (a' := ?_) ?_ ?_
                        rotate_left
                        · show Act.put _ (some 8) _ = _
                          simp only [Act.put, List.setIfInBounds_toArray, List.set_cons_zero, List.set_cons_succ, i64_w, i32_w]
                          rfl
                        exact norm_ (by first | (simp only [putAll, Act.put, List.setIfInBounds_toArray, List.set_cons_zero, List.set_cons_succ]; done) | (simp only [putAll, Act.put, List.setIfInBounds_toArray, List.set_cons_zero, List.set_cons_succ]; rfl)) (hJ4_5 (gb116, gb117) _ ⟨hHeld, (by (with_reducible repeat (first | refine blk_drewN ?_ _ | refine blk_drew ?_ | refine blk_alloc ?_ _)); exact BK106.out), (by (with_reducible repeat (first | refine blk_drewN ?_ _ | refine blk_drew ?_ | refine blk_alloc ?_ _)); exact BK107.out), (by (with_reducible repeat (first | refine blk_drewN ?_ _ | refine blk_drew ?_ | refine blk_alloc ?_ _)); exact BK116.out), (by (with_reducible repeat (first | refine blk_drewN ?_ _ | refine blk_drew ?_ | refine blk_alloc ?_ _)); exact BK117.out), GW116.out, GE116.out, NB106_116.out, NB116_106.out, NB107_116.out, NB116_107.out, NB117_116.out, NB116_117.out, GW117.out, GE117.out, NB106_117.out, NB117_106.out, NB107_117.out, NB117_107.out, (by repeat (first | (with_reducible first | exact HB.out | apply below_alloc | apply pw_below_drewN | apply below_drew1 | refine below_set ?_ GE106.out | refine below_set ?_ GE107.out | refine below_set ?_ GE116.out | refine below_set ?_ GE117.out) | exact HB.out))⟩)
                  · skip
                    rintro _ w12 ⟨hS_, h0_, h1_, h2_⟩
                    have n0_ : Aside0 (w12.heap[gb106]? = some (.cells #[.string a0_0, .string a0_1, .string a0_2, .string a0_3, .string a0_4] 23 (0, 0))) := ⟨h0_⟩
                    have n1_ : Aside0 (w12.heap[gb107]? = some (.cells #[.string a1_0, .string a1_1, .string a1_2, .string a1_3, .string a1_4] 23 (0, 0))) := ⟨h1_⟩
                    have n2_ : Aside0 (Below w.heap.size w w12) := ⟨h2_⟩
                    clear BK106
                    clear BK107
                    clear HB
                    clear h0_ h1_ h2_
                    have BK106 := n0_
                    have BK107 := n1_
                    have HB := n2_
                    clear n0_ n1_ n2_
                    have hHeld : w12.cell? ⟨gb106, 0, none⟩ = some (.string a0_0) ∧ w12.cell? ⟨gb106, 1, none⟩ = some (.string a0_1) ∧ w12.cell? ⟨gb106, 2, none⟩ = some (.string a0_2) ∧ w12.cell? ⟨gb106, 3, none⟩ = some (.string a0_3) ∧ w12.cell? ⟨gb106, 4, none⟩ = some (.string a0_4) ∧ w12.cell? ⟨gb107, 0, none⟩ = some (.string a1_0) ∧ w12.cell? ⟨gb107, 1, none⟩ = some (.string a1_1) ∧ w12.cell? ⟨gb107, 2, none⟩ = some (.string a1_2) ∧ w12.cell? ⟨gb107, 3, none⟩ = some (.string a1_3) ∧ w12.cell? ⟨gb107, 4, none⟩ = some (.string a1_4) := hS_
                    refine norm_ (a' := ?_) ?_ ?_
                    rotate_left
                    · simp only [putAll, Act.put, List.setIfInBounds_toArray, List.set_cons_zero, List.set_cons_succ]
                      rfl
                    refine three_ (i := 3) (j := 4) (k := 5) (Ni := some 12) (Nj := some 7) (Nk := some 8) #[true, true, true, true, false, false, false, false] #[true, true, true, false, true, false, false, false] #[true, true, true, false, false, true, false, false] rfl rfl rfl rfl rfl rfl (three_of HT_.out (by kernel_rfl)) (by decide) (by decide) (by decide) (fun K hK => ?_) (fun K hK => ?_) (fun K hK => ?_)
                    · skip
                      refine goes_ Tryd.func8 (by kernel_rfl) rfl #[.agg #[.string a1_0, .string a1_1, .string a1_2, .string a1_3, .string a1_4]] (by rfl) rfl rfl (by (try simp only [List.map_toArray, List.map_cons, List.map_nil]); first | done | rfl | (simp only [List.length_drop, List.length_take]; rfl)) ?_
                      with_reducible refine (impl_gvk.calls a1_0 a1_1 a1_2 a1_3 a1_4 t112 t113 t114 false _ A4.out).mono ?_
                      rintro e w13 ⟨rfl, hb⟩
                      refine ⟨_, rfl, ?_⟩
                      have n0_ := Aside0.mk (blk_below (g := gb106) (o := .cells #[.string a0_0, .string a0_1, .string a0_2, .string a0_3, .string a0_4] 23 (0, 0)) (by (with_reducible repeat (first | refine blk_drewN ?_ _ | refine blk_drew ?_ | refine blk_alloc ?_ _)); exact BK106.out) hb)
                      have n1_ := Aside0.mk (blk_below (g := gb107) (o := .cells #[.string a1_0, .string a1_1, .string a1_2, .string a1_3, .string a1_4] 23 (0, 0)) (by (with_reducible repeat (first | refine blk_drewN ?_ _ | refine blk_drew ?_ | refine blk_alloc ?_ _)); exact BK107.out) hb)
                      have n2_ := Aside0.mk (below_step (by repeat (first | (with_reducible first | exact HB.out | apply below_alloc | apply pw_below_drewN | apply below_drew1 | refine below_set ?_ GE106.out | refine below_set ?_ GE107.out) | exact HB.out)) hb)
                      clear BK106
                      clear BK107
                      clear HB
                      have BK106 := n0_
                      have BK107 := n1_
                      have HB := n2_
                      clear n0_ n1_ n2_
                      (try clear hb)
                      (try clear hb2)
                      (try clear hk)
                      (try clear hi)
                      refine hK.out _ _ ⟨(blk_cell BK106.out 0).trans rfl, (blk_cell BK106.out 1).trans rfl, (blk_cell BK106.out 2).trans rfl, (blk_cell BK106.out 3).trans rfl, (blk_cell BK106.out 4).trans rfl, (blk_cell BK107.out 0).trans rfl, (blk_cell BK107.out 1).trans rfl, (blk_cell BK107.out 2).trans rfl, (blk_cell BK107.out 3).trans rfl, (blk_cell BK107.out 4).trans rfl⟩ (fun hHeld => ?_)
                      clear hK K
                      refine norm_ (a' := ?_) ?_ ?_
                      rotate_left
                      · show Act.put _ (some 12) _ = _
                        simp only [Act.put, List.setIfInBounds_toArray, List.set_cons_zero, List.set_cons_succ, i64_w, i32_w]
                        rfl
                      exact norm_ (by first | (simp only [putAll, Act.put, List.setIfInBounds_toArray, List.set_cons_zero, List.set_cons_succ]; done) | (simp only [putAll, Act.put, List.setIfInBounds_toArray, List.set_cons_zero, List.set_cons_succ]; rfl)) (hJ1_3 () _ ⟨hHeld, (by (with_reducible repeat (first | refine blk_drewN ?_ _ | refine blk_drew ?_ | refine blk_alloc ?_ _)); exact BK106.out), (by (with_reducible repeat (first | refine blk_drewN ?_ _ | refine blk_drew ?_ | refine blk_alloc ?_ _)); exact BK107.out), (by repeat (first | (with_reducible first | exact HB.out | apply below_alloc | apply pw_below_drewN | apply below_drew1 | refine below_set ?_ GE106.out | refine below_set ?_ GE107.out) | exact HB.out))⟩)
                    · skip
                      refine box_step ?hg (N := 7) ?hd (cs := #[.string (⟨#[]⟩ : ByteArray), .string (⟨#[]⟩ : ByteArray), .string (⟨#[]⟩ : ByteArray), .bool false]) (t := 33) ?hr ?_; (case hd => rfl); (case hg => rfl); (case hr => first | (go_simp; done) | (go_simp; rfl))
                      intro gb116 hg w13 hbox hb
                      have n0_ := Aside0.mk (blk_below (g := gb106) (o := .cells #[.string a0_0, .string a0_1, .string a0_2, .string a0_3, .string a0_4] 23 (0, 0)) (by (with_reducible repeat (first | refine blk_drewN ?_ _ | refine blk_drew ?_ | refine blk_alloc ?_ _)); exact BK106.out) hb)
                      have n1_ := Aside0.mk (blk_below (g := gb107) (o := .cells #[.string a1_0, .string a1_1, .string a1_2, .string a1_3, .string a1_4] 23 (0, 0)) (by (with_reducible repeat (first | refine blk_drewN ?_ _ | refine blk_drew ?_ | refine blk_alloc ?_ _)); exact BK107.out) hb)
                      have n2_ := Aside0.mk (below_step (by repeat (first | (with_reducible first | exact HB.out | apply below_alloc | apply pw_below_drewN | apply below_drew1 | refine below_set ?_ GE106.out | refine below_set ?_ GE107.out) | exact HB.out)) hb)
                      have n3_ := Aside0.mk (hbox)
                      have n4_ := Aside0.mk ((by rw [hg]; exact (below_size (by repeat (first | (with_reducible first | exact HB.out | apply below_alloc | apply pw_below_drewN | apply below_drew1 | refine below_set ?_ GE106.out | refine below_set ?_ GE107.out) | exact HB.out))) : w.heap.size ≤ gb116))
                      have n5_ := Aside0.mk ((by rw [hg]; exact (below_size (by repeat (first | (with_reducible first | exact HB.out | apply below_alloc | apply pw_below_drewN | apply below_drew1 | refine below_set ?_ GE106.out | refine below_set ?_ GE107.out) | exact HB.out))) : w.heap.size ≤ gb116))
                      have n6_ := Aside0.mk ((by rw [hg]; exact Nat.ne_of_lt (blk_lt (g := gb106) (o := .cells #[.string a0_0, .string a0_1, .string a0_2, .string a0_3, .string a0_4] 23 (0, 0)) (by (with_reducible repeat (first | refine blk_drewN ?_ _ | refine blk_drew ?_ | refine blk_alloc ?_ _)); exact BK106.out)) : gb106 ≠ gb116))
                      have n7_ := Aside0.mk ((by rw [hg]; exact Nat.ne_of_gt (blk_lt (g := gb106) (o := .cells #[.string a0_0, .string a0_1, .string a0_2, .string a0_3, .string a0_4] 23 (0, 0)) (by (with_reducible repeat (first | refine blk_drewN ?_ _ | refine blk_drew ?_ | refine blk_alloc ?_ _)); exact BK106.out)) : gb116 ≠ gb106))
                      have n8_ := Aside0.mk ((by rw [hg]; exact Nat.ne_of_lt (blk_lt (g := gb107) (o := .cells #[.string a1_0, .string a1_1, .string a1_2, .string a1_3, .string a1_4] 23 (0, 0)) (by (with_reducible repeat (first | refine blk_drewN ?_ _ | refine blk_drew ?_ | refine blk_alloc ?_ _)); exact BK107.out)) : gb107 ≠ gb116))
                      have n9_ := Aside0.mk ((by rw [hg]; exact Nat.ne_of_gt (blk_lt (g := gb107) (o := .cells #[.string a1_0, .string a1_1, .string a1_2, .string a1_3, .string a1_4] 23 (0, 0)) (by (with_reducible repeat (first | refine blk_drewN ?_ _ | refine blk_drew ?_ | refine blk_alloc ?_ _)); exact BK107.out)) : gb116 ≠ gb107))
                      clear BK106
                      clear BK107
                      clear HB
                      have BK106 := n0_
                      have BK107 := n1_
                      have HB := n2_
                      have BK116 := n3_
                      have GW116 := n4_
                      have GE116 := n5_
                      have NB106_116 := n6_
                      have NB116_106 := n7_
                      have NB107_116 := n8_
                      have NB116_107 := n9_
                      clear n0_ n1_ n2_ n3_ n4_ n5_ n6_ n7_ n8_ n9_
                      clear hb hbox hg
                      refine hK.out _ _ ⟨(blk_cell BK106.out 0).trans rfl, (blk_cell BK106.out 1).trans rfl, (blk_cell BK106.out 2).trans rfl, (blk_cell BK106.out 3).trans rfl, (blk_cell BK106.out 4).trans rfl, (blk_cell BK107.out 0).trans rfl, (blk_cell BK107.out 1).trans rfl, (blk_cell BK107.out 2).trans rfl, (blk_cell BK107.out 3).trans rfl, (blk_cell BK107.out 4).trans rfl⟩ (fun hHeld => ?_)
                      clear hK K
                      refine norm_ (a' := ?_) ?_ ?_
                      rotate_left
                      · show Act.put _ (some 7) _ = _
                        simp only [Act.put, List.setIfInBounds_toArray, List.set_cons_zero, List.set_cons_succ, i64_w, i32_w]
                        rfl
                      exact norm_ (by first | (simp only [putAll, Act.put, List.setIfInBounds_toArray, List.set_cons_zero, List.set_cons_succ]; done) | (simp only [putAll, Act.put, List.setIfInBounds_toArray, List.set_cons_zero, List.set_cons_succ]; rfl)) (hJ1_4 (gb116) _ ⟨hHeld, (by (with_reducible repeat (first | refine blk_drewN ?_ _ | refine blk_drew ?_ | refine blk_alloc ?_ _)); exact BK106.out), (by (with_reducible repeat (first | refine blk_drewN ?_ _ | refine blk_drew ?_ | refine blk_alloc ?_ _)); exact BK107.out), (by (with_reducible repeat (first | refine blk_drewN ?_ _ | refine blk_drew ?_ | refine blk_alloc ?_ _)); exact BK116.out), GW116.out, GE116.out, NB106_116.out, NB116_106.out, NB107_116.out, NB116_107.out, (by repeat (first | (with_reducible first | exact HB.out | apply below_alloc | apply pw_below_drewN | apply below_drew1 | refine below_set ?_ GE106.out | refine below_set ?_ GE107.out | refine below_set ?_ GE116.out) | exact HB.out))⟩)
                    · skip
                      refine box_step ?hg (N := 8) ?hd (cs := #[.string (⟨#[]⟩ : ByteArray), .string (⟨#[]⟩ : ByteArray), .string (⟨#[]⟩ : ByteArray), .bool false]) (t := 33) ?hr ?_; (case hd => rfl); (case hg => rfl); (case hr => first | (go_simp; done) | (go_simp; rfl))
                      intro gb117 hg w13 hbox hb
                      have n0_ := Aside0.mk (blk_below (g := gb106) (o := .cells #[.string a0_0, .string a0_1, .string a0_2, .string a0_3, .string a0_4] 23 (0, 0)) (by (with_reducible repeat (first | refine blk_drewN ?_ _ | refine blk_drew ?_ | refine blk_alloc ?_ _)); exact BK106.out) hb)
                      have n1_ := Aside0.mk (blk_below (g := gb107) (o := .cells #[.string a1_0, .string a1_1, .string a1_2, .string a1_3, .string a1_4] 23 (0, 0)) (by (with_reducible repeat (first | refine blk_drewN ?_ _ | refine blk_drew ?_ | refine blk_alloc ?_ _)); exact BK107.out) hb)
                      have n2_ := Aside0.mk (below_step (by repeat (first | (with_reducible first | exact HB.out | apply below_alloc | apply pw_below_drewN | apply below_drew1 | refine below_set ?_ GE106.out | refine below_set ?_ GE107.out) | exact HB.out)) hb)
                      have n3_ := Aside0.mk (hbox)
                      have n4_ := Aside0.mk ((by rw [hg]; exact (below_size (by repeat (first | (with_reducible first | exact HB.out | apply below_alloc | apply pw_below_drewN | apply below_drew1 | refine below_set ?_ GE106.out | refine below_set ?_ GE107.out) | exact HB.out))) : w.heap.size ≤ gb117))
                      have n5_ := Aside0.mk ((by rw [hg]; exact (below_size (by repeat (first | (with_reducible first | exact HB.out | apply below_alloc | apply pw_below_drewN | apply below_drew1 | refine below_set ?_ GE106.out | refine below_set ?_ GE107.out) | exact HB.out))) : w.heap.size ≤ gb117))
                      have n6_ := Aside0.mk ((by rw [hg]; exact Nat.ne_of_lt (blk_lt (g := gb106) (o := .cells #[.string a0_0, .string a0_1, .string a0_2, .string a0_3, .string a0_4] 23 (0, 0)) (by (with_reducible repeat (first | refine blk_drewN ?_ _ | refine blk_drew ?_ | refine blk_alloc ?_ _)); exact BK106.out)) : gb106 ≠ gb117))
                      have n7_ := Aside0.mk ((by rw [hg]; exact Nat.ne_of_gt (blk_lt (g := gb106) (o := .cells #[.string a0_0, .string a0_1, .string a0_2, .string a0_3, .string a0_4] 23 (0, 0)) (by (with_reducible repeat (first | refine blk_drewN ?_ _ | refine blk_drew ?_ | refine blk_alloc ?_ _)); exact BK106.out)) : gb117 ≠ gb106))
                      have n8_ := Aside0.mk ((by rw [hg]; exact Nat.ne_of_lt (blk_lt (g := gb107) (o := .cells #[.string a1_0, .string a1_1, .string a1_2, .string a1_3, .string a1_4] 23 (0, 0)) (by (with_reducible repeat (first | refine blk_drewN ?_ _ | refine blk_drew ?_ | refine blk_alloc ?_ _)); exact BK107.out)) : gb107 ≠ gb117))
                      have n9_ := Aside0.mk ((by rw [hg]; exact Nat.ne_of_gt (blk_lt (g := gb107) (o := .cells #[.string a1_0, .string a1_1, .string a1_2, .string a1_3, .string a1_4] 23 (0, 0)) (by (with_reducible repeat (first | refine blk_drewN ?_ _ | refine blk_drew ?_ | refine blk_alloc ?_ _)); exact BK107.out)) : gb117 ≠ gb107))
                      clear BK106
                      clear BK107
                      clear HB
                      have BK106 := n0_
                      have BK107 := n1_
                      have HB := n2_
                      have BK117 := n3_
                      have GW117 := n4_
                      have GE117 := n5_
                      have NB106_117 := n6_
                      have NB117_106 := n7_
                      have NB107_117 := n8_
                      have NB117_107 := n9_
                      clear n0_ n1_ n2_ n3_ n4_ n5_ n6_ n7_ n8_ n9_
                      clear hb hbox hg
                      refine hK.out _ _ ⟨(blk_cell BK106.out 0).trans rfl, (blk_cell BK106.out 1).trans rfl, (blk_cell BK106.out 2).trans rfl, (blk_cell BK106.out 3).trans rfl, (blk_cell BK106.out 4).trans rfl, (blk_cell BK107.out 0).trans rfl, (blk_cell BK107.out 1).trans rfl, (blk_cell BK107.out 2).trans rfl, (blk_cell BK107.out 3).trans rfl, (blk_cell BK107.out 4).trans rfl⟩ (fun hHeld => ?_)
                      clear hK K
                      refine norm_ (a' := ?_) ?_ ?_
                      rotate_left
                      · show Act.put _ (some 8) _ = _
                        simp only [Act.put, List.setIfInBounds_toArray, List.set_cons_zero, List.set_cons_succ, i64_w, i32_w]
                        rfl
                      exact norm_ (by first | (simp only [putAll, Act.put, List.setIfInBounds_toArray, List.set_cons_zero, List.set_cons_succ]; done) | (simp only [putAll, Act.put, List.setIfInBounds_toArray, List.set_cons_zero, List.set_cons_succ]; rfl)) (hJ1_5 (gb117) _ ⟨hHeld, (by (with_reducible repeat (first | refine blk_drewN ?_ _ | refine blk_drew ?_ | refine blk_alloc ?_ _)); exact BK106.out), (by (with_reducible repeat (first | refine blk_drewN ?_ _ | refine blk_drew ?_ | refine blk_alloc ?_ _)); exact BK107.out), (by (with_reducible repeat (first | refine blk_drewN ?_ _ | refine blk_drew ?_ | refine blk_alloc ?_ _)); exact BK117.out), GW117.out, GE117.out, NB106_117.out, NB117_106.out, NB107_117.out, NB117_107.out, (by repeat (first | (with_reducible first | exact HB.out | apply below_alloc | apply pw_below_drewN | apply below_drew1 | refine below_set ?_ GE106.out | refine below_set ?_ GE107.out | refine below_set ?_ GE117.out) | exact HB.out))⟩)
                · skip
                  rintro ⟨gb116, gb117⟩ w13 ⟨hS_, h0_, h1_, h2_, h3_, h4_, h5_, h6_, h7_, h8_, h9_, h10_, h11_, h12_, h13_, h14_, h15_, h16_, h17_, h18_⟩
                  have n0_ : Aside0 (w13.heap[gb106]? = some (.cells #[.string a0_0, .string a0_1, .string a0_2, .string a0_3, .string a0_4] 23 (0, 0))) := ⟨h0_⟩
                  have n1_ : Aside0 (w13.heap[gb107]? = some (.cells #[.string a1_0, .string a1_1, .string a1_2, .string a1_3, .string a1_4] 23 (0, 0))) := ⟨h1_⟩
                  have n2_ : Aside0 (w13.heap[gb116]? = some (.cells #[.string (⟨#[]⟩ : ByteArray), .string (⟨#[]⟩ : ByteArray), .string (⟨#[]⟩ : ByteArray), .bool false] 33 (0, 0))) := ⟨h2_⟩
                  have n3_ : Aside0 (w13.heap[gb117]? = some (.cells #[.string (⟨#[]⟩ : ByteArray), .string (⟨#[]⟩ : ByteArray), .string (⟨#[]⟩ : ByteArray), .bool false] 33 (0, 0))) := ⟨h3_⟩
                  have n4_ : Aside0 (w.heap.size ≤ gb116) := ⟨h4_⟩
                  have n5_ : Aside0 (w.heap.size ≤ gb116) := ⟨h5_⟩
                  have n6_ : Aside0 (gb106 ≠ gb116) := ⟨h6_⟩
                  have n7_ : Aside0 (gb116 ≠ gb106) := ⟨h7_⟩
                  have n8_ : Aside0 (gb107 ≠ gb116) := ⟨h8_⟩
                  have n9_ : Aside0 (gb116 ≠ gb107) := ⟨h9_⟩
                  have n10_ : Aside0 (gb117 ≠ gb116) := ⟨h10_⟩
                  have n11_ : Aside0 (gb116 ≠ gb117) := ⟨h11_⟩
                  have n12_ : Aside0 (w.heap.size ≤ gb117) := ⟨h12_⟩
                  have n13_ : Aside0 (w.heap.size ≤ gb117) := ⟨h13_⟩
                  have n14_ : Aside0 (gb106 ≠ gb117) := ⟨h14_⟩
                  have n15_ : Aside0 (gb117 ≠ gb106) := ⟨h15_⟩
                  have n16_ : Aside0 (gb107 ≠ gb117) := ⟨h16_⟩
                  have n17_ : Aside0 (gb117 ≠ gb107) := ⟨h17_⟩
                  have n18_ : Aside0 (Below w.heap.size w w13) := ⟨h18_⟩
                  clear BK106
                  clear BK107
                  clear HB
                  clear h0_ h1_ h2_ h3_ h4_ h5_ h6_ h7_ h8_ h9_ h10_ h11_ h12_ h13_ h14_ h15_ h16_ h17_ h18_
                  have BK106 := n0_
                  have BK107 := n1_
                  have BK116 := n2_
                  have BK117 := n3_
                  have GW116 := n4_
                  have GE116 := n5_
                  have NB106_116 := n6_
                  have NB116_106 := n7_
                  have NB107_116 := n8_
                  have NB116_107 := n9_
                  have NB117_116 := n10_
                  have NB116_117 := n11_
                  have GW117 := n12_
                  have GE117 := n13_
                  have NB106_117 := n14_
                  have NB117_106 := n15_
                  have NB107_117 := n16_
                  have NB117_107 := n17_
                  have HB := n18_
                  clear n0_ n1_ n2_ n3_ n4_ n5_ n6_ n7_ n8_ n9_ n10_ n11_ n12_ n13_ n14_ n15_ n16_ n17_ n18_
                  have hHeld : w13.cell? ⟨gb106, 0, none⟩ = some (.string a0_0) ∧ w13.cell? ⟨gb106, 1, none⟩ = some (.string a0_1) ∧ w13.cell? ⟨gb106, 2, none⟩ = some (.string a0_2) ∧ w13.cell? ⟨gb106, 3, none⟩ = some (.string a0_3) ∧ w13.cell? ⟨gb106, 4, none⟩ = some (.string a0_4) ∧ w13.cell? ⟨gb107, 0, none⟩ = some (.string a1_0) ∧ w13.cell? ⟨gb107, 1, none⟩ = some (.string a1_1) ∧ w13.cell? ⟨gb107, 2, none⟩ = some (.string a1_2) ∧ w13.cell? ⟨gb107, 3, none⟩ = some (.string a1_3) ∧ w13.cell? ⟨gb107, 4, none⟩ = some (.string a1_4) := hS_
                  refine norm_ (a' := ?_) ?_ ?_
                  rotate_left
                  · simp only [putAll, Act.put, List.setIfInBounds_toArray, List.set_cons_zero, List.set_cons_succ]
                    rfl
                  refine one_ (i := 1) (N := some 10) #[true, true, true, false, true, true, false, false] rfl rfl (one_of HT_.out (by kernel_rfl)) (by decide) (fun K hK => ?_)
                  refine goes_ Tryd.func8 (by kernel_rfl) rfl #[.agg #[.string a0_0, .string a0_1, .string a0_2, .string a0_3, .string a0_4]] (by rfl) rfl rfl (by (try simp only [List.map_toArray, List.map_cons, List.map_nil]); first | done | rfl | (simp only [List.length_drop, List.length_take]; rfl)) ?_
                  with_reducible refine (impl_gvk.calls a0_0 a0_1 a0_2 a0_3 a0_4 t108 t109 t110 false _ A3.out).mono ?_
                  rintro e w14 ⟨rfl, hb⟩
                  refine ⟨_, rfl, ?_⟩
                  have n0_ := Aside0.mk (blk_below (g := gb106) (o := .cells #[.string a0_0, .string a0_1, .string a0_2, .string a0_3, .string a0_4] 23 (0, 0)) (by (with_reducible repeat (first | refine blk_drewN ?_ _ | refine blk_drew ?_ | refine blk_alloc ?_ _)); exact BK106.out) hb)
                  have n1_ := Aside0.mk (blk_below (g := gb107) (o := .cells #[.string a1_0, .string a1_1, .string a1_2, .string a1_3, .string a1_4] 23 (0, 0)) (by (with_reducible repeat (first | refine blk_drewN ?_ _ | refine blk_drew ?_ | refine blk_alloc ?_ _)); exact BK107.out) hb)
                  have n2_ := Aside0.mk (blk_below (g := gb116) (o := .cells #[.string (⟨#[]⟩ : ByteArray), .string (⟨#[]⟩ : ByteArray), .string (⟨#[]⟩ : ByteArray), .bool false] 33 (0, 0)) (by (with_reducible repeat (first | refine blk_drewN ?_ _ | refine blk_drew ?_ | refine blk_alloc ?_ _)); exact BK116.out) hb)
                  have n3_ := Aside0.mk (blk_below (g := gb117) (o := .cells #[.string (⟨#[]⟩ : ByteArray), .string (⟨#[]⟩ : ByteArray), .string (⟨#[]⟩ : ByteArray), .bool false] 33 (0, 0)) (by (with_reducible repeat (first | refine blk_drewN ?_ _ | refine blk_drew ?_ | refine blk_alloc ?_ _)); exact BK117.out) hb)
                  have n4_ := Aside0.mk (below_step (by repeat (first | (with_reducible first | exact HB.out | apply below_alloc | apply pw_below_drewN | apply below_drew1 | refine below_set ?_ GE106.out | refine below_set ?_ GE107.out | refine below_set ?_ GE116.out | refine below_set ?_ GE117.out) | exact HB.out)) hb)
                  clear BK106
                  clear BK107
                  clear BK116
                  clear BK117
                  clear HB
                  have BK106 := n0_
                  have BK107 := n1_
                  have BK116 := n2_
                  have BK117 := n3_
                  have HB := n4_
                  clear n0_ n1_ n2_ n3_ n4_
                  (try clear hb)
                  (try clear hb2)
                  (try clear hk)
                  (try clear hi)
                  refine hK.out _ _ ⟨(blk_cell BK106.out 0).trans rfl, (blk_cell BK106.out 1).trans rfl, (blk_cell BK106.out 2).trans rfl, (blk_cell BK106.out 3).trans rfl, (blk_cell BK106.out 4).trans rfl, (blk_cell BK107.out 0).trans rfl, (blk_cell BK107.out 1).trans rfl, (blk_cell BK107.out 2).trans rfl, (blk_cell BK107.out 3).trans rfl, (blk_cell BK107.out 4).trans rfl⟩ (fun hHeld => ?_)
                  clear hK K
                  refine norm_ (a' := ?_) ?_ ?_
                  rotate_left
                  · show Act.put _ (some 10) _ = _
                    simp only [Act.put, List.setIfInBounds_toArray, List.set_cons_zero, List.set_cons_succ, i64_w, i32_w]
                    rfl
                  exact norm_ (by first | (simp only [putAll, Act.put, List.setIfInBounds_toArray, List.set_cons_zero, List.set_cons_succ]; done) | (simp only [putAll, Act.put, List.setIfInBounds_toArray, List.set_cons_zero, List.set_cons_succ]; rfl)) (hJ1_4_5 (gb116, gb117) _ ⟨hHeld, (by (with_reducible repeat (first | refine blk_drewN ?_ _ | refine blk_drew ?_ | refine blk_alloc ?_ _)); exact BK106.out), (by (with_reducible repeat (first | refine blk_drewN ?_ _ | refine blk_drew ?_ | refine blk_alloc ?_ _)); exact BK107.out), (by (with_reducible repeat (first | refine blk_drewN ?_ _ | refine blk_drew ?_ | refine blk_alloc ?_ _)); exact BK116.out), (by (with_reducible repeat (first | refine blk_drewN ?_ _ | refine blk_drew ?_ | refine blk_alloc ?_ _)); exact BK117.out), GW116.out, GE116.out, NB106_116.out, NB116_106.out, NB107_116.out, NB116_107.out, NB117_116.out, NB116_117.out, GW117.out, GE117.out, NB106_117.out, NB117_106.out, NB107_117.out, NB117_107.out, (by repeat (first | (with_reducible first | exact HB.out | apply below_alloc | apply pw_below_drewN | apply below_drew1 | refine below_set ?_ GE106.out | refine below_set ?_ GE107.out | refine below_set ?_ GE116.out | refine below_set ?_ GE117.out) | exact HB.out))⟩)
              · skip
                rintro gb117 w13 ⟨hS_, h0_, h1_, h2_, h3_, h4_, h5_, h6_, h7_, h8_, h9_⟩
                have n0_ : Aside0 (w13.heap[gb106]? = some (.cells #[.string a0_0, .string a0_1, .string a0_2, .string a0_3, .string a0_4] 23 (0, 0))) := ⟨h0_⟩
                have n1_ : Aside0 (w13.heap[gb107]? = some (.cells #[.string a1_0, .string a1_1, .string a1_2, .string a1_3, .string a1_4] 23 (0, 0))) := ⟨h1_⟩
                have n2_ : Aside0 (w13.heap[gb117]? = some (.cells #[.string (⟨#[]⟩ : ByteArray), .string (⟨#[]⟩ : ByteArray), .string (⟨#[]⟩ : ByteArray), .bool false] 33 (0, 0))) := ⟨h2_⟩
                have n3_ : Aside0 (w.heap.size ≤ gb117) := ⟨h3_⟩
                have n4_ : Aside0 (w.heap.size ≤ gb117) := ⟨h4_⟩
                have n5_ : Aside0 (gb106 ≠ gb117) := ⟨h5_⟩
                have n6_ : Aside0 (gb117 ≠ gb106) := ⟨h6_⟩
                have n7_ : Aside0 (gb107 ≠ gb117) := ⟨h7_⟩
                have n8_ : Aside0 (gb117 ≠ gb107) := ⟨h8_⟩
                have n9_ : Aside0 (Below w.heap.size w w13) := ⟨h9_⟩
                clear BK106
                clear BK107
                clear HB
                clear h0_ h1_ h2_ h3_ h4_ h5_ h6_ h7_ h8_ h9_
                have BK106 := n0_
                have BK107 := n1_
                have BK117 := n2_
                have GW117 := n3_
                have GE117 := n4_
                have NB106_117 := n5_
                have NB117_106 := n6_
                have NB107_117 := n7_
                have NB117_107 := n8_
                have HB := n9_
                clear n0_ n1_ n2_ n3_ n4_ n5_ n6_ n7_ n8_ n9_
                have hHeld : w13.cell? ⟨gb106, 0, none⟩ = some (.string a0_0) ∧ w13.cell? ⟨gb106, 1, none⟩ = some (.string a0_1) ∧ w13.cell? ⟨gb106, 2, none⟩ = some (.string a0_2) ∧ w13.cell? ⟨gb106, 3, none⟩ = some (.string a0_3) ∧ w13.cell? ⟨gb106, 4, none⟩ = some (.string a0_4) ∧ w13.cell? ⟨gb107, 0, none⟩ = some (.string a1_0) ∧ w13.cell? ⟨gb107, 1, none⟩ = some (.string a1_1) ∧ w13.cell? ⟨gb107, 2, none⟩ = some (.string a1_2) ∧ w13.cell? ⟨gb107, 3, none⟩ = some (.string a1_3) ∧ w13.cell? ⟨gb107, 4, none⟩ = some (.string a1_4) := hS_
                refine norm_ (a' := ?_) ?_ ?_
                rotate_left
                · simp only [putAll, Act.put, List.setIfInBounds_toArray, List.set_cons_zero, List.set_cons_succ]
                  rfl
                refine two_ (i := 3) (j := 4) (Ni := some 12) (Nj := some 7) #[true, true, true, true, false, true, false, false] #[true, true, true, false, true, true, false, false] rfl rfl rfl rfl (two_of HT_.out (by kernel_rfl)) (by decide) (by decide) (fun K hK => ?_) (fun K hK => ?_)
                · skip
                  refine goes_ Tryd.func8 (by kernel_rfl) rfl #[.agg #[.string a1_0, .string a1_1, .string a1_2, .string a1_3, .string a1_4]] (by rfl) rfl rfl (by (try simp only [List.map_toArray, List.map_cons, List.map_nil]); first | done | rfl | (simp only [List.length_drop, List.length_take]; rfl)) ?_
                  with_reducible refine (impl_gvk.calls a1_0 a1_1 a1_2 a1_3 a1_4 t112 t113 t114 false _ A4.out).mono ?_
                  rintro e w14 ⟨rfl, hb⟩
                  refine ⟨_, rfl, ?_⟩
                  have n0_ := Aside0.mk (blk_below (g := gb106) (o := .cells #[.string a0_0, .string a0_1, .string a0_2, .string a0_3, .string a0_4] 23 (0, 0)) (by (with_reducible repeat (first | refine blk_drewN ?_ _ | refine blk_drew ?_ | refine blk_alloc ?_ _)); exact BK106.out) hb)
                  have n1_ := Aside0.mk (blk_below (g := gb107) (o := .cells #[.string a1_0, .string a1_1, .string a1_2, .string a1_3, .string a1_4] 23 (0, 0)) (by (with_reducible repeat (first | refine blk_drewN ?_ _ | refine blk_drew ?_ | refine blk_alloc ?_ _)); exact BK107.out) hb)
                  have n2_ := Aside0.mk (blk_below (g := gb117) (o := .cells #[.string (⟨#[]⟩ : ByteArray), .string (⟨#[]⟩ : ByteArray), .string (⟨#[]⟩ : ByteArray), .bool false] 33 (0, 0)) (by (with_reducible repeat (first | refine blk_drewN ?_ _ | refine blk_drew ?_ | refine blk_alloc ?_ _)); exact BK117.out) hb)
                  have n3_ := Aside0.mk (below_step (by repeat (first | (with_reducible first | exact HB.out | apply below_alloc | apply pw_below_drewN | apply below_drew1 | refine below_set ?_ GE106.out | refine below_set ?_ GE107.out | refine below_set ?_ GE117.out) | exact HB.out)) hb)
                  clear BK106
                  clear BK107
                  clear BK117
                  clear HB
                  have BK106 := n0_
                  have BK107 := n1_
                  have BK117 := n2_
                  have HB := n3_
                  clear n0_ n1_ n2_ n3_
                  (try clear hb)
                  (try clear hb2)
                  (try clear hk)
                  (try clear hi)
                  refine hK.out _ _ ⟨(blk_cell BK106.out 0).trans rfl, (blk_cell BK106.out 1).trans rfl, (blk_cell BK106.out 2).trans rfl, (blk_cell BK106.out 3).trans rfl, (blk_cell BK106.out 4).trans rfl, (blk_cell BK107.out 0).trans rfl, (blk_cell BK107.out 1).trans rfl, (blk_cell BK107.out 2).trans rfl, (blk_cell BK107.out 3).trans rfl, (blk_cell BK107.out 4).trans rfl⟩ (fun hHeld => ?_)
                  clear hK K
                  refine norm_ (a' := ?_) ?_ ?_
                  rotate_left
                  · show Act.put _ (some 12) _ = _
                    simp only [Act.put, List.setIfInBounds_toArray, List.set_cons_zero, List.set_cons_succ, i64_w, i32_w]
                    rfl
                  exact norm_ (by first | (simp only [putAll, Act.put, List.setIfInBounds_toArray, List.set_cons_zero, List.set_cons_succ]; done) | (simp only [putAll, Act.put, List.setIfInBounds_toArray, List.set_cons_zero, List.set_cons_succ]; rfl)) (hJ1_3_5 (gb117) _ ⟨hHeld, (by (with_reducible repeat (first | refine blk_drewN ?_ _ | refine blk_drew ?_ | refine blk_alloc ?_ _)); exact BK106.out), (by (with_reducible repeat (first | refine blk_drewN ?_ _ | refine blk_drew ?_ | refine blk_alloc ?_ _)); exact BK107.out), (by (with_reducible repeat (first | refine blk_drewN ?_ _ | refine blk_drew ?_ | refine blk_alloc ?_ _)); exact BK117.out), GW117.out, GE117.out, NB106_117.out, NB117_106.out, NB107_117.out, NB117_107.out, (by repeat (first | (with_reducible first | exact HB.out | apply below_alloc | apply pw_below_drewN | apply below_drew1 | refine below_set ?_ GE106.out | refine below_set ?_ GE107.out | refine below_set ?_ GE117.out) | exact HB.out))⟩)
                · skip
                  refine box_step ?hg (N := 7) ?hd (cs := #[.string (⟨#[]⟩ : ByteArray), .string (⟨#[]⟩ : ByteArray), .string (⟨#[]⟩ : ByteArray), .bool false]) (t := 33) ?hr ?_; (case hd => rfl); (case hg => rfl); (case hr => first | (go_simp; done) | (go_simp; rfl))
                  intro gb116 hg w14 hbox hb
                  have n0_ := Aside0.mk (blk_below (g := gb106) (o := .cells #[.string a0_0, .string a0_1, .string a0_2, .string a0_3, .string a0_4] 23 (0, 0)) (by (with_reducible repeat (first | refine blk_drewN ?_ _ | refine blk_drew ?_ | refine blk_alloc ?_ _)); exact BK106.out) hb)
                  have n1_ := Aside0.mk (blk_below (g := gb107) (o := .cells #[.string a1_0, .string a1_1, .string a1_2, .string a1_3, .string a1_4] 23 (0, 0)) (by (with_reducible repeat (first | refine blk_drewN ?_ _ | refine blk_drew ?_ | refine blk_alloc ?_ _)); exact BK107.out) hb)
                  have n2_ := Aside0.mk (blk_below (g := gb117) (o := .cells #[.string (⟨#[]⟩ : ByteArray), .string (⟨#[]⟩ : ByteArray), .string (⟨#[]⟩ : ByteArray), .bool false] 33 (0, 0)) (by (with_reducible repeat (first | refine blk_drewN ?_ _ | refine blk_drew ?_ | refine blk_alloc ?_ _)); exact BK117.out) hb)
                  have n3_ := Aside0.mk (below_step (by repeat (first | (with_reducible first | exact HB.out | apply below_alloc | apply pw_below_drewN | apply below_drew1 | refine below_set ?_ GE106.out | refine below_set ?_ GE107.out | refine below_set ?_ GE117.out) | exact HB.out)) hb)
                  have n4_ := Aside0.mk (hbox)
                  have n5_ := Aside0.mk ((by rw [hg]; exact (below_size (by repeat (first | (with_reducible first | exact HB.out | apply below_alloc | apply pw_below_drewN | apply below_drew1 | refine below_set ?_ GE106.out | refine below_set ?_ GE107.out | refine below_set ?_ GE117.out) | exact HB.out))) : w.heap.size ≤ gb116))
                  have n6_ := Aside0.mk ((by rw [hg]; exact (below_size (by repeat (first | (with_reducible first | exact HB.out | apply below_alloc | apply pw_below_drewN | apply below_drew1 | refine below_set ?_ GE106.out | refine below_set ?_ GE107.out | refine below_set ?_ GE117.out) | exact HB.out))) : w.heap.size ≤ gb116))
                  have n7_ := Aside0.mk ((by rw [hg]; exact Nat.ne_of_lt (blk_lt (g := gb106) (o := .cells #[.string a0_0, .string a0_1, .string a0_2, .string a0_3, .string a0_4] 23 (0, 0)) (by (with_reducible repeat (first | refine blk_drewN ?_ _ | refine blk_drew ?_ | refine blk_alloc ?_ _)); exact BK106.out)) : gb106 ≠ gb116))
                  have n8_ := Aside0.mk ((by rw [hg]; exact Nat.ne_of_gt (blk_lt (g := gb106) (o := .cells #[.string a0_0, .string a0_1, .string a0_2, .string a0_3, .string a0_4] 23 (0, 0)) (by (with_reducible repeat (first | refine blk_drewN ?_ _ | refine blk_drew ?_ | refine blk_alloc ?_ _)); exact BK106.out)) : gb116 ≠ gb106))
                  have n9_ := Aside0.mk ((by rw [hg]; exact Nat.ne_of_lt (blk_lt (g := gb107) (o := .cells #[.string a1_0, .string a1_1, .string a1_2, .string a1_3, .string a1_4] 23 (0, 0)) (by (with_reducible repeat (first | refine blk_drewN ?_ _ | refine blk_drew ?_ | refine blk_alloc ?_ _)); exact BK107.out)) : gb107 ≠ gb116))
                  have n10_ := Aside0.mk ((by rw [hg]; exact Nat.ne_of_gt (blk_lt (g := gb107) (o := .cells #[.string a1_0, .string a1_1, .string a1_2, .string a1_3, .string a1_4] 23 (0, 0)) (by (with_reducible repeat (first | refine blk_drewN ?_ _ | refine blk_drew ?_ | refine blk_alloc ?_ _)); exact BK107.out)) : gb116 ≠ gb107))
                  have n11_ := Aside0.mk ((by rw [hg]; exact Nat.ne_of_lt (blk_lt (g := gb117) (o := .cells #[.string (⟨#[]⟩ : ByteArray), .string (⟨#[]⟩ : ByteArray), .string (⟨#[]⟩ : ByteArray), .bool false] 33 (0, 0)) (by (with_reducible repeat (first | refine blk_drewN ?_ _ | refine blk_drew ?_ | refine blk_alloc ?_ _)); exact BK117.out)) : gb117 ≠ gb116))
                  have n12_ := Aside0.mk ((by rw [hg]; exact Nat.ne_of_gt (blk_lt (g := gb117) (o := .cells #[.string (⟨#[]⟩ : ByteArray), .string (⟨#[]⟩ : ByteArray), .string (⟨#[]⟩ : ByteArray), .bool false] 33 (0, 0)) (by (with_reducible repeat (first | refine blk_drewN ?_ _ | refine blk_drew ?_ | refine blk_alloc ?_ _)); exact BK117.out)) : gb116 ≠ gb117))
                  clear BK106
                  clear BK107
                  clear BK117
                  clear HB
                  have BK106 := n0_
                  have BK107 := n1_
                  have BK117 := n2_
                  have HB := n3_
                  have BK116 := n4_
                  have GW116 := n5_
                  have GE116 := n6_
                  have NB106_116 := n7_
                  have NB116_106 := n8_
                  have NB107_116 := n9_
                  have NB116_107 := n10_
                  have NB117_116 := n11_
                  have NB116_117 := n12_
                  clear n0_ n1_ n2_ n3_ n4_ n5_ n6_ n7_ n8_ n9_ n10_ n11_ n12_
                  clear hb hbox hg
                  refine hK.out _ _ ⟨(blk_cell BK106.out 0).trans rfl, (blk_cell BK106.out 1).trans rfl, (blk_cell BK106.out 2).trans rfl, (blk_cell BK106.out 3).trans rfl, (blk_cell BK106.out 4).trans rfl, (blk_cell BK107.out 0).trans rfl, (blk_cell BK107.out 1).trans rfl, (blk_cell BK107.out 2).trans rfl, (blk_cell BK107.out 3).trans rfl, (blk_cell BK107.out 4).trans rfl⟩ (fun hHeld => ?_)
                  clear hK K
                  refine norm_ (a' := ?_) ?_ ?_
                  rotate_left
                  · show Act.put _ (some 7) _ = _
                    simp only [Act.put, List.setIfInBounds_toArray, List.set_cons_zero, List.set_cons_succ, i64_w, i32_w]
                    rfl
                  exact norm_ (by first | (simp only [putAll, Act.put, List.setIfInBounds_toArray, List.set_cons_zero, List.set_cons_succ]; done) | (simp only [putAll, Act.put, List.setIfInBounds_toArray, List.set_cons_zero, List.set_cons_succ]; rfl)) (hJ1_4_5 (gb116, gb117) _ ⟨hHeld, (by (with_reducible repeat (first | refine blk_drewN ?_ _ | refine blk_drew ?_ | refine blk_alloc ?_ _)); exact BK106.out), (by (with_reducible repeat (first | refine blk_drewN ?_ _ | refine blk_drew ?_ | refine blk_alloc ?_ _)); exact BK107.out), (by (with_reducible repeat (first | refine blk_drewN ?_ _ | refine blk_drew ?_ | refine blk_alloc ?_ _)); exact BK116.out), (by (with_reducible repeat (first | refine blk_drewN ?_ _ | refine blk_drew ?_ | refine blk_alloc ?_ _)); exact BK117.out), GW116.out, GE116.out, NB106_116.out, NB116_106.out, NB107_116.out, NB116_107.out, NB117_116.out, NB116_117.out, GW117.out, GE117.out, NB106_117.out, NB117_106.out, NB107_117.out, NB117_107.out, (by repeat (first | (with_reducible first | exact HB.out | apply below_alloc | apply pw_below_drewN | apply below_drew1 | refine below_set ?_ GE106.out | refine below_set ?_ GE107.out | refine below_set ?_ GE117.out | refine below_set ?_ GE116.out) | exact HB.out))⟩)
            · skip
              rintro gb116 w13 ⟨hS_, h0_, h1_, h2_, h3_, h4_, h5_, h6_, h7_, h8_, h9_⟩
              have n0_ : Aside0 (w13.heap[gb106]? = some (.cells #[.string a0_0, .string a0_1, .string a0_2, .string a0_3, .string a0_4] 23 (0, 0))) := ⟨h0_⟩
              have n1_ : Aside0 (w13.heap[gb107]? = some (.cells #[.string a1_0, .string a1_1, .string a1_2, .string a1_3, .string a1_4] 23 (0, 0))) := ⟨h1_⟩
              have n2_ : Aside0 (w13.heap[gb116]? = some (.cells #[.string (⟨#[]⟩ : ByteArray), .string (⟨#[]⟩ : ByteArray), .string (⟨#[]⟩ : ByteArray), .bool false] 33 (0, 0))) := ⟨h2_⟩
              have n3_ : Aside0 (w.heap.size ≤ gb116) := ⟨h3_⟩
              have n4_ : Aside0 (w.heap.size ≤ gb116) := ⟨h4_⟩
              have n5_ : Aside0 (gb106 ≠ gb116) := ⟨h5_⟩
              have n6_ : Aside0 (gb116 ≠ gb106) := ⟨h6_⟩
              have n7_ : Aside0 (gb107 ≠ gb116) := ⟨h7_⟩
              have n8_ : Aside0 (gb116 ≠ gb107) := ⟨h8_⟩
              have n9_ : Aside0 (Below w.heap.size w w13) := ⟨h9_⟩
              clear BK106
              clear BK107
              clear HB
              clear h0_ h1_ h2_ h3_ h4_ h5_ h6_ h7_ h8_ h9_
              have BK106 := n0_
              have BK107 := n1_
              have BK116 := n2_
              have GW116 := n3_
              have GE116 := n4_
              have NB106_116 := n5_
              have NB116_106 := n6_
              have NB107_116 := n7_
              have NB116_107 := n8_
              have HB := n9_
              clear n0_ n1_ n2_ n3_ n4_ n5_ n6_ n7_ n8_ n9_
              have hHeld : w13.cell? ⟨gb106, 0, none⟩ = some (.string a0_0) ∧ w13.cell? ⟨gb106, 1, none⟩ = some (.string a0_1) ∧ w13.cell? ⟨gb106, 2, none⟩ = some (.string a0_2) ∧ w13.cell? ⟨gb106, 3, none⟩ = some (.string a0_3) ∧ w13.cell? ⟨gb106, 4, none⟩ = some (.string a0_4) ∧ w13.cell? ⟨gb107, 0, none⟩ = some (.string a1_0) ∧ w13.cell? ⟨gb107, 1, none⟩ = some (.string a1_1) ∧ w13.cell? ⟨gb107, 2, none⟩ = some (.string a1_2) ∧ w13.cell? ⟨gb107, 3, none⟩ = some (.string a1_3) ∧ w13.cell? ⟨gb107, 4, none⟩ = some (.string a1_4) := hS_
              refine norm_ (a' := ?_) ?_ ?_
              rotate_left
              · simp only [putAll, Act.put, List.setIfInBounds_toArray, List.set_cons_zero, List.set_cons_succ]
                rfl
              refine two_ (i := 3) (j := 5) (Ni := some 12) (Nj := some 8) #[true, true, true, true, true, false, false, false] #[true, true, true, false, true, true, false, false] rfl rfl rfl rfl (two_of HT_.out (by kernel_rfl)) (by decide) (by decide) (fun K hK => ?_) (fun K hK => ?_)
              · skip
                refine goes_ Tryd.func8 (by kernel_rfl) rfl #[.agg #[.string a1_0, .string a1_1, .string a1_2, .string a1_3, .string a1_4]] (by rfl) rfl rfl (by (try simp only [List.map_toArray, List.map_cons, List.map_nil]); first | done | rfl | (simp only [List.length_drop, List.length_take]; rfl)) ?_
                with_reducible refine (impl_gvk.calls a1_0 a1_1 a1_2 a1_3 a1_4 t112 t113 t114 false _ A4.out).mono ?_
                rintro e w14 ⟨rfl, hb⟩
                refine ⟨_, rfl, ?_⟩
                have n0_ := Aside0.mk (blk_below (g := gb106) (o := .cells #[.string a0_0, .string a0_1, .string a0_2, .string a0_3, .string a0_4] 23 (0, 0)) (by (with_reducible repeat (first | refine blk_drewN ?_ _ | refine blk_drew ?_ | refine blk_alloc ?_ _)); exact BK106.out) hb)
                have n1_ := Aside0.mk (blk_below (g := gb107) (o := .cells #[.string a1_0, .string a1_1, .string a1_2, .string a1_3, .string a1_4] 23 (0, 0)) (by (with_reducible repeat (first | refine blk_drewN ?_ _ | refine blk_drew ?_ | refine blk_alloc ?_ _)); exact BK107.out) hb)
                have n2_ := Aside0.mk (blk_below (g := gb116) (o := .cells #[.string (⟨#[]⟩ : ByteArray), .string (⟨#[]⟩ : ByteArray), .string (⟨#[]⟩ : ByteArray), .bool false] 33 (0, 0)) (by (with_reducible repeat (first | refine blk_drewN ?_ _ | refine blk_drew ?_ | refine blk_alloc ?_ _)); exact BK116.out) hb)
                have n3_ := Aside0.mk (below_step (by repeat (first | (with_reducible first | exact HB.out | apply below_alloc | apply pw_below_drewN | apply below_drew1 | refine below_set ?_ GE106.out | refine below_set ?_ GE107.out | refine below_set ?_ GE116.out) | exact HB.out)) hb)
                clear BK106
                clear BK107
                clear BK116
                clear HB
                have BK106 := n0_
                have BK107 := n1_
                have BK116 := n2_
                have HB := n3_
                clear n0_ n1_ n2_ n3_
                (try clear hb)
                (try clear hb2)
                (try clear hk)
                (try clear hi)
                refine hK.out _ _ ⟨(blk_cell BK106.out 0).trans rfl, (blk_cell BK106.out 1).trans rfl, (blk_cell BK106.out 2).trans rfl, (blk_cell BK106.out 3).trans rfl, (blk_cell BK106.out 4).trans rfl, (blk_cell BK107.out 0).trans rfl, (blk_cell BK107.out 1).trans rfl, (blk_cell BK107.out 2).trans rfl, (blk_cell BK107.out 3).trans rfl, (blk_cell BK107.out 4).trans rfl⟩ (fun hHeld => ?_)
                clear hK K
                refine norm_ (a' := ?_) ?_ ?_
                rotate_left
                · show Act.put _ (some 12) _ = _
                  simp only [Act.put, List.setIfInBounds_toArray, List.set_cons_zero, List.set_cons_succ, i64_w, i32_w]
                  rfl
                exact norm_ (by first | (simp only [putAll, Act.put, List.setIfInBounds_toArray, List.set_cons_zero, List.set_cons_succ]; done) | (simp only [putAll, Act.put, List.setIfInBounds_toArray, List.set_cons_zero, List.set_cons_succ]; rfl)) (hJ1_3_4 (gb116) _ ⟨hHeld, (by (with_reducible repeat (first | refine blk_drewN ?_ _ | refine blk_drew ?_ | refine blk_alloc ?_ _)); exact BK106.out), (by (with_reducible repeat (first | refine blk_drewN ?_ _ | refine blk_drew ?_ | refine blk_alloc ?_ _)); exact BK107.out), (by (with_reducible repeat (first | refine blk_drewN ?_ _ | refine blk_drew ?_ | refine blk_alloc ?_ _)); exact BK116.out), GW116.out, GE116.out, NB106_116.out, NB116_106.out, NB107_116.out, NB116_107.out, (by repeat (first | (with_reducible first | exact HB.out | apply below_alloc | apply pw_below_drewN | apply below_drew1 | refine below_set ?_ GE106.out | refine below_set ?_ GE107.out | refine below_set ?_ GE116.out) | exact HB.out))⟩)
              · skip
                refine box_step ?hg (N := 8) ?hd (cs := #[.string (⟨#[]⟩ : ByteArray), .string (⟨#[]⟩ : ByteArray), .string (⟨#[]⟩ : ByteArray), .bool false]) (t := 33) ?hr ?_; (case hd => rfl); (case hg => rfl); (case hr => first | (go_simp; done) | (go_simp; rfl))
                intro gb117 hg w14 hbox hb
                have n0_ := Aside0.mk (blk_below (g := gb106) (o := .cells #[.string a0_0, .string a0_1, .string a0_2, .string a0_3, .string a0_4] 23 (0, 0)) (by (with_reducible repeat (first | refine blk_drewN ?_ _ | refine blk_drew ?_ | refine blk_alloc ?_ _)); exact BK106.out) hb)
                have n1_ := Aside0.mk (blk_below (g := gb107) (o := .cells #[.string a1_0, .string a1_1, .string a1_2, .string a1_3, .string a1_4] 23 (0, 0)) (by (with_reducible repeat (first | refine blk_drewN ?_ _ | refine blk_drew ?_ | refine blk_alloc ?_ _)); exact BK107.out) hb)
                have n2_ := Aside0.mk (blk_below (g := gb116) (o := .cells #[.string (⟨#[]⟩ : ByteArray), .string (⟨#[]⟩ : ByteArray), .string (⟨#[]⟩ : ByteArray), .bool false] 33 (0, 0)) (by (with_reducible repeat (first | refine blk_drewN ?_ _ | refine blk_drew ?_ | refine blk_alloc ?_ _)); exact BK116.out) hb)
                have n3_ := Aside0.mk (below_step (by repeat (first | (with_reducible first | exact HB.out | apply below_alloc | apply pw_below_drewN | apply below_drew1 | refine below_set ?_ GE106.out | refine below_set ?_ GE107.out | refine below_set ?_ GE116.out) | exact HB.out)) hb)
                have n4_ := Aside0.mk (hbox)
                have n5_ := Aside0.mk ((by rw [hg]; exact (below_size (by repeat (first | (with_reducible first | exact HB.out | apply below_alloc | apply pw_below_drewN | apply below_drew1 | refine below_set ?_ GE106.out | refine below_set ?_ GE107.out | refine below_set ?_ GE116.out) | exact HB.out))) : w.heap.size ≤ gb117))
                have n6_ := Aside0.mk ((by rw [hg]; exact (below_size (by repeat (first | (with_reducible first | exact HB.out | apply below_alloc | apply pw_below_drewN | apply below_drew1 | refine below_set ?_ GE106.out | refine below_set ?_ GE107.out | refine below_set ?_ GE116.out) | exact HB.out))) : w.heap.size ≤ gb117))
                have n7_ := Aside0.mk ((by rw [hg]; exact Nat.ne_of_lt (blk_lt (g := gb106) (o := .cells #[.string a0_0, .string a0_1, .string a0_2, .string a0_3, .string a0_4] 23 (0, 0)) (by (with_reducible repeat (first | refine blk_drewN ?_ _ | refine blk_drew ?_ | refine blk_alloc ?_ _)); exact BK106.out)) : gb106 ≠ gb117))
                have n8_ := Aside0.mk ((by rw [hg]; exact Nat.ne_of_gt (blk_lt (g := gb106) (o := .cells #[.string a0_0, .string a0_1, .string a0_2, .string a0_3, .string a0_4] 23 (0, 0)) (by (with_reducible repeat (first | refine blk_drewN ?_ _ | refine blk_drew ?_ | refine blk_alloc ?_ _)); exact BK106.out)) : gb117 ≠ gb106))
                have n9_ := Aside0.mk ((by rw [hg]; exact Nat.ne_of_lt (blk_lt (g := gb107) (o := .cells #[.string a1_0, .string a1_1, .string a1_2, .string a1_3, .string a1_4] 23 (0, 0)) (by (with_reducible repeat (first | refine blk_drewN ?_ _ | refine blk_drew ?_ | refine blk_alloc ?_ _)); exact BK107.out)) : gb107 ≠ gb117))
                have n10_ := Aside0.mk ((by rw [hg]; exact Nat.ne_of_gt (blk_lt (g := gb107) (o := .cells #[.string a1_0, .string a1_1, .string a1_2, .string a1_3, .string a1_4] 23 (0, 0)) (by (with_reducible repeat (first | refine blk_drewN ?_ _ | refine blk_drew ?_ | refine blk_alloc ?_ _)); exact BK107.out)) : gb117 ≠ gb107))
                have n11_ := Aside0.mk ((by rw [hg]; exact Nat.ne_of_lt (blk_lt (g := gb116) (o := .cells #[.string (⟨#[]⟩ : ByteArray), .string (⟨#[]⟩ : ByteArray), .string (⟨#[]⟩ : ByteArray), .bool false] 33 (0, 0)) (by (with_reducible repeat (first | refine blk_drewN ?_ _ | refine blk_drew ?_ | refine blk_alloc ?_ _)); exact BK116.out)) : gb116 ≠ gb117))
                have n12_ := Aside0.mk ((by rw [hg]; exact Nat.ne_of_gt (blk_lt (g := gb116) (o := .cells #[.string (⟨#[]⟩ : ByteArray), .string (⟨#[]⟩ : ByteArray), .string (⟨#[]⟩ : ByteArray), .bool false] 33 (0, 0)) (by (with_reducible repeat (first | refine blk_drewN ?_ _ | refine blk_drew ?_ | refine blk_alloc ?_ _)); exact BK116.out)) : gb117 ≠ gb116))
                clear BK106
                clear BK107
                clear BK116
                clear HB
                have BK106 := n0_
                have BK107 := n1_
                have BK116 := n2_
                have HB := n3_
                have BK117 := n4_
                have GW117 := n5_
                have GE117 := n6_
                have NB106_117 := n7_
                have NB117_106 := n8_
                have NB107_117 := n9_
                have NB117_107 := n10_
                have NB116_117 := n11_
                have NB117_116 := n12_
                clear n0_ n1_ n2_ n3_ n4_ n5_ n6_ n7_ n8_ n9_ n10_ n11_ n12_
                clear hb hbox hg
                refine hK.out _ _ ⟨(blk_cell BK106.out 0).trans rfl, (blk_cell BK106.out 1).trans rfl, (blk_cell BK106.out 2).trans rfl, (blk_cell BK106.out 3).trans rfl, (blk_cell BK106.out 4).trans rfl, (blk_cell BK107.out 0).trans rfl, (blk_cell BK107.out 1).trans rfl, (blk_cell BK107.out 2).trans rfl, (blk_cell BK107.out 3).trans rfl, (blk_cell BK107.out 4).trans rfl⟩ (fun hHeld => ?_)
                clear hK K
                refine norm_ (a' := ?_) ?_ ?_
                rotate_left
                · show Act.put _ (some 8) _ = _
                  simp only [Act.put, List.setIfInBounds_toArray, List.set_cons_zero, List.set_cons_succ, i64_w, i32_w]
                  rfl
                exact norm_ (by first | (simp only [putAll, Act.put, List.setIfInBounds_toArray, List.set_cons_zero, List.set_cons_succ]; done) | (simp only [putAll, Act.put, List.setIfInBounds_toArray, List.set_cons_zero, List.set_cons_succ]; rfl)) (hJ1_4_5 (gb116, gb117) _ ⟨hHeld, (by (with_reducible repeat (first | refine blk_drewN ?_ _ | refine blk_drew ?_ | refine blk_alloc ?_ _)); exact BK106.out), (by (with_reducible repeat (first | refine blk_drewN ?_ _ | refine blk_drew ?_ | refine blk_alloc ?_ _)); exact BK107.out), (by (with_reducible repeat (first | refine blk_drewN ?_ _ | refine blk_drew ?_ | refine blk_alloc ?_ _)); exact BK116.out), (by (with_reducible repeat (first | refine blk_drewN ?_ _ | refine blk_drew ?_ | refine blk_alloc ?_ _)); exact BK117.out), GW116.out, GE116.out, NB106_116.out, NB116_106.out, NB107_116.out, NB116_107.out, NB117_116.out, NB116_117.out, GW117.out, GE117.out, NB106_117.out, NB117_106.out, NB107_117.out, NB117_107.out, (by repeat (first | (with_reducible first | exact HB.out | apply below_alloc | apply pw_below_drewN | apply below_drew1 | refine below_set ?_ GE106.out | refine below_set ?_ GE107.out | refine below_set ?_ GE116.out | refine below_set ?_ GE117.out) | exact HB.out))⟩)
          · skip
            rintro _ w13 ⟨hS_, h0_, h1_, h2_⟩
            have n0_ : Aside0 (w13.heap[gb106]? = some (.cells #[.string a0_0, .string a0_1, .string a0_2, .string a0_3, .string a0_4] 23 (0, 0))) := ⟨h0_⟩
            have n1_ : Aside0 (w13.heap[gb107]? = some (.cells #[.string a1_0, .string a1_1, .string a1_2, .string a1_3, .string a1_4] 23 (0, 0))) := ⟨h1_⟩
            have n2_ : Aside0 (Below w.heap.size w w13) := ⟨h2_⟩
            clear BK106
            clear BK107
            clear HB
            clear h0_ h1_ h2_
            have BK106 := n0_
            have BK107 := n1_
            have HB := n2_
            clear n0_ n1_ n2_
            have hHeld : w13.cell? ⟨gb106, 0, none⟩ = some (.string a0_0) ∧ w13.cell? ⟨gb106, 1, none⟩ = some (.string a0_1) ∧ w13.cell? ⟨gb106, 2, none⟩ = some (.string a0_2) ∧ w13.cell? ⟨gb106, 3, none⟩ = some (.string a0_3) ∧ w13.cell? ⟨gb106, 4, none⟩ = some (.string a0_4) ∧ w13.cell? ⟨gb107, 0, none⟩ = some (.string a1_0) ∧ w13.cell? ⟨gb107, 1, none⟩ = some (.string a1_1) ∧ w13.cell? ⟨gb107, 2, none⟩ = some (.string a1_2) ∧ w13.cell? ⟨gb107, 3, none⟩ = some (.string a1_3) ∧ w13.cell? ⟨gb107, 4, none⟩ = some (.string a1_4) := hS_
            refine norm_ (a' := ?_) ?_ ?_
            rotate_left
            · simp only [putAll, Act.put, List.setIfInBounds_toArray, List.set_cons_zero, List.set_cons_succ]
              rfl
            refine two_ (i := 4) (j := 5) (Ni := some 7) (Nj := some 8) #[true, true, true, true, true, false, false, false] #[true, true, true, true, false, true, false, false] rfl rfl rfl rfl (two_of HT_.out (by kernel_rfl)) (by decide) (by decide) (fun K hK => ?_) (fun K hK => ?_)
            · skip
              refine box_step ?hg (N := 7) ?hd (cs := #[.string (⟨#[]⟩ : ByteArray), .string (⟨#[]⟩ : ByteArray), .string (⟨#[]⟩ : ByteArray), .bool false]) (t := 33) ?hr ?_; (case hd => rfl); (case hg => rfl); (case hr => first | (go_simp; done) | (go_simp; rfl))
              intro gb116 hg w14 hbox hb
              have n0_ := Aside0.mk (blk_below (g := gb106) (o := .cells #[.string a0_0, .string a0_1, .string a0_2, .string a0_3, .string a0_4] 23 (0, 0)) (by (with_reducible repeat (first | refine blk_drewN ?_ _ | refine blk_drew ?_ | refine blk_alloc ?_ _)); exact BK106.out) hb)
              have n1_ := Aside0.mk (blk_below (g := gb107) (o := .cells #[.string a1_0, .string a1_1, .string a1_2, .string a1_3, .string a1_4] 23 (0, 0)) (by (with_reducible repeat (first | refine blk_drewN ?_ _ | refine blk_drew ?_ | refine blk_alloc ?_ _)); exact BK107.out) hb)
              have n2_ := Aside0.mk (below_step (by repeat (first | (with_reducible first | exact HB.out | apply below_alloc | apply pw_below_drewN | apply below_drew1 | refine below_set ?_ GE106.out | refine below_set ?_ GE107.out) | exact HB.out)) hb)
              have n3_ := Aside0.mk (hbox)
              have n4_ := Aside0.mk ((by rw [hg]; exact (below_size (by repeat (first | (with_reducible first | exact HB.out | apply below_alloc | apply pw_below_drewN | apply below_drew1 | refine below_set ?_ GE106.out | refine below_set ?_ GE107.out) | exact HB.out))) : w.heap.size ≤ gb116))
              have n5_ := Aside0.mk ((by rw [hg]; exact (below_size (by repeat (first | (with_reducible first | exact HB.out | apply below_alloc | apply pw_below_drewN | apply below_drew1 | refine below_set ?_ GE106.out | refine below_set ?_ GE107.out) | exact HB.out))) : w.heap.size ≤ gb116))
              have n6_ := Aside0.mk ((by rw [hg]; exact Nat.ne_of_lt (blk_lt (g := gb106) (o := .cells #[.string a0_0, .string a0_1, .string a0_2, .string a0_3, .string a0_4] 23 (0, 0)) (by (with_reducible repeat (first | refine blk_drewN ?_ _ | refine blk_drew ?_ | refine blk_alloc ?_ _)); exact BK106.out)) : gb106 ≠ gb116))
              have n7_ := Aside0.mk ((by rw [hg]; exact Nat.ne_of_gt (blk_lt (g := gb106) (o := .cells #[.string a0_0, .string a0_1, .string a0_2, .string a0_3, .string a0_4] 23 (0, 0)) (by (with_reducible repeat (first | refine blk_drewN ?_ _ | refine blk_drew ?_ | refine blk_alloc ?_ _)); exact BK106.out)) : gb116 ≠ gb106))
              have n8_ := Aside0.mk ((by rw [hg]; exact Nat.ne_of_lt (blk_lt (g := gb107) (o := .cells #[.string a1_0, .string a1_1, .string a1_2, .string a1_3, .string a1_4] 23 (0, 0)) (by (with_reducible repeat (first | refine blk_drewN ?_ _ | refine blk_drew ?_ | refine blk_alloc ?_ _)); exact BK107.out)) : gb107 ≠ gb116))
              have n9_ := Aside0.mk ((by rw [hg]; exact Nat.ne_of_gt (blk_lt (g := gb107) (o := .cells #[.string a1_0, .string a1_1, .string a1_2, .string a1_3, .string a1_4] 23 (0, 0)) (by (with_reducible repeat (first | refine blk_drewN ?_ _ | refine blk_drew ?_ | refine blk_alloc ?_ _)); exact BK107.out)) : gb116 ≠ gb107))
              clear BK106
              clear BK107
              clear HB
              have BK106 := n0_
              have BK107 := n1_
              have HB := n2_
              have BK116 := n3_
              have GW116 := n4_
              have GE116 := n5_
              have NB106_116 := n6_
              have NB116_106 := n7_
              have NB107_116 := n8_
              have NB116_107 := n9_
              clear n0_ n1_ n2_ n3_ n4_ n5_ n6_ n7_ n8_ n9_
              clear hb hbox hg
              refine hK.out _ _ ⟨(blk_cell BK106.out 0).trans rfl, (blk_cell BK106.out 1).trans rfl, (blk_cell BK106.out 2).trans rfl, (blk_cell BK106.out 3).trans rfl, (blk_cell BK106.out 4).trans rfl, (blk_cell BK107.out 0).trans rfl, (blk_cell BK107.out 1).trans rfl, (blk_cell BK107.out 2).trans rfl, (blk_cell BK107.out 3).trans rfl, (blk_cell BK107.out 4).trans rfl⟩ (fun hHeld => ?_)
              clear hK K
              refine norm_ (a' := ?_) ?_ ?_
              rotate_left
              · show Act.put _ (some 7) _ = _
                simp only [Act.put, List.setIfInBounds_toArray, List.set_cons_zero, List.set_cons_succ, i64_w, i32_w]
                rfl
              exact norm_ (by first | (simp only [putAll, Act.put, List.setIfInBounds_toArray, List.set_cons_zero, List.set_cons_succ]; done) | (simp only [putAll, Act.put, List.setIfInBounds_toArray, List.set_cons_zero, List.set_cons_succ]; rfl)) (hJ1_3_4 (gb116) _ ⟨hHeld, (by (with_reducible repeat (first | refine blk_drewN ?_ _ | refine blk_drew ?_ | refine blk_alloc ?_ _)); exact BK106.out), (by (with_reducible repeat (first | refine blk_drewN ?_ _ | refine blk_drew ?_ | refine blk_alloc ?_ _)); exact BK107.out), (by (with_reducible repeat (first | refine blk_drewN ?_ _ | refine blk_drew ?_ | refine blk_alloc ?_ _)); exact BK116.out), GW116.out, GE116.out, NB106_116.out, NB116_106.out, NB107_116.out, NB116_107.out, (by repeat (first | (with_reducible first | exact HB.out | apply below_alloc | apply pw_below_drewN | apply below_drew1 | refine below_set ?_ GE106.out | refine below_set ?_ GE107.out | refine below_set ?_ GE116.out) | exact HB.out))⟩)
            · skip
              refine box_step ?hg (N := 8) ?hd (cs := #[.string (⟨#[]⟩ : ByteArray), .string (⟨#[]⟩ : ByteArray), .string (⟨#[]⟩ : ByteArray), .bool false]) (t := 33) ?hr ?_; (case hd => rfl); (case hg => rfl); (case hr => first | (go_simp; done) | (go_simp; rfl))
              intro gb117 hg w14 hbox hb
              have n0_ := Aside0.mk (blk_below (g := gb106) (o := .cells #[.string a0_0, .string a0_1, .string a0_2, .string a0_3, .string a0_4] 23 (0, 0)) (by (with_reducible repeat (first | refine blk_drewN ?_ _ | refine blk_drew ?_ | refine blk_alloc ?_ _)); exact BK106.out) hb)
              have n1_ := Aside0.mk (blk_below (g := gb107) (o := .cells #[.string a1_0, .string a1_1, .string a1_2, .string a1_3, .string a1_4] 23 (0, 0)) (by (with_reducible repeat (first | refine blk_drewN ?_ _ | refine blk_drew ?_ | refine blk_alloc ?_ _)); exact BK107.out) hb)
              have n2_ := Aside0.mk (below_step (by repeat (first | (with_reducible first | exact HB.out | apply below_alloc | apply pw_below_drewN | apply below_drew1 | refine below_set ?_ GE106.out | refine below_set ?_ GE107.out) | exact HB.out)) hb)
              have n3_ := Aside0.mk (hbox)
              have n4_ := Aside0.mk ((by rw [hg]; exact (below_size (by repeat (first | (with_reducible first | exact HB.out | apply below_alloc | apply pw_below_drewN | apply below_drew1 | refine below_set ?_ GE106.out | refine below_set ?_ GE107.out) | exact HB.out))) : w.heap.size ≤ gb117))
              have n5_ := Aside0.mk ((by rw [hg]; exact (below_size (by repeat (first | (with_reducible first | exact HB.out | apply below_alloc | apply pw_below_drewN | apply below_drew1 | refine below_set ?_ GE106.out | refine below_set ?_ GE107.out) | exact HB.out))) : w.heap.size ≤ gb117))
              have n6_ := Aside0.mk ((by rw [hg]; exact Nat.ne_of_lt (blk_lt (g := gb106) (o := .cells #[.string a0_0, .string a0_1, .string a0_2, .string a0_3, .string a0_4] 23 (0, 0)) (by (with_reducible repeat (first | refine blk_drewN ?_ _ | refine blk_drew ?_ | refine blk_alloc ?_ _)); exact BK106.out)) : gb106 ≠ gb117))
              have n7_ := Aside0.mk ((by rw [hg]; exact Nat.ne_of_gt (blk_lt (g := gb106) (o := .cells #[.string a0_0, .string a0_1, .string a0_2, .string a0_3, .string a0_4] 23 (0, 0)) (by (with_reducible repeat (first | refine blk_drewN ?_ _ | refine blk_drew ?_ | refine blk_alloc ?_ _)); exact BK106.out)) : gb117 ≠ gb106))
              have n8_ := Aside0.mk ((by rw [hg]; exact Nat.ne_of_lt (blk_lt (g := gb107) (o := .cells #[.string a1_0, .string a1_1, .string a1_2, .string a1_3, .string a1_4] 23 (0, 0)) (by (with_reducible repeat (first | refine blk_drewN ?_ _ | refine blk_drew ?_ | refine blk_alloc ?_ _)); exact BK107.out)) : gb107 ≠ gb117))
              have n9_ := Aside0.mk ((by rw [hg]; exact Nat.ne_of_gt (blk_lt (g := gb107) (o := .cells #[.string a1_0, .string a1_1, .string a1_2, .string a1_3, .string a1_4] 23 (0, 0)) (by (with_reducible repeat (first | refine blk_drewN ?_ _ | refine blk_drew ?_ | refine blk_alloc ?_ _)); exact BK107.out)) : gb117 ≠ gb107))
              clear BK106
              clear BK107
              clear HB
              have BK106 := n0_
              have BK107 := n1_
              have HB := n2_
              have BK117 := n3_
              have GW117 := n4_
              have GE117 := n5_
              have NB106_117 := n6_
              have NB117_106 := n7_
              have NB107_117 := n8_
              have NB117_107 := n9_
              clear n0_ n1_ n2_ n3_ n4_ n5_ n6_ n7_ n8_ n9_
              clear hb hbox hg
              refine hK.out _ _ ⟨(blk_cell BK106.out 0).trans rfl, (blk_cell BK106.out 1).trans rfl, (blk_cell BK106.out 2).trans rfl, (blk_cell BK106.out 3).trans rfl, (blk_cell BK106.out 4).trans rfl, (blk_cell BK107.out 0).trans rfl, (blk_cell BK107.out 1).trans rfl, (blk_cell BK107.out 2).trans rfl, (blk_cell BK107.out 3).trans rfl, (blk_cell BK107.out 4).trans rfl⟩ (fun hHeld => ?_)
              clear hK K
              refine norm_ (a' := ?_) ?_ ?_
              rotate_left
              · show Act.put _ (some 8) _ = _
                simp only [Act.put, List.setIfInBounds_toArray, List.set_cons_zero, List.set_cons_succ, i64_w, i32_w]
                rfl
              exact norm_ (by first | (simp only [putAll, Act.put, List.setIfInBounds_toArray, List.set_cons_zero, List.set_cons_succ]; done) | (simp only [putAll, Act.put, List.setIfInBounds_toArray, List.set_cons_zero, List.set_cons_succ]; rfl)) (hJ1_3_5 (gb117) _ ⟨hHeld, (by (with_reducible repeat (first | refine blk_drewN ?_ _ | refine blk_drew ?_ | refine blk_alloc ?_ _)); exact BK106.out), (by (with_reducible repeat (first | refine blk_drewN ?_ _ | refine blk_drew ?_ | refine blk_alloc ?_ _)); exact BK107.out), (by (with_reducible repeat (first | refine blk_drewN ?_ _ | refine blk_drew ?_ | refine blk_alloc ?_ _)); exact BK117.out), GW117.out, GE117.out, NB106_117.out, NB117_106.out, NB107_117.out, NB117_107.out, (by repeat (first | (with_reducible first | exact HB.out | apply below_alloc | apply pw_below_drewN | apply below_drew1 | refine below_set ?_ GE106.out | refine below_set ?_ GE107.out | refine below_set ?_ GE117.out) | exact HB.out))⟩)
        · skip
          rintro ⟨gb116, gb117⟩ w14 ⟨hS_, h0_, h1_, h2_, h3_, h4_, h5_, h6_, h7_, h8_, h9_, h10_, h11_, h12_, h13_, h14_, h15_, h16_, h17_, h18_⟩
          have n0_ : Aside0 (w14.heap[gb106]? = some (.cells #[.string a0_0, .string a0_1, .string a0_2, .string a0_3, .string a0_4] 23 (0, 0))) := ⟨h0_⟩
          have n1_ : Aside0 (w14.heap[gb107]? = some (.cells #[.string a1_0, .string a1_1, .string a1_2, .string a1_3, .string a1_4] 23 (0, 0))) := ⟨h1_⟩
          have n2_ : Aside0 (w14.heap[gb116]? = some (.cells #[.string (⟨#[]⟩ : ByteArray), .string (⟨#[]⟩ : ByteArray), .string (⟨#[]⟩ : ByteArray), .bool false] 33 (0, 0))) := ⟨h2_⟩
          have n3_ : Aside0 (w14.heap[gb117]? = some (.cells #[.string (⟨#[]⟩ : ByteArray), .string (⟨#[]⟩ : ByteArray), .string (⟨#[]⟩ : ByteArray), .bool false] 33 (0, 0))) := ⟨h3_⟩
          have n4_ : Aside0 (w.heap.size ≤ gb116) := ⟨h4_⟩
          have n5_ : Aside0 (w.heap.size ≤ gb116) := ⟨h5_⟩
          have n6_ : Aside0 (gb106 ≠ gb116) := ⟨h6_⟩
          have n7_ : Aside0 (gb116 ≠ gb106) := ⟨h7_⟩
          have n8_ : Aside0 (gb107 ≠ gb116) := ⟨h8_⟩
          have n9_ : Aside0 (gb116 ≠ gb107) := ⟨h9_⟩
          have n10_ : Aside0 (gb117 ≠ gb116) := ⟨h10_⟩
          have n11_ : Aside0 (gb116 ≠ gb117) := ⟨h11_⟩
          have n12_ : Aside0 (w.heap.size ≤ gb117) := ⟨h12_⟩
          have n13_ : Aside0 (w.heap.size ≤ gb117) := ⟨h13_⟩
          have n14_ : Aside0 (gb106 ≠ gb117) := ⟨h14_⟩
          have n15_ : Aside0 (gb117 ≠ gb106) := ⟨h15_⟩
          have n16_ : Aside0 (gb107 ≠ gb117) := ⟨h16_⟩
          have n17_ : Aside0 (gb117 ≠ gb107) := ⟨h17_⟩
          have n18_ : Aside0 (Below w.heap.size w w14) := ⟨h18_⟩
          clear BK106
          clear BK107
          clear HB
          clear h0_ h1_ h2_ h3_ h4_ h5_ h6_ h7_ h8_ h9_ h10_ h11_ h12_ h13_ h14_ h15_ h16_ h17_ h18_
          have BK106 := n0_
          have BK107 := n1_
          have BK116 := n2_
          have BK117 := n3_
          have GW116 := n4_
          have GE116 := n5_
          have NB106_116 := n6_
          have NB116_106 := n7_
          have NB107_116 := n8_
          have NB116_107 := n9_
          have NB117_116 := n10_
          have NB116_117 := n11_
          have GW117 := n12_
          have GE117 := n13_
          have NB106_117 := n14_
          have NB117_106 := n15_
          have NB107_117 := n16_
          have NB117_107 := n17_
          have HB := n18_
          clear n0_ n1_ n2_ n3_ n4_ n5_ n6_ n7_ n8_ n9_ n10_ n11_ n12_ n13_ n14_ n15_ n16_ n17_ n18_
          have hHeld : w14.cell? ⟨gb106, 0, none⟩ = some (.string a0_0) ∧ w14.cell? ⟨gb106, 1, none⟩ = some (.string a0_1) ∧ w14.cell? ⟨gb106, 2, none⟩ = some (.string a0_2) ∧ w14.cell? ⟨gb106, 3, none⟩ = some (.string a0_3) ∧ w14.cell? ⟨gb106, 4, none⟩ = some (.string a0_4) ∧ w14.cell? ⟨gb107, 0, none⟩ = some (.string a1_0) ∧ w14.cell? ⟨gb107, 1, none⟩ = some (.string a1_1) ∧ w14.cell? ⟨gb107, 2, none⟩ = some (.string a1_2) ∧ w14.cell? ⟨gb107, 3, none⟩ = some (.string a1_3) ∧ w14.cell? ⟨gb107, 4, none⟩ = some (.string a1_4) := hS_
          refine norm_ (a' := ?_) ?_ ?_
          rotate_left
          · simp only [putAll, Act.put, List.setIfInBounds_toArray, List.set_cons_zero, List.set_cons_succ]
            rfl
          refine one_ (i := 3) (N := some 12) #[true, true, true, true, true, true, false, false] rfl rfl (one_of HT_.out (by kernel_rfl)) (by decide) (fun K hK => ?_)
          refine goes_ Tryd.func8 (by kernel_rfl) rfl #[.agg #[.string a1_0, .string a1_1, .string a1_2, .string a1_3, .string a1_4]] (by rfl) rfl rfl (by (try simp only [List.map_toArray, List.map_cons, List.map_nil]); first | done | rfl | (simp only [List.length_drop, List.length_take]; rfl)) ?_
          with_reducible refine (impl_gvk.calls a1_0 a1_1 a1_2 a1_3 a1_4 t112 t113 t114 false _ A4.out).mono ?_
          rintro e w15 ⟨rfl, hb⟩
          refine ⟨_, rfl, ?_⟩
          have n0_ := Aside0.mk (blk_below (g := gb106) (o := .cells #[.string a0_0, .string a0_1, .string a0_2, .string a0_3, .string a0_4] 23 (0, 0)) (by (with_reducible repeat (first | refine blk_drewN ?_ _ | refine blk_drew ?_ | refine blk_alloc ?_ _)); exact BK106.out) hb)
          have n1_ := Aside0.mk (blk_below (g := gb107) (o := .cells #[.string a1_0, .string a1_1, .string a1_2, .string a1_3, .string a1_4] 23 (0, 0)) (by (with_reducible repeat (first | refine blk_drewN ?_ _ | refine blk_drew ?_ | refine blk_alloc ?_ _)); exact BK107.out) hb)
          have n2_ := Aside0.mk (blk_below (g := gb116) (o := .cells #[.string (⟨#[]⟩ : ByteArray), .string (⟨#[]⟩ : ByteArray), .string (⟨#[]⟩ : ByteArray), .bool false] 33 (0, 0)) (by (with_reducible repeat (first | refine blk_drewN ?_ _ | refine blk_drew ?_ | refine blk_alloc ?_ _)); exact BK116.out) hb)
          have n3_ := Aside0.mk (blk_below (g := gb117) (o := .cells #[.string (⟨#[]⟩ : ByteArray), .string (⟨#[]⟩ : ByteArray), .string (⟨#[]⟩ : ByteArray), .bool false] 33 (0, 0)) (by (with_reducible repeat (first | refine blk_drewN ?_ _ | refine blk_drew ?_ | refine blk_alloc ?_ _)); exact BK117.out) hb)
          have n4_ := Aside0.mk (below_step (by repeat (first | (with_reducible first | exact HB.out | apply below_alloc | apply pw_below_drewN | apply below_drew1 | refine below_set ?_ GE106.out | refine below_set ?_ GE107.out | refine below_set ?_ GE116.out | refine below_set ?_ GE117.out) | exact HB.out)) hb)
          clear BK106
          clear BK107
          clear BK116
          clear BK117
          clear HB
          have BK106 := n0_
          have BK107 := n1_
          have BK116 := n2_
          have BK117 := n3_
          have HB := n4_
          clear n0_ n1_ n2_ n3_ n4_
          (try clear hb)
          (try clear hb2)
          (try clear hk)
          (try clear hi)
          refine hK.out _ _ ⟨(blk_cell BK106.out 0).trans rfl, (blk_cell BK106.out 1).trans rfl, (blk_cell BK106.out 2).trans rfl, (blk_cell BK106.out 3).trans rfl, (blk_cell BK106.out 4).trans rfl, (blk_cell BK107.out 0).trans rfl, (blk_cell BK107.out 1).trans rfl, (blk_cell BK107.out 2).trans rfl, (blk_cell BK107.out 3).trans rfl, (blk_cell BK107.out 4).trans rfl⟩ (fun hHeld => ?_)
          clear hK K
          refine norm_ (a' := ?_) ?_ ?_
          rotate_left
          · show Act.put _ (some 12) _ = _
            simp only [Act.put, List.setIfInBounds_toArray, List.set_cons_zero, List.set_cons_succ, i64_w, i32_w]
            rfl
          exact norm_ (by first | (simp only [putAll, Act.put, List.setIfInBounds_toArray, List.set_cons_zero, List.set_cons_succ]; done) | (simp only [putAll, Act.put, List.setIfInBounds_toArray, List.set_cons_zero, List.set_cons_succ]; rfl)) (hJ1_3_4_5 (gb116, gb117) _ ⟨hHeld, (by (with_reducible repeat (first | refine blk_drewN ?_ _ | refine blk_drew ?_ | refine blk_alloc ?_ _)); exact BK106.out), (by (with_reducible repeat (first | refine blk_drewN ?_ _ | refine blk_drew ?_ | refine blk_alloc ?_ _)); exact BK107.out), (by (with_reducible repeat (first | refine blk_drewN ?_ _ | refine blk_drew ?_ | refine blk_alloc ?_ _)); exact BK116.out), (by (with_reducible repeat (first | refine blk_drewN ?_ _ | refine blk_drew ?_ | refine blk_alloc ?_ _)); exact BK117.out), GW116.out, GE116.out, NB106_116.out, NB116_106.out, NB107_116.out, NB116_107.out, NB117_116.out, NB116_117.out, GW117.out, GE117.out, NB106_117.out, NB117_106.out, NB107_117.out, NB117_107.out, (by repeat (first | (with_reducible first | exact HB.out | apply below_alloc | apply pw_below_drewN | apply below_drew1 | refine below_set ?_ GE106.out | refine below_set ?_ GE107.out | refine below_set ?_ GE116.out | refine below_set ?_ GE117.out) | exact HB.out))⟩)
      · skip
        rintro gb117 w14 ⟨hS_, h0_, h1_, h2_, h3_, h4_, h5_, h6_, h7_, h8_, h9_⟩
        have n0_ : Aside0 (w14.heap[gb106]? = some (.cells #[.string a0_0, .string a0_1, .string a0_2, .string a0_3, .string a0_4] 23 (0, 0))) := ⟨h0_⟩
        have n1_ : Aside0 (w14.heap[gb107]? = some (.cells #[.string a1_0, .string a1_1, .string a1_2, .string a1_3, .string a1_4] 23 (0, 0))) := ⟨h1_⟩
        have n2_ : Aside0 (w14.heap[gb117]? = some (.cells #[.string (⟨#[]⟩ : ByteArray), .string (⟨#[]⟩ : ByteArray), .string (⟨#[]⟩ : ByteArray), .bool false] 33 (0, 0))) := ⟨h2_⟩
        have n3_ : Aside0 (w.heap.size ≤ gb117) := ⟨h3_⟩
        have n4_ : Aside0 (w.heap.size ≤ gb117) := ⟨h4_⟩
        have n5_ : Aside0 (gb106 ≠ gb117) := ⟨h5_⟩
        have n6_ : Aside0 (gb117 ≠ gb106) := ⟨h6_⟩
        have n7_ : Aside0 (gb107 ≠ gb117) := ⟨h7_⟩
        have n8_ : Aside0 (gb117 ≠ gb107) := ⟨h8_⟩
        have n9_ : Aside0 (Below w.heap.size w w14) := ⟨h9_⟩
        clear BK106
        clear BK107
        clear HB
        clear h0_ h1_ h2_ h3_ h4_ h5_ h6_ h7_ h8_ h9_
        have BK106 := n0_
        have BK107 := n1_
        have BK117 := n2_
        have GW117 := n3_
        have GE117 := n4_
        have NB106_117 := n5_
        have NB117_106 := n6_
        have NB107_117 := n7_
        have NB117_107 := n8_
        have HB := n9_
        clear n0_ n1_ n2_ n3_ n4_ n5_ n6_ n7_ n8_ n9_
        have hHeld : w14.cell? ⟨gb106, 0, none⟩ = some (.string a0_0) ∧ w14.cell? ⟨gb106, 1, none⟩ = some (.string a0_1) ∧ w14.cell? ⟨gb106, 2, none⟩ = some (.string a0_2) ∧ w14.cell? ⟨gb106, 3, none⟩ = some (.string a0_3) ∧ w14.cell? ⟨gb106, 4, none⟩ = some (.string a0_4) ∧ w14.cell? ⟨gb107, 0, none⟩ = some (.string a1_0) ∧ w14.cell? ⟨gb107, 1, none⟩ = some (.string a1_1) ∧ w14.cell? ⟨gb107, 2, none⟩ = some (.string a1_2) ∧ w14.cell? ⟨gb107, 3, none⟩ = some (.string a1_3) ∧ w14.cell? ⟨gb107, 4, none⟩ = some (.string a1_4) := hS_
        refine norm_ (a' := ?_) ?_ ?_
        rotate_left
        · simp only [putAll, Act.put, List.setIfInBounds_toArray, List.set_cons_zero, List.set_cons_succ]
          rfl
        refine one_ (i := 4) (N := some 7) #[true, true, true, true, true, true, false, false] rfl rfl (one_of HT_.out (by kernel_rfl)) (by decide) (fun K hK => ?_)
        refine box_step ?hg (N := 7) ?hd (cs := #[.string (⟨#[]⟩ : ByteArray), .string (⟨#[]⟩ : ByteArray), .string (⟨#[]⟩ : ByteArray), .bool false]) (t := 33) ?hr ?_; (case hd => rfl); (case hg => rfl); (case hr => first | (go_simp; done) | (go_simp; rfl))
        intro gb116 hg w15 hbox hb
        have n0_ := Aside0.mk (blk_below (g := gb106) (o := .cells #[.string a0_0, .string a0_1, .string a0_2, .string a0_3, .string a0_4] 23 (0, 0)) (by (with_reducible repeat (first | refine blk_drewN ?_ _ | refine blk_drew ?_ | refine blk_alloc ?_ _)); exact BK106.out) hb)
        have n1_ := Aside0.mk (blk_below (g := gb107) (o := .cells #[.string a1_0, .string a1_1, .string a1_2, .string a1_3, .string a1_4] 23 (0, 0)) (by (with_reducible repeat (first | refine blk_drewN ?_ _ | refine blk_drew ?_ | refine blk_alloc ?_ _)); exact BK107.out) hb)
        have n2_ := Aside0.mk (blk_below (g := gb117) (o := .cells #[.string (⟨#[]⟩ : ByteArray), .string (⟨#[]⟩ : ByteArray), .string (⟨#[]⟩ : ByteArray), .bool false] 33 (0, 0)) (by (with_reducible repeat (first | refine blk_drewN ?_ _ | refine blk_drew ?_ | refine blk_alloc ?_ _)); exact BK117.out) hb)
        have n3_ := Aside0.mk (below_step (by repeat (first | (with_reducible first | exact HB.out | apply below_alloc | apply pw_below_drewN | apply below_drew1 | refine below_set ?_ GE106.out | refine below_set ?_ GE107.out | refine below_set ?_ GE117.out) | exact HB.out)) hb)
        have n4_ := Aside0.mk (hbox)
        have n5_ := Aside0.mk ((by rw [hg]; exact (below_size (by repeat (first | (with_reducible first | exact HB.out | apply below_alloc | apply pw_below_drewN | apply below_drew1 | refine below_set ?_ GE106.out | refine below_set ?_ GE107.out | refine below_set ?_ GE117.out) | exact HB.out))) : w.heap.size ≤ gb116))
        have n6_ := Aside0.mk ((by rw [hg]; exact (below_size (by repeat (first | (with_reducible first | exact HB.out | apply below_alloc | apply pw_below_drewN | apply below_drew1 | refine below_set ?_ GE106.out | refine below_set ?_ GE107.out | refine below_set ?_ GE117.out) | exact HB.out))) : w.heap.size ≤ gb116))
        have n7_ := Aside0.mk ((by rw [hg]; exact Nat.ne_of_lt (blk_lt (g := gb106) (o := .cells #[.string a0_0, .string a0_1, .string a0_2, .string a0_3, .string a0_4] 23 (0, 0)) (by (with_reducible repeat (first | refine blk_drewN ?_ _ | refine blk_drew ?_ | refine blk_alloc ?_ _)); exact BK106.out)) : gb106 ≠ gb116))
        have n8_ := Aside0.mk ((by rw [hg]; exact Nat.ne_of_gt (blk_lt (g := gb106) (o := .cells #[.string a0_0, .string a0_1, .string a0_2, .string a0_3, .string a0_4] 23 (0, 0)) (by (with_reducible repeat (first | refine blk_drewN ?_ _ | refine blk_drew ?_ | refine blk_alloc ?_ _)); exact BK106.out)) : gb116 ≠ gb106))
        have n9_ := Aside0.mk ((by rw [hg]; exact Nat.ne_of_lt (blk_lt (g := gb107) (o := .cells #[.string a1_0, .string a1_1, .string a1_2, .string a1_3, .string a1_4] 23 (0, 0)) (by (with_reducible repeat (first | refine blk_drewN ?_ _ | refine blk_drew ?_ | refine blk_alloc ?_ _)); exact BK107.out)) : gb107 ≠ gb116))
        have n10_ := Aside0.mk ((by rw [hg]; exact Nat.ne_of_gt (blk_lt (g := gb107) (o := .cells #[.string a1_0, .string a1_1, .string a1_2, .string a1_3, .string a1_4] 23 (0, 0)) (by (with_reducible repeat (first | refine blk_drewN ?_ _ | refine blk_drew ?_ | refine blk_alloc ?_ _)); exact BK107.out)) : gb116 ≠ gb107))
        have n11_ := Aside0.mk ((by rw [hg]; exact Nat.ne_of_lt (blk_lt (g := gb117) (o := .cells #[.string (⟨#[]⟩ : ByteArray), .string (⟨#[]⟩ : ByteArray), .string (⟨#[]⟩ : ByteArray), .bool false] 33 (0, 0)) (by (with_reducible repeat (first | refine blk_drewN ?_ _ | refine blk_drew ?_ | refine blk_alloc ?_ _)); exact BK117.out)) : gb117 ≠ gb116))
        have n12_ := Aside0.mk ((by rw [hg]; exact Nat.ne_of_gt (blk_lt (g := gb117) (o := .cells #[.string (⟨#[]⟩ : ByteArray), .string (⟨#[]⟩ : ByteArray), .string (⟨#[]⟩ : ByteArray), .bool false] 33 (0, 0)) (by (with_reducible repeat (first | refine blk_drewN ?_ _ | refine blk_drew ?_ | refine blk_alloc ?_ _)); exact BK117.out)) : gb116 ≠ gb117))
        clear BK106
        clear BK107
        clear BK117
        clear HB
        have BK106 := n0_
        have BK107 := n1_
        have BK117 := n2_
        have HB := n3_
        have BK116 := n4_
        have GW116 := n5_
        have GE116 := n6_
        have NB106_116 := n7_
        have NB116_106 := n8_
        have NB107_116 := n9_
        have NB116_107 := n10_
        have NB117_116 := n11_
        have NB116_117 := n12_
        clear n0_ n1_ n2_ n3_ n4_ n5_ n6_ n7_ n8_ n9_ n10_ n11_ n12_
        clear hb hbox hg
        refine hK.out _ _ ⟨(blk_cell BK106.out 0).trans rfl, (blk_cell BK106.out 1).trans rfl, (blk_cell BK106.out 2).trans rfl, (blk_cell BK106.out 3).trans rfl, (blk_cell BK106.out 4).trans rfl, (blk_cell BK107.out 0).trans rfl, (blk_cell BK107.out 1).trans rfl, (blk_cell BK107.out 2).trans rfl, (blk_cell BK107.out 3).trans rfl, (blk_cell BK107.out 4).trans rfl⟩ (fun hHeld => ?_)
        clear hK K
        refine norm_ (a' := ?_) ?_ ?_
        rotate_left
        · show Act.put _ (some 7) _ = _
          simp only [Act.put, List.setIfInBounds_toArray, List.set_cons_zero, List.set_cons_succ, i64_w, i32_w]
          rfl
        exact norm_ (by first | (simp only [putAll, Act.put, List.setIfInBounds_toArray, List.set_cons_zero, List.set_cons_succ]; done) | (simp only [putAll, Act.put, List.setIfInBounds_toArray, List.set_cons_zero, List.set_cons_succ]; rfl)) (hJ1_3_4_5 (gb116, gb117) _ ⟨hHeld, (by (with_reducible repeat (first | refine blk_drewN ?_ _ | refine blk_drew ?_ | refine blk_alloc ?_ _)); exact BK106.out), (by (with_reducible repeat (first | refine blk_drewN ?_ _ | refine blk_drew ?_ | refine blk_alloc ?_ _)); exact BK107.out), (by (with_reducible repeat (first | refine blk_drewN ?_ _ | refine blk_drew ?_ | refine blk_alloc ?_ _)); exact BK116.out), (by (with_reducible repeat (first | refine blk_drewN ?_ _ | refine blk_drew ?_ | refine blk_alloc ?_ _)); exact BK117.out), GW116.out, GE116.out, NB106_116.out, NB116_106.out, NB107_116.out, NB116_107.out, NB117_116.out, NB116_117.out, GW117.out, GE117.out, NB106_117.out, NB117_106.out, NB107_117.out, NB117_107.out, (by repeat (first | (with_reducible first | exact HB.out | apply below_alloc | apply pw_below_drewN | apply below_drew1 | refine below_set ?_ GE106.out | refine below_set ?_ GE107.out | refine below_set ?_ GE117.out | refine below_set ?_ GE116.out) | exact HB.out))⟩)
    · skip
      rintro gb116 w14 ⟨hS_, h0_, h1_, h2_, h3_, h4_, h5_, h6_, h7_, h8_, h9_⟩
      have n0_ : Aside0 (w14.heap[gb106]? = some (.cells #[.string a0_0, .string a0_1, .string a0_2, .string a0_3, .string a0_4] 23 (0, 0))) := ⟨h0_⟩
      have n1_ : Aside0 (w14.heap[gb107]? = some (.cells #[.string a1_0, .string a1_1, .string a1_2, .string a1_3, .string a1_4] 23 (0, 0))) := ⟨h1_⟩
      have n2_ : Aside0 (w14.heap[gb116]? = some (.cells #[.string (⟨#[]⟩ : ByteArray), .string (⟨#[]⟩ : ByteArray), .string (⟨#[]⟩ : ByteArray), .bool false] 33 (0, 0))) := ⟨h2_⟩
      have n3_ : Aside0 (w.heap.size ≤ gb116) := ⟨h3_⟩
      have n4_ : Aside0 (w.heap.size ≤ gb116) := ⟨h4_⟩
      have n5_ : Aside0 (gb106 ≠ gb116) := ⟨h5_⟩
      have n6_ : Aside0 (gb116 ≠ gb106) := ⟨h6_⟩
      have n7_ : Aside0 (gb107 ≠ gb116) := ⟨h7_⟩
      have n8_ : Aside0 (gb116 ≠ gb107) := ⟨h8_⟩
      have n9_ : Aside0 (Below w.heap.size w w14) := ⟨h9_⟩
      clear BK106
      clear BK107
      clear HB
      clear h0_ h1_ h2_ h3_ h4_ h5_ h6_ h7_ h8_ h9_
      have BK106 := n0_
      have BK107 := n1_
      have BK116 := n2_
      have GW116 := n3_
      have GE116 := n4_
      have NB106_116 := n5_
      have NB116_106 := n6_
      have NB107_116 := n7_
      have NB116_107 := n8_
      have HB := n9_
      clear n0_ n1_ n2_ n3_ n4_ n5_ n6_ n7_ n8_ n9_
      have hHeld : w14.cell? ⟨gb106, 0, none⟩ = some (.string a0_0) ∧ w14.cell? ⟨gb106, 1, none⟩ = some (.string a0_1) ∧ w14.cell? ⟨gb106, 2, none⟩ = some (.string a0_2) ∧ w14.cell? ⟨gb106, 3, none⟩ = some (.string a0_3) ∧ w14.cell? ⟨gb106, 4, none⟩ = some (.string a0_4) ∧ w14.cell? ⟨gb107, 0, none⟩ = some (.string a1_0) ∧ w14.cell? ⟨gb107, 1, none⟩ = some (.string a1_1) ∧ w14.cell? ⟨gb107, 2, none⟩ = some (.string a1_2) ∧ w14.cell? ⟨gb107, 3, none⟩ = some (.string a1_3) ∧ w14.cell? ⟨gb107, 4, none⟩ = some (.string a1_4) := hS_
      refine norm_ (a' := ?_) ?_ ?_
      rotate_left
      · simp only [putAll, Act.put, List.setIfInBounds_toArray, List.set_cons_zero, List.set_cons_succ]
        rfl
      refine one_ (i := 5) (N := some 8) #[true, true, true, true, true, true, false, false] rfl rfl (one_of HT_.out (by kernel_rfl)) (by decide) (fun K hK => ?_)
      refine box_step ?hg (N := 8) ?hd (cs := #[.string (⟨#[]⟩ : ByteArray), .string (⟨#[]⟩ : ByteArray), .string (⟨#[]⟩ : ByteArray), .bool false]) (t := 33) ?hr ?_; (case hd => rfl); (case hg => rfl); (case hr => first | (go_simp; done) | (go_simp; rfl))
      intro gb117 hg w15 hbox hb
      have n0_ := Aside0.mk (blk_below (g := gb106) (o := .cells #[.string a0_0, .string a0_1, .string a0_2, .string a0_3, .string a0_4] 23 (0, 0)) (by (with_reducible repeat (first | refine blk_drewN ?_ _ | refine blk_drew ?_ | refine blk_alloc ?_ _)); exact BK106.out) hb)
      have n1_ := Aside0.mk (blk_below (g := gb107) (o := .cells #[.string a1_0, .string a1_1, .string a1_2, .string a1_3, .string a1_4] 23 (0, 0)) (by (with_reducible repeat (first | refine blk_drewN ?_ _ | refine blk_drew ?_ | refine blk_alloc ?_ _)); exact BK107.out) hb)
      have n2_ := Aside0.mk (blk_below (g := gb116) (o := .cells #[.string (⟨#[]⟩ : ByteArray), .string (⟨#[]⟩ : ByteArray), .string (⟨#[]⟩ : ByteArray), .bool false] 33 (0, 0)) (by (with_reducible repeat (first | refine blk_drewN ?_ _ | refine blk_drew ?_ | refine blk_alloc ?_ _)); exact BK116.out) hb)
      have n3_ := Aside0.mk (below_step (by repeat (first | (with_reducible first | exact HB.out | apply below_alloc | apply pw_below_drewN | apply below_drew1 | refine below_set ?_ GE106.out | refine below_set ?_ GE107.out | refine below_set ?_ GE116.out) | exact HB.out)) hb)
      have n4_ := Aside0.mk (hbox)
      have n5_ := Aside0.mk ((by rw [hg]; exact (below_size (by repeat (first | (with_reducible first | exact HB.out | apply below_alloc | apply pw_below_drewN | apply below_drew1 | refine below_set ?_ GE106.out | refine below_set ?_ GE107.out | refine below_set ?_ GE116.out) | exact HB.out))) : w.heap.size ≤ gb117))
      have n6_ := Aside0.mk ((by rw [hg]; exact (below_size (by repeat (first | (with_reducible first | exact HB.out | apply below_alloc | apply pw_below_drewN | apply below_drew1 | refine below_set ?_ GE106.out | refine below_set ?_ GE107.out | refine below_set ?_ GE116.out) | exact HB.out))) : w.heap.size ≤ gb117))
      have n7_ := Aside0.mk ((by rw [hg]; exact Nat.ne_of_lt (blk_lt (g := gb106) (o := .cells #[.string a0_0, .string a0_1, .string a0_2, .string a0_3, .string a0_4] 23 (0, 0)) (by (with_reducible repeat (first | refine blk_drewN ?_ _ | refine blk_drew ?_ | refine blk_alloc ?_ _)); exact BK106.out)) : gb106 ≠ gb117))
      have n8_ := Aside0.mk ((by rw [hg]; exact Nat.ne_of_gt (blk_lt (g := gb106) (o := .cells #[.string a0_0, .string a0_1, .string a0_2, .string a0_3, .string a0_4] 23 (0, 0)) (by (with_reducible repeat (first | refine blk_drewN ?_ _ | refine blk_drew ?_ | refine blk_alloc ?_ _)); exact BK106.out)) : gb117 ≠ gb106))
      have n9_ := Aside0.mk ((by rw [hg]; exact Nat.ne_of_lt (blk_lt (g := gb107) (o := .cells #[.string a1_0, .string a1_1, .string a1_2, .string a1_3, .string a1_4] 23 (0, 0)) (by (with_reducible repeat (first | refine blk_drewN ?_ _ | refine blk_drew ?_ | refine blk_alloc ?_ _)); exact BK107.out)) : gb107 ≠ gb117))
      have n10_ := Aside0.mk ((by rw [hg]; exact Nat.ne_of_gt (blk_lt (g := gb107) (o := .cells #[.string a1_0, .string a1_1, .string a1_2, .string a1_3, .string a1_4] 23 (0, 0)) (by (with_reducible repeat (first | refine blk_drewN ?_ _ | refine blk_drew ?_ | refine blk_alloc ?_ _)); exact BK107.out)) : gb117 ≠ gb107))
      have n11_ := Aside0.mk ((by rw [hg]; exact Nat.ne_of_lt (blk_lt (g := gb116) (o := .cells #[.string (⟨#[]⟩ : ByteArray), .string (⟨#[]⟩ : ByteArray), .string (⟨#[]⟩ : ByteArray), .bool false] 33 (0, 0)) (by (with_reducible repeat (first | refine blk_drewN ?_ _ | refine blk_drew ?_ | refine blk_alloc ?_ _)); exact BK116.out)) : gb116 ≠ gb117))
      have n12_ := Aside0.mk ((by rw [hg]; exact Nat.ne_of_gt (blk_lt (g := gb116) (o := .cells #[.string (⟨#[]⟩ : ByteArray), .string (⟨#[]⟩ : ByteArray), .string (⟨#[]⟩ : ByteArray), .bool false] 33 (0, 0)) (by (with_reducible repeat (first | refine blk_drewN ?_ _ | refine blk_drew ?_ | refine blk_alloc ?_ _)); exact BK116.out)) : gb117 ≠ gb116))
      clear BK106
      clear BK107
      clear BK116
      clear HB
      have BK106 := n0_
      have BK107 := n1_
      have BK116 := n2_
      have HB := n3_
      have BK117 := n4_
      have GW117 := n5_
      have GE117 := n6_
      have NB106_117 := n7_
      have NB117_106 := n8_
      have NB107_117 := n9_
      have NB117_107 := n10_
      have NB116_117 := n11_
      have NB117_116 := n12_
      clear n0_ n1_ n2_ n3_ n4_ n5_ n6_ n7_ n8_ n9_ n10_ n11_ n12_
      clear hb hbox hg
      refine hK.out _ _ ⟨(blk_cell BK106.out 0).trans rfl, (blk_cell BK106.out 1).trans rfl, (blk_cell BK106.out 2).trans rfl, (blk_cell BK106.out 3).trans rfl, (blk_cell BK106.out 4).trans rfl, (blk_cell BK107.out 0).trans rfl, (blk_cell BK107.out 1).trans rfl, (blk_cell BK107.out 2).trans rfl, (blk_cell BK107.out 3).trans rfl, (blk_cell BK107.out 4).trans rfl⟩ (fun hHeld => ?_)
      clear hK K
      refine norm_ (a' := ?_) ?_ ?_
      rotate_left
      · show Act.put _ (some 8) _ = _
        simp only [Act.put, List.setIfInBounds_toArray, List.set_cons_zero, List.set_cons_succ, i64_w, i32_w]
        rfl
      exact norm_ (by first | (simp only [putAll, Act.put, List.setIfInBounds_toArray, List.set_cons_zero, List.set_cons_succ]; done) | (simp only [putAll, Act.put, List.setIfInBounds_toArray, List.set_cons_zero, List.set_cons_succ]; rfl)) (hJ1_3_4_5 (gb116, gb117) _ ⟨hHeld, (by (with_reducible repeat (first | refine blk_drewN ?_ _ | refine blk_drew ?_ | refine blk_alloc ?_ _)); exact BK106.out), (by (with_reducible repeat (first | refine blk_drewN ?_ _ | refine blk_drew ?_ | refine blk_alloc ?_ _)); exact BK107.out), (by (with_reducible repeat (first | refine blk_drewN ?_ _ | refine blk_drew ?_ | refine blk_alloc ?_ _)); exact BK116.out), (by (with_reducible repeat (first | refine blk_drewN ?_ _ | refine blk_drew ?_ | refine blk_alloc ?_ _)); exact BK117.out), GW116.out, GE116.out, NB106_116.out, NB116_106.out, NB107_116.out, NB116_107.out, NB117_116.out, NB116_117.out, GW117.out, GE117.out, NB106_117.out, NB117_106.out, NB107_117.out, NB117_107.out, (by repeat (first | (with_reducible first | exact HB.out | apply below_alloc | apply pw_below_drewN | apply below_drew1 | refine below_set ?_ GE106.out | refine below_set ?_ GE107.out | refine below_set ?_ GE116.out | refine below_set ?_ GE117.out) | exact HB.out))⟩)
  rintro ⟨gb116, gb117⟩ w15 ⟨hS_, h0_, h1_, h2_, h3_, h4_, h5_, h6_, h7_, h8_, h9_, h10_, h11_, h12_, h13_, h14_, h15_, h16_, h17_, h18_⟩
  have n0_ : Aside0 (w15.heap[gb106]? = some (.cells #[.string a0_0, .string a0_1, .string a0_2, .string a0_3, .string a0_4] 23 (0, 0))) := ⟨h0_⟩
  have n1_ : Aside0 (w15.heap[gb107]? = some (.cells #[.string a1_0, .string a1_1, .string a1_2, .string a1_3, .string a1_4] 23 (0, 0))) := ⟨h1_⟩
  have n2_ : Aside0 (w15.heap[gb116]? = some (.cells #[.string (⟨#[]⟩ : ByteArray), .string (⟨#[]⟩ : ByteArray), .string (⟨#[]⟩ : ByteArray), .bool false] 33 (0, 0))) := ⟨h2_⟩
  have n3_ : Aside0 (w15.heap[gb117]? = some (.cells #[.string (⟨#[]⟩ : ByteArray), .string (⟨#[]⟩ : ByteArray), .string (⟨#[]⟩ : ByteArray), .bool false] 33 (0, 0))) := ⟨h3_⟩
  have n4_ : Aside0 (w.heap.size ≤ gb116) := ⟨h4_⟩
  have n5_ : Aside0 (w.heap.size ≤ gb116) := ⟨h5_⟩
  have n6_ : Aside0 (gb106 ≠ gb116) := ⟨h6_⟩
  have n7_ : Aside0 (gb116 ≠ gb106) := ⟨h7_⟩
  have n8_ : Aside0 (gb107 ≠ gb116) := ⟨h8_⟩
  have n9_ : Aside0 (gb116 ≠ gb107) := ⟨h9_⟩
  have n10_ : Aside0 (gb117 ≠ gb116) := ⟨h10_⟩
  have n11_ : Aside0 (gb116 ≠ gb117) := ⟨h11_⟩
  have n12_ : Aside0 (w.heap.size ≤ gb117) := ⟨h12_⟩
  have n13_ : Aside0 (w.heap.size ≤ gb117) := ⟨h13_⟩
  have n14_ : Aside0 (gb106 ≠ gb117) := ⟨h14_⟩
  have n15_ : Aside0 (gb117 ≠ gb106) := ⟨h15_⟩
  have n16_ : Aside0 (gb107 ≠ gb117) := ⟨h16_⟩
  have n17_ : Aside0 (gb117 ≠ gb107) := ⟨h17_⟩
  have n18_ : Aside0 (Below w.heap.size w w15) := ⟨h18_⟩
  clear BK106
  clear BK107
  clear HB
  clear h0_ h1_ h2_ h3_ h4_ h5_ h6_ h7_ h8_ h9_ h10_ h11_ h12_ h13_ h14_ h15_ h16_ h17_ h18_
  have BK106 := n0_
  have BK107 := n1_
  have BK116 := n2_
  have BK117 := n3_
  have GW116 := n4_
  have GE116 := n5_
  have NB106_116 := n6_
  have NB116_106 := n7_
  have NB107_116 := n8_
  have NB116_107 := n9_
  have NB117_116 := n10_
  have NB116_117 := n11_
  have GW117 := n12_
  have GE117 := n13_
  have NB106_117 := n14_
  have NB117_106 := n15_
  have NB107_117 := n16_
  have NB117_107 := n17_
  have HB := n18_
  clear n0_ n1_ n2_ n3_ n4_ n5_ n6_ n7_ n8_ n9_ n10_ n11_ n12_ n13_ n14_ n15_ n16_ n17_ n18_
  have hHeld : w15.cell? ⟨gb106, 0, none⟩ = some (.string a0_0) ∧ w15.cell? ⟨gb106, 1, none⟩ = some (.string a0_1) ∧ w15.cell? ⟨gb106, 2, none⟩ = some (.string a0_2) ∧ w15.cell? ⟨gb106, 3, none⟩ = some (.string a0_3) ∧ w15.cell? ⟨gb106, 4, none⟩ = some (.string a0_4) ∧ w15.cell? ⟨gb107, 0, none⟩ = some (.string a1_0) ∧ w15.cell? ⟨gb107, 1, none⟩ = some (.string a1_1) ∧ w15.cell? ⟨gb107, 2, none⟩ = some (.string a1_2) ∧ w15.cell? ⟨gb107, 3, none⟩ = some (.string a1_3) ∧ w15.cell? ⟨gb107, 4, none⟩ = some (.string a1_4) := hS_
  refine norm_ (a' := ?_) ?_ ?_
  rotate_left
  · simp only [putAll, Act.put, List.setIfInBounds_toArray, List.set_cons_zero, List.set_cons_succ]
    rfl
  refine one_ (i := 6) (N := none) #[true, true, true, true, true, true, true, false] rfl rfl (one_of HT_.out (by kernel_rfl)) (by decide) (fun K hK => ?_)
  have hs16 : w15.cell? ⟨gb116, 0, none⟩ = some (.string (⟨#[]⟩ : ByteArray)) := (blk_cell BK116.out 0).trans rfl
  have hfs16 := blk_frozen BK116.out 0
  have hns16_0 := NB106_116.out
  have hns16_1 := NB107_116.out
  have hns16_3 := NB117_116.out
  have hms16_0 := NB116_106.out
  have hms16_1 := NB116_107.out
  have hms16_3 := NB116_117.out
  have hs17 : w15.cell? ⟨gb116, 1, none⟩ = some (.string (⟨#[]⟩ : ByteArray)) := (blk_cell BK116.out 1).trans rfl
  have hfs17 := blk_frozen BK116.out 1
  have hns17_0 := NB106_116.out
  have hns17_1 := NB107_116.out
  have hns17_3 := NB117_116.out
  have hms17_0 := NB116_106.out
  have hms17_1 := NB116_107.out
  have hms17_3 := NB116_117.out
  have hs18 : w15.cell? ⟨gb116, 2, none⟩ = some (.string (⟨#[]⟩ : ByteArray)) := (blk_cell BK116.out 2).trans rfl
  have hfs18 := blk_frozen BK116.out 2
  have hns18_0 := NB106_116.out
  have hns18_1 := NB107_116.out
  have hns18_3 := NB117_116.out
  have hms18_0 := NB116_106.out
  have hms18_1 := NB116_107.out
  have hms18_3 := NB116_117.out
  have hs19 : w15.cell? ⟨gb116, 3, none⟩ = some (.bool false) := (blk_cell BK116.out 3).trans rfl
  have hfs19 := blk_frozen BK116.out 3
  have hns19_0 := NB106_116.out
  have hns19_1 := NB107_116.out
  have hns19_3 := NB117_116.out
  have hms19_0 := NB116_106.out
  have hms19_1 := NB116_107.out
  have hms19_3 := NB116_117.out
  refine skip_ (w1 := ?_) (by rfl) rfl ?_ ?_
  rotate_left
  · go_simp
    rfl
  refine hK.out _ _ ⟨((cell_far (p := ⟨gb116, _, none⟩) NB106_116.out _).trans (((cell_far (p := ⟨gb116, _, none⟩) NB106_116.out _).trans (((cell_far (p := ⟨gb116, _, none⟩) NB106_116.out _).trans (((cell_far (p := ⟨gb116, _, none⟩) NB106_116.out _).trans (hHeld.1)))))))), ((cell_far (p := ⟨gb116, _, none⟩) NB106_116.out _).trans (((cell_far (p := ⟨gb116, _, none⟩) NB106_116.out _).trans (((cell_far (p := ⟨gb116, _, none⟩) NB106_116.out _).trans (((cell_far (p := ⟨gb116, _, none⟩) NB106_116.out _).trans (hHeld.2.1)))))))), ((cell_far (p := ⟨gb116, _, none⟩) NB106_116.out _).trans (((cell_far (p := ⟨gb116, _, none⟩) NB106_116.out _).trans (((cell_far (p := ⟨gb116, _, none⟩) NB106_116.out _).trans (((cell_far (p := ⟨gb116, _, none⟩) NB106_116.out _).trans (hHeld.2.2.1)))))))), ((cell_far (p := ⟨gb116, _, none⟩) NB106_116.out _).trans (((cell_far (p := ⟨gb116, _, none⟩) NB106_116.out _).trans (((cell_far (p := ⟨gb116, _, none⟩) NB106_116.out _).trans (((cell_far (p := ⟨gb116, _, none⟩) NB106_116.out _).trans (hHeld.2.2.2.1)))))))), ((cell_far (p := ⟨gb116, _, none⟩) NB106_116.out _).trans (((cell_far (p := ⟨gb116, _, none⟩) NB106_116.out _).trans (((cell_far (p := ⟨gb116, _, none⟩) NB106_116.out _).trans (((cell_far (p := ⟨gb116, _, none⟩) NB106_116.out _).trans (hHeld.2.2.2.2.1)))))))), ((cell_far (p := ⟨gb116, _, none⟩) NB107_116.out _).trans (((cell_far (p := ⟨gb116, _, none⟩) NB107_116.out _).trans (((cell_far (p := ⟨gb116, _, none⟩) NB107_116.out _).trans (((cell_far (p := ⟨gb116, _, none⟩) NB107_116.out _).trans (hHeld.2.2.2.2.2.1)))))))), ((cell_far (p := ⟨gb116, _, none⟩) NB107_116.out _).trans (((cell_far (p := ⟨gb116, _, none⟩) NB107_116.out _).trans (((cell_far (p := ⟨gb116, _, none⟩) NB107_116.out _).trans (((cell_far (p := ⟨gb116, _, none⟩) NB107_116.out _).trans (hHeld.2.2.2.2.2.2.1)))))))), ((cell_far (p := ⟨gb116, _, none⟩) NB107_116.out _).trans (((cell_far (p := ⟨gb116, _, none⟩) NB107_116.out _).trans (((cell_far (p := ⟨gb116, _, none⟩) NB107_116.out _).trans (((cell_far (p := ⟨gb116, _, none⟩) NB107_116.out _).trans (hHeld.2.2.2.2.2.2.2.1)))))))), ((cell_far (p := ⟨gb116, _, none⟩) NB107_116.out _).trans (((cell_far (p := ⟨gb116, _, none⟩) NB107_116.out _).trans (((cell_far (p := ⟨gb116, _, none⟩) NB107_116.out _).trans (((cell_far (p := ⟨gb116, _, none⟩) NB107_116.out _).trans (hHeld.2.2.2.2.2.2.2.2.1)))))))), ((cell_far (p := ⟨gb116, _, none⟩) NB107_116.out _).trans (((cell_far (p := ⟨gb116, _, none⟩) NB107_116.out _).trans (((cell_far (p := ⟨gb116, _, none⟩) NB107_116.out _).trans (((cell_far (p := ⟨gb116, _, none⟩) NB107_116.out _).trans (hHeld.2.2.2.2.2.2.2.2.2))))))))⟩ (fun hHeld => ?_)
  clear hK K
  refine one_ (i := 7) (N := none) #[true, true, true, true, true, true, true, true] rfl rfl (one_of HT_.out (by kernel_rfl)) (by decide) (fun K hK => ?_)
  have hs20 : w15.cell? ⟨gb117, 0, none⟩ = some (.string (⟨#[]⟩ : ByteArray)) := (blk_cell BK117.out 0).trans rfl
  have hfs20 := blk_frozen BK117.out 0
  have hns20_0 := NB106_117.out
  have hns20_1 := NB107_117.out
  have hns20_2 := NB116_117.out
  have hms20_0 := NB117_106.out
  have hms20_1 := NB117_107.out
  have hms20_2 := NB117_116.out
  have hs21 : w15.cell? ⟨gb117, 1, none⟩ = some (.string (⟨#[]⟩ : ByteArray)) := (blk_cell BK117.out 1).trans rfl
  have hfs21 := blk_frozen BK117.out 1
  have hns21_0 := NB106_117.out
  have hns21_1 := NB107_117.out
  have hns21_2 := NB116_117.out
  have hms21_0 := NB117_106.out
  have hms21_1 := NB117_107.out
  have hms21_2 := NB117_116.out
  have hs22 : w15.cell? ⟨gb117, 2, none⟩ = some (.string (⟨#[]⟩ : ByteArray)) := (blk_cell BK117.out 2).trans rfl
  have hfs22 := blk_frozen BK117.out 2
  have hns22_0 := NB106_117.out
  have hns22_1 := NB107_117.out
  have hns22_2 := NB116_117.out
  have hms22_0 := NB117_106.out
  have hms22_1 := NB117_107.out
  have hms22_2 := NB117_116.out
  have hs23 : w15.cell? ⟨gb117, 3, none⟩ = some (.bool false) := (blk_cell BK117.out 3).trans rfl
  have hfs23 := blk_frozen BK117.out 3
  have hns23_0 := NB106_117.out
  have hns23_1 := NB107_117.out
  have hns23_2 := NB116_117.out
  have hms23_0 := NB117_106.out
  have hms23_1 := NB117_107.out
  have hms23_2 := NB117_116.out
  refine skip_ (w1 := ?_) (by rfl) rfl ?_ ?_
  rotate_left
  · go_simp
    rfl
  refine hK.out _ _ ⟨((cell_far (p := ⟨gb117, _, none⟩) NB106_117.out _).trans (((cell_far (p := ⟨gb117, _, none⟩) NB106_117.out _).trans (((cell_far (p := ⟨gb117, _, none⟩) NB106_117.out _).trans (((cell_far (p := ⟨gb117, _, none⟩) NB106_117.out _).trans (hHeld.1)))))))), ((cell_far (p := ⟨gb117, _, none⟩) NB106_117.out _).trans (((cell_far (p := ⟨gb117, _, none⟩) NB106_117.out _).trans (((cell_far (p := ⟨gb117, _, none⟩) NB106_117.out _).trans (((cell_far (p := ⟨gb117, _, none⟩) NB106_117.out _).trans (hHeld.2.1)))))))), ((cell_far (p := ⟨gb117, _, none⟩) NB106_117.out _).trans (((cell_far (p := ⟨gb117, _, none⟩) NB106_117.out _).trans (((cell_far (p := ⟨gb117, _, none⟩) NB106_117.out _).trans (((cell_far (p := ⟨gb117, _, none⟩) NB106_117.out _).trans (hHeld.2.2.1)))))))), ((cell_far (p := ⟨gb117, _, none⟩) NB106_117.out _).trans (((cell_far (p := ⟨gb117, _, none⟩) NB106_117.out _).trans (((cell_far (p := ⟨gb117, _, none⟩) NB106_117.out _).trans (((cell_far (p := ⟨gb117, _, none⟩) NB106_117.out _).trans (hHeld.2.2.2.1)))))))), ((cell_far (p := ⟨gb117, _, none⟩) NB106_117.out _).trans (((cell_far (p := ⟨gb117, _, none⟩) NB106_117.out _).trans (((cell_far (p := ⟨gb117, _, none⟩) NB106_117.out _).trans (((cell_far (p := ⟨gb117, _, none⟩) NB106_117.out _).trans (hHeld.2.2.2.2.1)))))))), ((cell_far (p := ⟨gb117, _, none⟩) NB107_117.out _).trans (((cell_far (p := ⟨gb117, _, none⟩) NB107_117.out _).trans (((cell_far (p := ⟨gb117, _, none⟩) NB107_117.out _).trans (((cell_far (p := ⟨gb117, _, none⟩) NB107_117.out _).trans (hHeld.2.2.2.2.2.1)))))))), ((cell_far (p := ⟨gb117, _, none⟩) NB107_117.out _).trans (((cell_far (p := ⟨gb117, _, none⟩) NB107_117.out _).trans (((cell_far (p := ⟨gb117, _, none⟩) NB107_117.out _).trans (((cell_far (p := ⟨gb117, _, none⟩) NB107_117.out _).trans (hHeld.2.2.2.2.2.2.1)))))))), ((cell_far (p := ⟨gb117, _, none⟩) NB107_117.out _).trans (((cell_far (p := ⟨gb117, _, none⟩) NB107_117.out _).trans (((cell_far (p := ⟨gb117, _, none⟩) NB107_117.out _).trans (((cell_far (p := ⟨gb117, _, none⟩) NB107_117.out _).trans (hHeld.2.2.2.2.2.2.2.1)))))))), ((cell_far (p := ⟨gb117, _, none⟩) NB107_117.out _).trans (((cell_far (p := ⟨gb117, _, none⟩) NB107_117.out _).trans (((cell_far (p := ⟨gb117, _, none⟩) NB107_117.out _).trans (((cell_far (p := ⟨gb117, _, none⟩) NB107_117.out _).trans (hHeld.2.2.2.2.2.2.2.2.1)))))))), ((cell_far (p := ⟨gb117, _, none⟩) NB107_117.out _).trans (((cell_far (p := ⟨gb117, _, none⟩) NB107_117.out _).trans (((cell_far (p := ⟨gb117, _, none⟩) NB107_117.out _).trans (((cell_far (p := ⟨gb117, _, none⟩) NB107_117.out _).trans (hHeld.2.2.2.2.2.2.2.2.2))))))))⟩ (fun hHeld => ?_)
  clear hK K
  refine done_ (done_of HT_.out (by kernel_rfl)) ?_
  try go_wp2
  have n0_ : Aside0 (((((((((w15.setCell ⟨gb116, 0, none⟩ (.string t108)).setCell ⟨gb116, 1, none⟩ (.string t109)).setCell ⟨gb116, 2, none⟩ (.string t110)).setCell ⟨gb116, 3, none⟩ (.bool false)).setCell ⟨gb117, 0, none⟩ (.string t112)).setCell ⟨gb117, 1, none⟩ (.string t113)).setCell ⟨gb117, 2, none⟩ (.string t114)).setCell ⟨gb117, 3, none⟩ (.bool false)).heap[gb106]? = some (.cells #[.string a0_0, .string a0_1, .string a0_2, .string a0_3, .string a0_4] 23 (0, 0))) := ⟨by (with_reducible repeat (first | refine blk_drewN ?_ _ | refine blk_drew ?_ | refine blk_alloc ?_ _)); refine blk_far ?_ NB106_117.out _; (with_reducible repeat (first | refine blk_drewN ?_ _ | refine blk_drew ?_ | refine blk_alloc ?_ _)); refine blk_far ?_ NB106_117.out _; (with_reducible repeat (first | refine blk_drewN ?_ _ | refine blk_drew ?_ | refine blk_alloc ?_ _)); refine blk_far ?_ NB106_117.out _; (with_reducible repeat (first | refine blk_drewN ?_ _ | refine blk_drew ?_ | refine blk_alloc ?_ _)); refine blk_far ?_ NB106_117.out _; (with_reducible repeat (first | refine blk_drewN ?_ _ | refine blk_drew ?_ | refine blk_alloc ?_ _)); refine blk_far ?_ NB106_116.out _; (with_reducible repeat (first | refine blk_drewN ?_ _ | refine blk_drew ?_ | refine blk_alloc ?_ _)); refine blk_far ?_ NB106_116.out _; (with_reducible repeat (first | refine blk_drewN ?_ _ | refine blk_drew ?_ | refine blk_alloc ?_ _)); refine blk_far ?_ NB106_116.out _; (with_reducible repeat (first | refine blk_drewN ?_ _ | refine blk_drew ?_ | refine blk_alloc ?_ _)); refine blk_far ?_ NB106_116.out _; (with_reducible repeat (first | refine blk_drewN ?_ _ | refine blk_drew ?_ | refine blk_alloc ?_ _)); exact BK106.out⟩
  have n1_ : Aside0 (((((((((w15.setCell ⟨gb116, 0, none⟩ (.string t108)).setCell ⟨gb116, 1, none⟩ (.string t109)).setCell ⟨gb116, 2, none⟩ (.string t110)).setCell ⟨gb116, 3, none⟩ (.bool false)).setCell ⟨gb117, 0, none⟩ (.string t112)).setCell ⟨gb117, 1, none⟩ (.string t113)).setCell ⟨gb117, 2, none⟩ (.string t114)).setCell ⟨gb117, 3, none⟩ (.bool false)).heap[gb107]? = some (.cells #[.string a1_0, .string a1_1, .string a1_2, .string a1_3, .string a1_4] 23 (0, 0))) := ⟨by (with_reducible repeat (first | refine blk_drewN ?_ _ | refine blk_drew ?_ | refine blk_alloc ?_ _)); refine blk_far ?_ NB107_117.out _; (with_reducible repeat (first | refine blk_drewN ?_ _ | refine blk_drew ?_ | refine blk_alloc ?_ _)); refine blk_far ?_ NB107_117.out _; (with_reducible repeat (first | refine blk_drewN ?_ _ | refine blk_drew ?_ | refine blk_alloc ?_ _)); refine blk_far ?_ NB107_117.out _; (with_reducible repeat (first | refine blk_drewN ?_ _ | refine blk_drew ?_ | refine blk_alloc ?_ _)); refine blk_far ?_ NB107_117.out _; (with_reducible repeat (first | refine blk_drewN ?_ _ | refine blk_drew ?_ | refine blk_alloc ?_ _)); refine blk_far ?_ NB107_116.out _; (with_reducible repeat (first | refine blk_drewN ?_ _ | refine blk_drew ?_ | refine blk_alloc ?_ _)); refine blk_far ?_ NB107_116.out _; (with_reducible repeat (first | refine blk_drewN ?_ _ | refine blk_drew ?_ | refine blk_alloc ?_ _)); refine blk_far ?_ NB107_116.out _; (with_reducible repeat (first | refine blk_drewN ?_ _ | refine blk_drew ?_ | refine blk_alloc ?_ _)); refine blk_far ?_ NB107_116.out _; (with_reducible repeat (first | refine blk_drewN ?_ _ | refine blk_drew ?_ | refine blk_alloc ?_ _)); exact BK107.out⟩
  have n2_ : Aside0 (((((((((w15.setCell ⟨gb116, 0, none⟩ (.string t108)).setCell ⟨gb116, 1, none⟩ (.string t109)).setCell ⟨gb116, 2, none⟩ (.string t110)).setCell ⟨gb116, 3, none⟩ (.bool false)).setCell ⟨gb117, 0, none⟩ (.string t112)).setCell ⟨gb117, 1, none⟩ (.string t113)).setCell ⟨gb117, 2, none⟩ (.string t114)).setCell ⟨gb117, 3, none⟩ (.bool false)).heap[gb116]? = some (.cells #[.string t108, .string t109, .string t110, .bool false] 33 (0, 0))) := ⟨by (with_reducible repeat (first | refine blk_drewN ?_ _ | refine blk_drew ?_ | refine blk_alloc ?_ _)); refine blk_far ?_ NB116_117.out _; (with_reducible repeat (first | refine blk_drewN ?_ _ | refine blk_drew ?_ | refine blk_alloc ?_ _)); refine blk_far ?_ NB116_117.out _; (with_reducible repeat (first | refine blk_drewN ?_ _ | refine blk_drew ?_ | refine blk_alloc ?_ _)); refine blk_far ?_ NB116_117.out _; (with_reducible repeat (first | refine blk_drewN ?_ _ | refine blk_drew ?_ | refine blk_alloc ?_ _)); refine blk_far ?_ NB116_117.out _; (with_reducible repeat (first | refine blk_drewN ?_ _ | refine blk_drew ?_ | refine blk_alloc ?_ _)); refine blk_put (cs := #[.string t108, .string t109, .string t110, .bool false]) ?_ 3 _ rfl; (with_reducible repeat (first | refine blk_drewN ?_ _ | refine blk_drew ?_ | refine blk_alloc ?_ _)); refine blk_put (cs := #[.string t108, .string t109, .string (⟨#[]⟩ : ByteArray), .bool false]) ?_ 2 _ rfl; (with_reducible repeat (first | refine blk_drewN ?_ _ | refine blk_drew ?_ | refine blk_alloc ?_ _)); refine blk_put (cs := #[.string t108, .string (⟨#[]⟩ : ByteArray), .string (⟨#[]⟩ : ByteArray), .bool false]) ?_ 1 _ rfl; (with_reducible repeat (first | refine blk_drewN ?_ _ | refine blk_drew ?_ | refine blk_alloc ?_ _)); refine blk_put (cs := #[.string (⟨#[]⟩ : ByteArray), .string (⟨#[]⟩ : ByteArray), .string (⟨#[]⟩ : ByteArray), .bool false]) ?_ 0 _ rfl; (with_reducible repeat (first | refine blk_drewN ?_ _ | refine blk_drew ?_ | refine blk_alloc ?_ _)); exact BK116.out⟩
  have n3_ : Aside0 (((((((((w15.setCell ⟨gb116, 0, none⟩ (.string t108)).setCell ⟨gb116, 1, none⟩ (.string t109)).setCell ⟨gb116, 2, none⟩ (.string t110)).setCell ⟨gb116, 3, none⟩ (.bool false)).setCell ⟨gb117, 0, none⟩ (.string t112)).setCell ⟨gb117, 1, none⟩ (.string t113)).setCell ⟨gb117, 2, none⟩ (.string t114)).setCell ⟨gb117, 3, none⟩ (.bool false)).heap[gb117]? = some (.cells #[.string t112, .string t113, .string t114, .bool false] 33 (0, 0))) := ⟨by (with_reducible repeat (first | refine blk_drewN ?_ _ | refine blk_drew ?_ | refine blk_alloc ?_ _)); refine blk_put (cs := #[.string t112, .string t113, .string t114, .bool false]) ?_ 3 _ rfl; (with_reducible repeat (first | refine blk_drewN ?_ _ | refine blk_drew ?_ | refine blk_alloc ?_ _)); refine blk_put (cs := #[.string t112, .string t113, .string (⟨#[]⟩ : ByteArray), .bool false]) ?_ 2 _ rfl; (with_reducible repeat (first | refine blk_drewN ?_ _ | refine blk_drew ?_ | refine blk_alloc ?_ _)); refine blk_put (cs := #[.string t112, .string (⟨#[]⟩ : ByteArray), .string (⟨#[]⟩ : ByteArray), .bool false]) ?_ 1 _ rfl; (with_reducible repeat (first | refine blk_drewN ?_ _ | refine blk_drew ?_ | refine blk_alloc ?_ _)); refine blk_put (cs := #[.string (⟨#[]⟩ : ByteArray), .string (⟨#[]⟩ : ByteArray), .string (⟨#[]⟩ : ByteArray), .bool false]) ?_ 0 _ rfl; (with_reducible repeat (first | refine blk_drewN ?_ _ | refine blk_drew ?_ | refine blk_alloc ?_ _)); refine blk_far ?_ NB117_116.out _; (with_reducible repeat (first | refine blk_drewN ?_ _ | refine blk_drew ?_ | refine blk_alloc ?_ _)); refine blk_far ?_ NB117_116.out _; (with_reducible repeat (first | refine blk_drewN ?_ _ | refine blk_drew ?_ | refine blk_alloc ?_ _)); refine blk_far ?_ NB117_116.out _; (with_reducible repeat (first | refine blk_drewN ?_ _ | refine blk_drew ?_ | refine blk_alloc ?_ _)); refine blk_far ?_ NB117_116.out _; (with_reducible repeat (first | refine blk_drewN ?_ _ | refine blk_drew ?_ | refine blk_alloc ?_ _)); exact BK117.out⟩
  have n4_ : Aside0 (Below w.heap.size w ((((((((w15.setCell ⟨gb116, 0, none⟩ (.string t108)).setCell ⟨gb116, 1, none⟩ (.string t109)).setCell ⟨gb116, 2, none⟩ (.string t110)).setCell ⟨gb116, 3, none⟩ (.bool false)).setCell ⟨gb117, 0, none⟩ (.string t112)).setCell ⟨gb117, 1, none⟩ (.string t113)).setCell ⟨gb117, 2, none⟩ (.string t114)).setCell ⟨gb117, 3, none⟩ (.bool false))) := ⟨by repeat (first | (with_reducible first | exact HB.out | apply below_alloc | apply pw_below_drewN | apply below_drew1 | refine below_set ?_ GE106.out | refine below_set ?_ GE107.out | refine below_set ?_ GE116.out | refine below_set ?_ GE117.out) | exact HB.out)⟩
  (try clear BK106)
  (try clear BK107)
  (try clear BK116)
  (try clear BK117)
  (try clear HB)
  generalize ((((((((w15.setCell ⟨gb116, 0, none⟩ (.string t108)).setCell ⟨gb116, 1, none⟩ (.string t109)).setCell ⟨gb116, 2, none⟩ (.string t110)).setCell ⟨gb116, 3, none⟩ (.bool false)).setCell ⟨gb117, 0, none⟩ (.string t112)).setCell ⟨gb117, 1, none⟩ (.string t113)).setCell ⟨gb117, 2, none⟩ (.string t114)).setCell ⟨gb117, 3, none⟩ (.bool false)) = w24 at n0_ n1_ n2_ n3_ n4_ ⊢
  have BK106 := n0_
  have BK107 := n1_
  have BK116 := n2_
  have BK117 := n3_
  have HB := n4_
  clear n0_ n1_ n2_ n3_ n4_
  have HS := Aside0.mk (S2.mk (w := w) BK116.out BK117.out HB.out)
  go_region_held3 (fun w' => w'.cell? ⟨gb116, 0, none⟩ = some (.string t108) ∧ w'.cell? ⟨gb116, 1, none⟩ = some (.string t109) ∧ w'.cell? ⟨gb116, 2, none⟩ = some (.string t110) ∧ w'.cell? ⟨gb116, 3, none⟩ = some (.bool false) ∧ w'.cell? ⟨gb117, 0, none⟩ = some (.string t112) ∧ w'.cell? ⟨gb117, 1, none⟩ = some (.string t113) ∧ w'.cell? ⟨gb117, 2, none⟩ = some (.string t114) ∧ w'.cell? ⟨gb117, 3, none⟩ = some (.bool false) ∧ S2' w gb116 gb117 33 33 (.string t108) (.string t109) (.string t110) (.bool false) (.string t112) (.string t113) (.string t114) (.bool false) w')
    (first | exact hkeep.out | exact HS.out | exact HS.out.drew | (go_keep))
    (first
      | (go_at_call 9; (with_reducible refine (HC.out _ ?_ ?_).mono ?_); (exact lay_below HL0.out (S2.all (show S2 w gb116 gb117 33 33 (.string t108) (.string t109) (.string t110) (.bool false) (.string t112) (.string t113) (.string t114) (.bool false) _ from ‹_ ∧ _›))); (exact lay_below HL1.out (S2.all (show S2 w gb116 gb117 33 33 (.string t108) (.string t109) (.string t110) (.bool false) (.string t112) (.string t113) (.string t114) (.bool false) _ from ‹_ ∧ _›))); rintro e w5 ⟨rfl, hb5⟩; have hkeep := Aside0.mk (S2.call (show S2 w gb116 gb117 33 33 (.string t108) (.string t109) (.string t110) (.bool false) (.string t112) (.string t113) (.string t114) (.bool false) _ from ‹_ ∧ _›) hb5); clear hb5)
      | (go_at_call 10; (with_reducible refine (equals_calls t108 t109 t110 t112 t113 t114 _).mono ?_); rintro e w5 ⟨rfl, hb5⟩; have hkeep := Aside0.mk (S2.call (show S2 w gb116 gb117 33 33 (.string t108) (.string t109) (.string t110) (.bool false) (.string t112) (.string t113) (.string t114) (.bool false) _ from ‹_ ∧ _›) hb5); clear hb5)
      | (go_at_call 11; (with_reducible refine (sel_calls t108 t109 t110 t112 t113 t114 false gb117 _ ?_ ?_ ?_ ?_).mono ?_); (exact blk_lt ((show S2 w gb116 gb117 33 33 (.string t108) (.string t109) (.string t110) (.bool false) (.string t112) (.string t113) (.string t114) (.bool false) _ from ‹_ ∧ _›)).2.2.2.2.2.2.2.2.2.1); (exact ((show S2 w gb116 gb117 33 33 (.string t108) (.string t109) (.string t110) (.bool false) (.string t112) (.string t113) (.string t114) (.bool false) _ from ‹_ ∧ _›)).2.2.2.2.1); (exact ((show S2 w gb116 gb117 33 33 (.string t108) (.string t109) (.string t110) (.bool false) (.string t112) (.string t113) (.string t114) (.bool false) _ from ‹_ ∧ _›)).2.2.2.2.2.1); (exact ((show S2 w gb116 gb117 33 33 (.string t108) (.string t109) (.string t110) (.bool false) (.string t112) (.string t113) (.string t114) (.bool false) _ from ‹_ ∧ _›)).2.2.2.2.2.2.1); rintro e w5 ⟨rfl, hb5⟩; have hkeep := Aside0.mk (S2.call (show S2 w gb116 gb117 33 33 (.string t108) (.string t109) (.string t110) (.bool false) (.string t112) (.string t113) (.string t114) (.bool false) _ from ‹_ ∧ _›) hb5); clear hb5))
  all_goals go_wp2
  all_goals go_ret3
  all_goals exact ⟨_, rfl, hkeep.out.all⟩

end Go.Proofs.YtfdgbgjbncakfaaDoor.HLess
