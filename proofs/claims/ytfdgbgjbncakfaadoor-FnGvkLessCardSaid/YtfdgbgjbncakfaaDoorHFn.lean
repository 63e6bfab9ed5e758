/- The law FnGvkLess returns true for every input: the order of groups, versions and kinds. (Its walk up to the ids was printed by stub.py.) -/
import Derived.Test.YtfdgbgjbncakfaaDoorProg
import Derived.Test.YtfdgbgjbncakfaaDoorHLaw0
import Derived.Below
import Derived.Deep.Draws
import Derived.Deep.AppendLies
import Derived.Maps.AppendAt
import Derived.OwnWalk
import Derived.Laws.BytesArg
import Derived.Laws.MakeOwn
import Derived.Laws.OwnMore
import Derived.Deep.OwnRows
import Derived.Tactics
import Derived.Lib.ConvBytes
import Derived.Laws.Slices
import Derived.WalkKit
import Derived.KernelRfl
import Derived.RowKit3
import Derived.Deep.LoopGhost
import Derived.Deep.QuietTactic
import Derived.BigQuiet
import Derived.WideLaws
import Derived.Deep.DeepCutAuto
import Derived.Deep.CutBlock
import Derived.Deep.RegionHeld3
import Derived.Laws.Rows
import Derived.Lib.AppendStr
import Derived.ArgAppend
import Derived.Laws.IdiomCopy
import Derived.OrdersHeld
import Derived.Laws.BitsLemmas
import Derived.RowKit
import Derived.Test.YtfdgbgjbncakfaaDoorWWords
import Derived.Test.YtfdgbgjbncakfaaDoorWLast
import Derived.Test.YtfdgbgjbncakfaaDoorWTab
import Derived.Test.YtfdgbgjbncakfaaDoorWFour
import Derived.Test.YtfdgbgjbncakfaaDoorWQPut
import Derived.Test.YtfdgbgjbncakfaaDoorWApart
import Derived.Test.YtfdgbgjbncakfaaDoorWArr
import Derived.Test.YtfdgbgjbncakfaaDoorWZeros
import Derived.Test.YtfdgbgjbncakfaaDoorWFoot
import Derived.Test.YtfdgbgjbncakfaaDoorWKept
import Derived.Test.YtfdgbgjbncakfaaDoorWShare
import Derived.Test.YtfdgbgjbncakfaaDoorWN
import Derived.Test.YtfdgbgjbncakfaaDoorWFootNe
import Derived.Test.YtfdgbgjbncakfaaDoorWAt
import Derived.Test.YtfdgbgjbncakfaaDoorWEqStruct
import Derived.Test.YtfdgbgjbncakfaaDoorWRepsOne
import Derived.Test.YtfdgbgjbncakfaaDoorWInv
import Derived.Test.YtfdgbgjbncakfaaDoorWInvWords
import Derived.Test.YtfdgbgjbncakfaaDoorWGuard
import Derived.Test.YtfdgbgjbncakfaaDoorWNEv
import Derived.Test.YtfdgbgjbncakfaaDoorWMore
import Derived.Test.YtfdgbgjbncakfaaDoorHLess
import Derived.Test.YtfdgbgjbncakfaaDoorHLessPure
namespace Go.Proofs.YtfdgbgjbncakfaaDoor.HFn
open Go.RowKit Go.Proofs.YtfdgbgjbncakfaaDoorW.PrintWords Go.Proofs.YtfdgbgjbncakfaaDoorW.PrintLast Go.Proofs.YtfdgbgjbncakfaaDoorW.PrintMore Go.Proofs.YtfdgbgjbncakfaaDoor.HOrd Go.Proofs.YtfdgbgjbncakfaaDoor.HLess Go.Proofs.YtfdgbgjbncakfaaDoor.HLaw Go.Proofs.YtfdgbgjbncakfaaDoor.HId Go.Proofs.YtfdgbgjbncakfaaDoor.Plain
attribute [local go_sem] max2_int min2_int max_two min_two max_three min_three max_four min_four   -- for this text's walks alone
set_option linter.unusedVariables false
set_option linter.unusedSimpArgs false
/-! ### laws_zzFits12: function 4: its contract by hand -/
def laws_zzFits12.f (a0_0 : ByteArray) (a0_1 : ByteArray) (a0_2 : ByteArray) (a0_3 : ByteArray) (a0_4 : ByteArray) : Option (Bool) := some (HLaw.fitsB a0_0 a0_1 a0_2 a0_3 a0_4)
theorem laws_zzFits12.calls (a0_0 : ByteArray) (a0_1 : ByteArray) (a0_2 : ByteArray) (a0_3 : ByteArray) (a0_4 : ByteArray) (r : Bool) (w : World) (h : laws_zzFits12.f a0_0 a0_1 a0_2 a0_3 a0_4 = some r) :
    Calls Tryd.prog 4 #[.agg #[.string a0_0, .string a0_1, .string a0_2, .string a0_3, .string a0_4]] w fun e w' => e = .returned (.bool r) ∧ Below w.heap.size w w' := by
  cases h; exact HLaw.fits_calls _ _ _ _ _ w
/-! ### laws_kyId: function 5: its contract by hand -/
def laws_kyId.f (k : Nat) (a0_0 : ByteArray) (a0_1 : ByteArray) (a0_2 : ByteArray) (a0_3 : ByteArray) (a0_4 : ByteArray) : Option (ByteArray × ByteArray × ByteArray × ByteArray × ByteArray) := HkyId.laws_kyId.f k a0_0 a0_1 a0_2 a0_3 a0_4
theorem laws_kyId.mono : ∀ a0_0 a0_1 a0_2 a0_3 a0_4 k, LeO (laws_kyId.f k a0_0 a0_1 a0_2 a0_3 a0_4) (laws_kyId.f (k + 1) a0_0 a0_1 a0_2 a0_3 a0_4) := HkyId.laws_kyId.mono
theorem laws_kyId.calls (k : Nat) (a0_0 : ByteArray) (a0_1 : ByteArray) (a0_2 : ByteArray) (a0_3 : ByteArray) (a0_4 : ByteArray) (r1 : ByteArray) (r2 : ByteArray) (r3 : ByteArray) (r4 : ByteArray) (r5 : ByteArray) (w : World) (h : laws_kyId.f k a0_0 a0_1 a0_2 a0_3 a0_4 = some (r1, r2, r3, r4, r5)) :
    Calls Tryd.prog 5 #[.agg #[.string a0_0, .string a0_1, .string a0_2, .string a0_3, .string a0_4]] w fun e w' => e = .returned (.agg #[.string r1, .string r2, .string r3, .string r4, .string r5]) ∧ Below w.heap.size w w' := by
  exact HkyId.laws_kyId.calls k a0_0 a0_1 a0_2 a0_3 a0_4 r1 r2 r3 r4 r5 w h
/-! ### laws_FnGvkLess: function 3 -/
def laws_FnGvkLess.j0 : Nat → Bool → ByteArray → ByteArray → ByteArray → ByteArray → ByteArray → ByteArray → ByteArray → ByteArray → ByteArray → ByteArray → ByteArray → ByteArray → ByteArray → ByteArray → ByteArray → Option (Bool)
  | 0, _, _, _, _, _, _, _, _, _, _, _, _, _, _, _, _ => none
  | k + 1, x36, x102000, x102001, x102002, x102003, x102004, x103000, x103001, x103002, x103003, x103004, x104000, x104001, x104002, x104003, x104004 => if x36 = true then (some true) else ((laws_kyId.f k x102000 x102001 x102002 x102003 x102004).bind fun bt107 => ((laws_kyId.f k x103000 x103001 x103002 x103003 x103004).bind fun bt112 => ((laws_kyId.f k x104000 x104001 x104002 x104003 x104004).bind fun bt117 => (some true))))
def laws_FnGvkLess.f (k : Nat) (a0_0 : ByteArray) (a0_1 : ByteArray) (a0_2 : ByteArray) (a0_3 : ByteArray) (a0_4 : ByteArray) (a1_0 : ByteArray) (a1_1 : ByteArray) (a1_2 : ByteArray) (a1_3 : ByteArray) (a1_4 : ByteArray) (a2_0 : ByteArray) (a2_1 : ByteArray) (a2_2 : ByteArray) (a2_3 : ByteArray) (a2_4 : ByteArray) : Option (Bool) := (laws_zzFits12.f a0_0 a0_1 a0_2 a0_3 a0_4).bind fun t104 => (if t104 = true then ((laws_zzFits12.f a1_0 a1_1 a1_2 a1_3 a1_4).bind fun t105 => (if t105 = true then ((laws_zzFits12.f a2_0 a2_1 a2_2 a2_3 a2_4).bind fun t106 => (laws_FnGvkLess.j0 k (!t106) a0_0 a0_1 a0_2 a0_3 a0_4 a1_0 a1_1 a1_2 a1_3 a1_4 a2_0 a2_1 a2_2 a2_3 a2_4)) else (laws_FnGvkLess.j0 k true a0_0 a0_1 a0_2 a0_3 a0_4 a1_0 a1_1 a1_2 a1_3 a1_4 a2_0 a2_1 a2_2 a2_3 a2_4))) else (laws_FnGvkLess.j0 k true a0_0 a0_1 a0_2 a0_3 a0_4 a1_0 a1_1 a1_2 a1_3 a1_4 a2_0 a2_1 a2_2 a2_3 a2_4))
theorem laws_FnGvkLess.mono_l : ∀ k, (∀ y0 y1 y2 y3 y4 y5 y6 y7 y8 y9 y10 y11 y12 y13 y14 y15, LeO (laws_FnGvkLess.j0 k y0 y1 y2 y3 y4 y5 y6 y7 y8 y9 y10 y11 y12 y13 y14 y15) (laws_FnGvkLess.j0 (k + 1) y0 y1 y2 y3 y4 y5 y6 y7 y8 y9 y10 y11 y12 y13 y14 y15))
  | 0 => fun _ _ _ _ _ _ _ _ _ _ _ _ _ _ _ _ r h => by simp [laws_FnGvkLess.j0] at h
  | k + 1 => by
    have ih0 := laws_FnGvkLess.mono_l k
    · intro y0 y1 y2 y3 y4 y5 y6 y7 y8 y9 y10 y11 y12 y13 y14 y15
      unfold laws_FnGvkLess.j0
      repeat' first
      | (with_reducible exact ih0 _ _ _ _ _ _ _ _ _ _ _ _ _ _ _ _)
      | (with_reducible exact laws_kyId.mono _ _ _ _ _ _)
      | (with_reducible exact LeO.refl _)
      | (with_reducible exact LeO.none _)
      | (with_reducible refine LeO.ite ?_ ?_)
      | (with_reducible refine LeO.bind ?_ (fun _ => ?_))
      | exact ih0 _ _ _ _ _ _ _ _ _ _ _ _ _ _ _ _
      | exact laws_kyId.mono _ _ _ _ _ _
      | exact LeO.none _
      | refine LeO.ite ?_ ?_
      | refine LeO.bind ?_ (fun _ => ?_)
theorem laws_FnGvkLess.mono : ∀ a0 a1 a2 a3 a4 a5 a6 a7 a8 a9 a10 a11 a12 a13 a14 k, LeO (laws_FnGvkLess.f k a0 a1 a2 a3 a4 a5 a6 a7 a8 a9 a10 a11 a12 a13 a14) (laws_FnGvkLess.f (k + 1) a0 a1 a2 a3 a4 a5 a6 a7 a8 a9 a10 a11 a12 a13 a14) := by
  intro a0 a1 a2 a3 a4 a5 a6 a7 a8 a9 a10 a11 a12 a13 a14 k
  have ih0 := laws_FnGvkLess.mono_l k
  unfold laws_FnGvkLess.f
  repeat' first
      | (with_reducible exact ih0 _ _ _ _ _ _ _ _ _ _ _ _ _ _ _ _)
      | (with_reducible exact laws_kyId.mono _ _ _ _ _ _)
      | (with_reducible exact LeO.refl _)
      | (with_reducible exact LeO.none _)
      | (with_reducible refine LeO.ite ?_ ?_)
      | (with_reducible refine LeO.bind ?_ (fun _ => ?_))
      | exact ih0 _ _ _ _ _ _ _ _ _ _ _ _ _ _ _ _
      | exact laws_kyId.mono _ _ _ _ _ _
      | exact LeO.none _
      | refine LeO.ite ?_ ?_
      | refine LeO.bind ?_ (fun _ => ?_)
def laws_FnGvkLess.T3 : Bool × List (List Nat × List Nat) := (true, [([], []), ([0], [0]), ([], []), ([2, 1], [2]), ([], []), ([4, 3], [4]), ([1, 5, 0, 1, 2, 3, 4, 5], [1]), ([3, 6, 0, 1, 2, 3, 4, 5, 6], [3]), ([5, 7, 0, 1, 2, 3, 4, 5, 6, 7], [5])])
def laws_FnGvkLess.B3 : List Nat := [0, 1, 0, 7, 0, 31, 63, 127, 255]
theorem laws_FnGvkLess.tab3 : rtab .any (opsOf Tryd.f3 3) = laws_FnGvkLess.T3 := by kernel_rfl
theorem laws_FnGvkLess.bits3 : waitsOk laws_FnGvkLess.T3.2 laws_FnGvkLess.B3 = true := by kernel_rfl
theorem id_ok {q : Nat} {a0 a1 a2 a3 a4 g v k n s : ByteArray} (h : laws_kyId.f q a0 a1 a2 a3 a4 = some (g, v, k, n, s)) (hz : ∀ x ∈ [a0, a1, a2, a3, a4], x.size ≤ 140737488351232) : IdOk g v k n s := by
  obtain ⟨g1, v1, k1, n1, s1, hok, he⟩ := id_ev a0 a1 a2 a3 a4 (hz _ (by simp)) (hz _ (by simp)) (hz _ (by simp)) (hz _ (by simp)) (hz _ (by simp))
  obtain ⟨p, hp⟩ := he.rounds
  obtain ⟨m, h1, h2⟩ := together (fun k => HkyId.laws_kyId.mono a0 a1 a2 a3 a4 k) (fun k => HkyId.laws_kyId.mono a0 a1 a2 a3 a4 k) ⟨q, h⟩ ⟨p, hp⟩
  have e := h1.symm.trans h2
  simp only [Option.some.injEq, Prod.mk.injEq] at e
  obtain ⟨rfl, rfl, rfl, rfl, rfl⟩ := e
  exact hok
theorem eqB_self (g v k : ByteArray) : eqB g v k g v k = true := by simp [eqB]
theorem eqB_false {g v k g' v' k' : ByteArray} (h : ¬ (g = g' ∧ v = v' ∧ k = k')) : eqB g v k g' v' k' = false := by
  cases e : eqB g v k g' v' k' with
  | false => rfl
  | true =>
    simp only [eqB, Bool.and_eq_true, beq_iff_eq] at e
    exact absurd ⟨toList_inj.1 e.1, toList_inj.1 e.2.1, toList_inj.1 e.2.2⟩ h
theorem ne_cases {g v k g' v' k' : ByteArray} (h : ¬ (g = g' ∧ v = v' ∧ k = k')) : ((g.toList == g'.toList) = false) ∨ ((g.toList == g'.toList) = true ∧ (v.toList == v'.toList) = false) ∨ ((g.toList == g'.toList) = true ∧ (v.toList == v'.toList) = true ∧ (k.toList == k'.toList) = false) := by
  cases h1 : (g.toList == g'.toList) with
  | false => exact .inl rfl
  | true =>
    cases h2 : (v.toList == v'.toList) with
    | false => exact .inr (.inl ⟨rfl, rfl⟩)
    | true =>
      cases h3 : (k.toList == k'.toList) with
      | false => exact .inr (.inr ⟨rfl, rfl, rfl⟩)
      | true => exact absurd ⟨toList_inj.1 (beq_iff_eq.1 h1), toList_inj.1 (beq_iff_eq.1 h2), toList_inj.1 (beq_iff_eq.1 h3)⟩ h
abbrev em : ByteArray := ⟨#[]⟩
theorem gc {g v k n s g' v' k' n' s' : ByteArray} (h : IdOk g v k n s) (h' : IdOk g' v' k' n' s') (w : World) (h0 : Lay 0 last w) (h1 : Lay 1 first w) :
    Calls Tryd.prog 6 #[.agg #[.string g, .string v, .string k, .string em, .string em], .agg #[.string g', .string v', .string k', .string em, .string em]] w (Three w (lessS g v k g' v' k') (eqB g v k g' v' k')) :=
  gen_calls g v k em em g' v' k' em em g v k g' v' k' w rfl rfl last first h0 h1 (fun w a b => HOrd.less_calls g v k g' v' k' last first w a b (not_last h.k) (not_first h.k) (not_last h'.k) (not_first h'.k) (id_small h).1 (id_small h).2.1 (id_small h).2.2 (id_small h').1 (id_small h').2.1 (id_small h').2.2)
set_option maxHeartbeats 8000000 in
set_option maxRecDepth 100000 in
theorem law_calls (k : Nat) (a0_0 : ByteArray) (a0_1 : ByteArray) (a0_2 : ByteArray) (a0_3 : ByteArray) (a0_4 : ByteArray) (a1_0 : ByteArray) (a1_1 : ByteArray) (a1_2 : ByteArray) (a1_3 : ByteArray) (a1_4 : ByteArray) (a2_0 : ByteArray) (a2_1 : ByteArray) (a2_2 : ByteArray) (a2_3 : ByteArray) (a2_4 : ByteArray) (r : Bool) (w : World) (hz : ∀ x ∈ [a0_0, a0_1, a0_2, a0_3, a0_4, a1_0, a1_1, a1_2, a1_3, a1_4, a2_0, a2_1, a2_2, a2_3, a2_4], x.size ≤ 140737488351232) (hl0 : Lay 0 last w) (hl1 : Lay 1 first w) (h : laws_FnGvkLess.f k a0_0 a0_1 a0_2 a0_3 a0_4 a1_0 a1_1 a1_2 a1_3 a1_4 a2_0 a2_1 a2_2 a2_3 a2_4 = some r) :
    Calls Tryd.prog 3 #[.agg #[.string a0_0, .string a0_1, .string a0_2, .string a0_3, .string a0_4], .agg #[.string a1_0, .string a1_1, .string a1_2, .string a1_3, .string a1_4], .agg #[.string a2_0, .string a2_1, .string a2_2, .string a2_3, .string a2_4]] w fun e w' => e = .returned (.bool r) ∧ Below w.heap.size w w' := by
  have HL0 := Aside0.mk hl0
  have HL1 := Aside0.mk hl1
  have HZ := Aside0.mk hz
  clear hl0 hl1 hz
  have hu23 := Tryd.underlying23
  have HB := Aside0.mk (Below.refl w.heap.size w)
  have H : ((laws_zzFits12.f a0_0 a0_1 a0_2 a0_3 a0_4).bind fun t104 => (if t104 = true then ((laws_zzFits12.f a1_0 a1_1 a1_2 a1_3 a1_4).bind fun t105 => (if t105 = true then ((laws_zzFits12.f a2_0 a2_1 a2_2 a2_3 a2_4).bind fun t106 => (laws_FnGvkLess.j0 k (!t106) a0_0 a0_1 a0_2 a0_3 a0_4 a1_0 a1_1 a1_2 a1_3 a1_4 a2_0 a2_1 a2_2 a2_3 a2_4)) else (laws_FnGvkLess.j0 k true a0_0 a0_1 a0_2 a0_3 a0_4 a1_0 a1_1 a1_2 a1_3 a1_4 a2_0 a2_1 a2_2 a2_3 a2_4))) else (laws_FnGvkLess.j0 k true a0_0 a0_1 a0_2 a0_3 a0_4 a1_0 a1_1 a1_2 a1_3 a1_4 a2_0 a2_1 a2_2 a2_3 a2_4))) = some r := h
  clear h
  have HC4 := Aside0.mk H
  clear H
  go_enter Tryd.func3, Tryd.ntmps3
  go_upto_region 1 with (first | ((with_reducible refine gate_dst (N := 3) rfl ?_); refine box_event ?hg (N := 3) ?hd (cs := #[.string a0_0, .string a0_1, .string a0_2, .string a0_3, .string a0_4]) (t := 23) ?hr ?_; (case hd => rfl); (case hg => rfl); (case hr => first | (go_simp; done) | (go_simp; rfl)); intro gb101 hg w5 hbox hb; have n0_ := Aside0.mk (below_step (by repeat (first | (with_reducible first | exact HB.out | apply below_alloc | apply pw_below_drewN | apply below_drew1) | exact HB.out)) hb); have n1_ := Aside0.mk (hbox); have n2_ := Aside0.mk ((by rw [hg]; exact (below_size (by repeat (first | (with_reducible first | exact HB.out | apply below_alloc | apply pw_below_drewN | apply below_drew1) | exact HB.out))) : w.heap.size ≤ gb101)); have n3_ := Aside0.mk ((by rw [hg]; exact (below_size (by repeat (first | (with_reducible first | exact HB.out | apply below_alloc | apply pw_below_drewN | apply below_drew1) | exact HB.out))) : w.heap.size ≤ gb101)); clear HB; have HB := n0_; have BK101 := n1_; have GW101 := n2_; have GE101 := n3_; clear n0_ n1_ n2_ n3_; clear hb hbox hg) | ((with_reducible refine gate_dst (N := 4) rfl ?_); refine box_event ?hg (N := 4) ?hd (cs := #[.string a1_0, .string a1_1, .string a1_2, .string a1_3, .string a1_4]) (t := 23) ?hr ?_; (case hd => rfl); (case hg => rfl); (case hr => first | (go_simp; done) | (go_simp; rfl)); intro gb102 hg w6 hbox hb; have n0_ := Aside0.mk (blk_below (g := gb101) (o := .cells #[.string a0_0, .string a0_1, .string a0_2, .string a0_3, .string a0_4] 23 (0, 0)) (by (with_reducible repeat (first | refine blk_drewN ?_ _ | refine blk_drew ?_ | refine blk_alloc ?_ _)); exact BK101.out) hb); have n1_ := Aside0.mk (below_step (by repeat (first | (with_reducible first | exact HB.out | apply below_alloc | apply pw_below_drewN | apply below_drew1 | refine below_set ?_ GE101.out) | exact HB.out)) hb); have n2_ := Aside0.mk (hbox); have n3_ := Aside0.mk ((by rw [hg]; exact (below_size (by repeat (first | (with_reducible first | exact HB.out | apply below_alloc | apply pw_below_drewN | apply below_drew1 | refine below_set ?_ GE101.out) | exact HB.out))) : w.heap.size ≤ gb102)); have n4_ := Aside0.mk ((by rw [hg]; exact (below_size (by repeat (first | (with_reducible first | exact HB.out | apply below_alloc | apply pw_below_drewN | apply below_drew1 | refine below_set ?_ GE101.out) | exact HB.out))) : w.heap.size ≤ gb102)); have n5_ := Aside0.mk ((by rw [hg]; exact Nat.ne_of_lt (blk_lt (g := gb101) (o := .cells #[.string a0_0, .string a0_1, .string a0_2, .string a0_3, .string a0_4] 23 (0, 0)) (by (with_reducible repeat (first | refine blk_drewN ?_ _ | refine blk_drew ?_ | refine blk_alloc ?_ _)); exact BK101.out)) : gb101 ≠ gb102)); have n6_ := Aside0.mk ((by rw [hg]; exact Nat.ne_of_gt (blk_lt (g := gb101) (o := .cells #[.string a0_0, .string a0_1, .string a0_2, .string a0_3, .string a0_4] 23 (0, 0)) (by (with_reducible repeat (first | refine blk_drewN ?_ _ | refine blk_drew ?_ | refine blk_alloc ?_ _)); exact BK101.out)) : gb102 ≠ gb101)); clear BK101; clear HB; have BK101 := n0_; have HB := n1_; have BK102 := n2_; have GW102 := n3_; have GE102 := n4_; have NB101_102 := n5_; have NB102_101 := n6_; clear n0_ n1_ n2_ n3_ n4_ n5_ n6_; clear hb hbox hg) | ((with_reducible refine gate_dst (N := 5) rfl ?_); refine box_event ?hg (N := 5) ?hd (cs := #[.string a2_0, .string a2_1, .string a2_2, .string a2_3, .string a2_4]) (t := 23) ?hr ?_; (case hd => rfl); (case hg => rfl); (case hr => first | (go_simp; done) | (go_simp; rfl)); intro gb103 hg w7 hbox hb; have n0_ := Aside0.mk (blk_below (g := gb101) (o := .cells #[.string a0_0, .string a0_1, .string a0_2, .string a0_3, .string a0_4] 23 (0, 0)) (by (with_reducible repeat (first | refine blk_drewN ?_ _ | refine blk_drew ?_ | refine blk_alloc ?_ _)); exact BK101.out) hb); have n1_ := Aside0.mk (blk_below (g := gb102) (o := .cells #[.string a1_0, .string a1_1, .string a1_2, .string a1_3, .string a1_4] 23 (0, 0)) (by (with_reducible repeat (first | refine blk_drewN ?_ _ | refine blk_drew ?_ | refine blk_alloc ?_ _)); exact BK102.out) hb); have n2_ := Aside0.mk (below_step (by repeat (first | (with_reducible first | exact HB.out | apply below_alloc | apply pw_below_drewN | apply below_drew1 | refine below_set ?_ GE101.out | refine below_set ?_ GE102.out) | exact HB.out)) hb); have n3_ := Aside0.mk (hbox); have n4_ := Aside0.mk ((by rw [hg]; exact (below_size (by repeat (first | (with_reducible first | exact HB.out | apply below_alloc | apply pw_below_drewN | apply below_drew1 | refine below_set ?_ GE101.out | refine below_set ?_ GE102.out) | exact HB.out))) : w.heap.size ≤ gb103)); have n5_ := Aside0.mk ((by rw [hg]; exact (below_size (by repeat (first | (with_reducible first | exact HB.out | apply below_alloc | apply pw_below_drewN | apply below_drew1 | refine below_set ?_ GE101.out | refine below_set ?_ GE102.out) | exact HB.out))) : w.heap.size ≤ gb103)); have n6_ := Aside0.mk ((by rw [hg]; exact Nat.ne_of_lt (blk_lt (g := gb101) (o := .cells #[.string a0_0, .string a0_1, .string a0_2, .string a0_3, .string a0_4] 23 (0, 0)) (by (with_reducible repeat (first | refine blk_drewN ?_ _ | refine blk_drew ?_ | refine blk_alloc ?_ _)); exact BK101.out)) : gb101 ≠ gb103)); have n7_ := Aside0.mk ((by rw [hg]; exact Nat.ne_of_gt (blk_lt (g := gb101) (o := .cells #[.string a0_0, .string a0_1, .string a0_2, .string a0_3, .string a0_4] 23 (0, 0)) (by (with_reducible repeat (first | refine blk_drewN ?_ _ | refine blk_drew ?_ | refine blk_alloc ?_ _)); exact BK101.out)) : gb103 ≠ gb101)); have n8_ := Aside0.mk ((by rw [hg]; exact Nat.ne_of_lt (blk_lt (g := gb102) (o := .cells #[.string a1_0, .string a1_1, .string a1_2, .string a1_3, .string a1_4] 23 (0, 0)) (by (with_reducible repeat (first | refine blk_drewN ?_ _ | refine blk_drew ?_ | refine blk_alloc ?_ _)); exact BK102.out)) : gb102 ≠ gb103)); have n9_ := Aside0.mk ((by rw [hg]; exact Nat.ne_of_gt (blk_lt (g := gb102) (o := .cells #[.string a1_0, .string a1_1, .string a1_2, .string a1_3, .string a1_4] 23 (0, 0)) (by (with_reducible repeat (first | refine blk_drewN ?_ _ | refine blk_drew ?_ | refine blk_alloc ?_ _)); exact BK102.out)) : gb103 ≠ gb102)); clear BK101; clear BK102; clear HB; have BK101 := n0_; have BK102 := n1_; have HB := n2_; have BK103 := n3_; have GW103 := n4_; have GE103 := n5_; have NB101_103 := n6_; have NB103_101 := n7_; have NB102_103 := n8_; have NB103_102 := n9_; clear n0_ n1_ n2_ n3_ n4_ n5_ n6_ n7_ n8_ n9_; clear hb hbox hg))
  (try simp only [Act.put, List.setIfInBounds_toArray, List.set_cons_zero, List.set_cons_succ])
  go_cut [36] (fun v36 wc => ∃ (kq : Nat) (x36_3 : Bool), v36 = .bool x36_3 ∧ Aside0 (laws_FnGvkLess.j0 kq x36_3 a0_0 a0_1 a0_2 a0_3 a0_4 a1_0 a1_1 a1_2 a1_3 a1_4 a2_0 a2_1 a2_2 a2_3 a2_4 = some r) ∧ Aside0 (kq ≤ k) ∧ Aside0 (wc.heap[gb101]? = some (.cells #[.string a0_0, .string a0_1, .string a0_2, .string a0_3, .string a0_4] 23 (0, 0))) ∧ Aside0 (wc.heap[gb102]? = some (.cells #[.string a1_0, .string a1_1, .string a1_2, .string a1_3, .string a1_4] 23 (0, 0))) ∧ Aside0 (wc.heap[gb103]? = some (.cells #[.string a2_0, .string a2_1, .string a2_2, .string a2_3, .string a2_4] 23 (0, 0))) ∧ Aside0 (Below w.heap.size w wc))
  case first =>
    have H := HC4.out
    clear HC4
    replace H := Option.bind_eq_some_iff.mp H
    obtain ⟨t104, A80, H⟩ := H
    replace H : (if t104 = true then ((laws_zzFits12.f a1_0 a1_1 a1_2 a1_3 a1_4).bind fun t105 => (if t105 = true then ((laws_zzFits12.f a2_0 a2_1 a2_2 a2_3 a2_4).bind fun t106 => (laws_FnGvkLess.j0 k (!t106) a0_0 a0_1 a0_2 a0_3 a0_4 a1_0 a1_1 a1_2 a1_3 a1_4 a2_0 a2_1 a2_2 a2_3 a2_4)) else (laws_FnGvkLess.j0 k true a0_0 a0_1 a0_2 a0_3 a0_4 a1_0 a1_1 a1_2 a1_3 a1_4 a2_0 a2_1 a2_2 a2_3 a2_4))) else (laws_FnGvkLess.j0 k true a0_0 a0_1 a0_2 a0_3 a0_4 a1_0 a1_1 a1_2 a1_3 a1_4 a2_0 a2_1 a2_2 a2_3 a2_4)) = some r := H
    have A8 := Aside0.mk A80
    clear A80
    by_cases c9 : t104 = true
    · subst c9
      have H1 : ((laws_zzFits12.f a1_0 a1_1 a1_2 a1_3 a1_4).bind fun t105 => (if t105 = true then ((laws_zzFits12.f a2_0 a2_1 a2_2 a2_3 a2_4).bind fun t106 => (laws_FnGvkLess.j0 k (!t106) a0_0 a0_1 a0_2 a0_3 a0_4 a1_0 a1_1 a1_2 a1_3 a1_4 a2_0 a2_1 a2_2 a2_3 a2_4)) else (laws_FnGvkLess.j0 k true a0_0 a0_1 a0_2 a0_3 a0_4 a1_0 a1_1 a1_2 a1_3 a1_4 a2_0 a2_1 a2_2 a2_3 a2_4))) = some r := by rw [if_pos rfl] at H; exact H
      clear H
      have H := H1
      clear H1
      replace H := Option.bind_eq_some_iff.mp H
      obtain ⟨t105, A100, H⟩ := H
      replace H : (if t105 = true then ((laws_zzFits12.f a2_0 a2_1 a2_2 a2_3 a2_4).bind fun t106 => (laws_FnGvkLess.j0 k (!t106) a0_0 a0_1 a0_2 a0_3 a0_4 a1_0 a1_1 a1_2 a1_3 a1_4 a2_0 a2_1 a2_2 a2_3 a2_4)) else (laws_FnGvkLess.j0 k true a0_0 a0_1 a0_2 a0_3 a0_4 a1_0 a1_1 a1_2 a1_3 a1_4 a2_0 a2_1 a2_2 a2_3 a2_4)) = some r := H
      have A10 := Aside0.mk A100
      clear A100
      by_cases c11 : t105 = true
      · subst c11
        have H1 : ((laws_zzFits12.f a2_0 a2_1 a2_2 a2_3 a2_4).bind fun t106 => (laws_FnGvkLess.j0 k (!t106) a0_0 a0_1 a0_2 a0_3 a0_4 a1_0 a1_1 a1_2 a1_3 a1_4 a2_0 a2_1 a2_2 a2_3 a2_4)) = some r := by rw [if_pos rfl] at H; exact H
        clear H
        have H := H1
        clear H1
        replace H := Option.bind_eq_some_iff.mp H
        obtain ⟨t106, A120, H⟩ := H
        replace H : (laws_FnGvkLess.j0 k (!t106) a0_0 a0_1 a0_2 a0_3 a0_4 a1_0 a1_1 a1_2 a1_3 a1_4 a2_0 a2_1 a2_2 a2_3 a2_4) = some r := H
        have A12 := Aside0.mk A120
        clear A120
        have H' := Aside0.mk H
        clear H
        have hnb13 := NB101_102.out
        have hnc13 := NB102_101.out
        have hnb14 := NB101_103.out
        have hnc14 := NB103_101.out
        have hcz15_0 : w7.cell? ⟨gb101, 0, none⟩ = some (.string a0_0) := (blk_cell BK101.out 0).trans rfl
        have hcz15_1 : w7.cell? ⟨gb101, 1, none⟩ = some (.string a0_1) := (blk_cell BK101.out 1).trans rfl
        have hcz15_2 : w7.cell? ⟨gb101, 2, none⟩ = some (.string a0_2) := (blk_cell BK101.out 2).trans rfl
        have hcz15_3 : w7.cell? ⟨gb101, 3, none⟩ = some (.string a0_3) := (blk_cell BK101.out 3).trans rfl
        have hcz15_4 : w7.cell? ⟨gb101, 4, none⟩ = some (.string a0_4) := (blk_cell BK101.out 4).trans rfl
        have hfz15_0 := blk_frozen BK101.out 0
        have hfz15_1 := blk_frozen BK101.out 1
        have hfz15_2 := blk_frozen BK101.out 2
        have hfz15_3 := blk_frozen BK101.out 3
        have hfz15_4 := blk_frozen BK101.out 4
        go_wp2_with (first | ((with_reducible refine gate_callee (f := 4) rfl ?_); refine goesL_ (some 25) rfl rfl Tryd.func4 (by kernel_rfl) rfl #[.agg #[.string a0_0, .string a0_1, .string a0_2, .string a0_3, .string a0_4]] rfl (by (try simp only [List.map_toArray, List.map_cons, List.map_nil]); first | done | rfl | (simp only [List.length_drop, List.length_take]; rfl)) ?_; (with_reducible refine (laws_zzFits12.calls a0_0 a0_1 a0_2 a0_3 a0_4 true _ A8.out).mono ?_); rintro e w16 ⟨rfl, hb⟩; refine ⟨_, rfl, ?_⟩; have n0_ := Aside0.mk (blk_below (g := gb101) (o := .cells #[.string a0_0, .string a0_1, .string a0_2, .string a0_3, .string a0_4] 23 (0, 0)) (by (with_reducible repeat (first | refine blk_drewN ?_ _ | refine blk_drew ?_ | refine blk_alloc ?_ _)); exact BK101.out) hb); have n1_ := Aside0.mk (blk_below (g := gb102) (o := .cells #[.string a1_0, .string a1_1, .string a1_2, .string a1_3, .string a1_4] 23 (0, 0)) (by (with_reducible repeat (first | refine blk_drewN ?_ _ | refine blk_drew ?_ | refine blk_alloc ?_ _)); exact BK102.out) hb); have n2_ := Aside0.mk (blk_below (g := gb103) (o := .cells #[.string a2_0, .string a2_1, .string a2_2, .string a2_3, .string a2_4] 23 (0, 0)) (by (with_reducible repeat (first | refine blk_drewN ?_ _ | refine blk_drew ?_ | refine blk_alloc ?_ _)); exact BK103.out) hb); have n3_ := Aside0.mk (below_step (by repeat (first | (with_reducible first | exact HB.out | apply below_alloc | apply pw_below_drewN | apply below_drew1 | refine below_set ?_ GE101.out | refine below_set ?_ GE102.out | refine below_set ?_ GE103.out) | exact HB.out)) hb); clear BK101; clear BK102; clear BK103; clear HB; have BK101 := n0_; have BK102 := n1_; have BK103 := n2_; have HB := n3_; clear n0_ n1_ n2_ n3_; (try clear hb); (try clear hb2); (try clear hk); (try clear hi); have hnb17 := NB102_103.out; have hnc17 := NB103_102.out; have hcz18_0 : w16.cell? ⟨gb102, 0, none⟩ = some (.string a1_0) := (blk_cell BK102.out 0).trans rfl; have hcz18_1 : w16.cell? ⟨gb102, 1, none⟩ = some (.string a1_1) := (blk_cell BK102.out 1).trans rfl; have hcz18_2 : w16.cell? ⟨gb102, 2, none⟩ = some (.string a1_2) := (blk_cell BK102.out 2).trans rfl; have hcz18_3 : w16.cell? ⟨gb102, 3, none⟩ = some (.string a1_3) := (blk_cell BK102.out 3).trans rfl; have hcz18_4 : w16.cell? ⟨gb102, 4, none⟩ = some (.string a1_4) := (blk_cell BK102.out 4).trans rfl; have hfz18_0 := blk_frozen BK102.out 0; have hfz18_1 := blk_frozen BK102.out 1; have hfz18_2 := blk_frozen BK102.out 2; have hfz18_3 := blk_frozen BK102.out 3; have hfz18_4 := blk_frozen BK102.out 4) | (go_at_call 4; (with_reducible refine (laws_zzFits12.calls a1_0 a1_1 a1_2 a1_3 a1_4 true _ A10.out).mono ?_); rintro e w19 ⟨rfl, hb⟩; have n0_ := Aside0.mk (blk_below (g := gb101) (o := .cells #[.string a0_0, .string a0_1, .string a0_2, .string a0_3, .string a0_4] 23 (0, 0)) (by (with_reducible repeat (first | refine blk_drewN ?_ _ | refine blk_drew ?_ | refine blk_alloc ?_ _)); exact BK101.out) hb); have n1_ := Aside0.mk (blk_below (g := gb102) (o := .cells #[.string a1_0, .string a1_1, .string a1_2, .string a1_3, .string a1_4] 23 (0, 0)) (by (with_reducible repeat (first | refine blk_drewN ?_ _ | refine blk_drew ?_ | refine blk_alloc ?_ _)); exact BK102.out) hb); have n2_ := Aside0.mk (blk_below (g := gb103) (o := .cells #[.string a2_0, .string a2_1, .string a2_2, .string a2_3, .string a2_4] 23 (0, 0)) (by (with_reducible repeat (first | refine blk_drewN ?_ _ | refine blk_drew ?_ | refine blk_alloc ?_ _)); exact BK103.out) hb); have n3_ := Aside0.mk (below_step (by repeat (first | (with_reducible first | exact HB.out | apply below_alloc | apply pw_below_drewN | apply below_drew1 | refine below_set ?_ GE101.out | refine below_set ?_ GE102.out | refine below_set ?_ GE103.out) | exact HB.out)) hb); clear BK101; clear BK102; clear BK103; clear HB; have BK101 := n0_; have BK102 := n1_; have BK103 := n2_; have HB := n3_; clear n0_ n1_ n2_ n3_; (try clear hb); (try clear hb2); (try clear hk); (try clear hi); have hcz20_0 : w19.cell? ⟨gb103, 0, none⟩ = some (.string a2_0) := (blk_cell BK103.out 0).trans rfl; have hcz20_1 : w19.cell? ⟨gb103, 1, none⟩ = some (.string a2_1) := (blk_cell BK103.out 1).trans rfl; have hcz20_2 : w19.cell? ⟨gb103, 2, none⟩ = some (.string a2_2) := (blk_cell BK103.out 2).trans rfl; have hcz20_3 : w19.cell? ⟨gb103, 3, none⟩ = some (.string a2_3) := (blk_cell BK103.out 3).trans rfl; have hcz20_4 : w19.cell? ⟨gb103, 4, none⟩ = some (.string a2_4) := (blk_cell BK103.out 4).trans rfl; have hfz20_0 := blk_frozen BK103.out 0; have hfz20_1 := blk_frozen BK103.out 1; have hfz20_2 := blk_frozen BK103.out 2; have hfz20_3 := blk_frozen BK103.out 3; have hfz20_4 := blk_frozen BK103.out 4) | (go_at_call 4; (with_reducible refine (laws_zzFits12.calls a2_0 a2_1 a2_2 a2_3 a2_4 t106 _ A12.out).mono ?_); rintro e w21 ⟨rfl, hb⟩; have n0_ := Aside0.mk (blk_below (g := gb101) (o := .cells #[.string a0_0, .string a0_1, .string a0_2, .string a0_3, .string a0_4] 23 (0, 0)) (by (with_reducible repeat (first | refine blk_drewN ?_ _ | refine blk_drew ?_ | refine blk_alloc ?_ _)); exact BK101.out) hb); have n1_ := Aside0.mk (blk_below (g := gb102) (o := .cells #[.string a1_0, .string a1_1, .string a1_2, .string a1_3, .string a1_4] 23 (0, 0)) (by (with_reducible repeat (first | refine blk_drewN ?_ _ | refine blk_drew ?_ | refine blk_alloc ?_ _)); exact BK102.out) hb); have n2_ := Aside0.mk (blk_below (g := gb103) (o := .cells #[.string a2_0, .string a2_1, .string a2_2, .string a2_3, .string a2_4] 23 (0, 0)) (by (with_reducible repeat (first | refine blk_drewN ?_ _ | refine blk_drew ?_ | refine blk_alloc ?_ _)); exact BK103.out) hb); have n3_ := Aside0.mk (below_step (by repeat (first | (with_reducible first | exact HB.out | apply below_alloc | apply pw_below_drewN | apply below_drew1 | refine below_set ?_ GE101.out | refine below_set ?_ GE102.out | refine below_set ?_ GE103.out) | exact HB.out)) hb); clear BK101; clear BK102; clear BK103; clear HB; have BK101 := n0_; have BK102 := n1_; have BK103 := n2_; have HB := n3_; clear n0_ n1_ n2_ n3_; (try clear hb); (try clear hb2); (try clear hk); (try clear hi)))
        go_meet
        case rel => exact ⟨_, (!t106), (by first | rfl | (simp; done) | (simp [*]; done)), H', ⟨by first | omega | exact Nat.le_refl _⟩, ⟨by (with_reducible repeat (first | refine blk_drewN ?_ _ | refine blk_drew ?_ | refine blk_alloc ?_ _)); exact BK101.out⟩, ⟨by (with_reducible repeat (first | refine blk_drewN ?_ _ | refine blk_drew ?_ | refine blk_alloc ?_ _)); exact BK102.out⟩, ⟨by (with_reducible repeat (first | refine blk_drewN ?_ _ | refine blk_drew ?_ | refine blk_alloc ?_ _)); exact BK103.out⟩, ⟨by repeat (first | (with_reducible first | exact HB.out | apply below_alloc | apply pw_below_drewN | apply below_drew1 | refine below_set ?_ GE101.out | refine below_set ?_ GE102.out | refine below_set ?_ GE103.out) | exact HB.out)⟩⟩
      · replace c11 := Bool.eq_false_iff.mpr c11
        subst c11
        have H1 : (laws_FnGvkLess.j0 k true a0_0 a0_1 a0_2 a0_3 a0_4 a1_0 a1_1 a1_2 a1_3 a1_4 a2_0 a2_1 a2_2 a2_3 a2_4) = some r := by rw [if_neg (show ¬ (false = true) by decide)] at H; exact H
        clear H
        have H := H1
        clear H1
        have H' := Aside0.mk H
        clear H
        have hnb22 := NB101_102.out
        have hnc22 := NB102_101.out
        have hnb23 := NB101_103.out
        have hnc23 := NB103_101.out
        have hcz24_0 : w7.cell? ⟨gb101, 0, none⟩ = some (.string a0_0) := (blk_cell BK101.out 0).trans rfl
        have hcz24_1 : w7.cell? ⟨gb101, 1, none⟩ = some (.string a0_1) := (blk_cell BK101.out 1).trans rfl
        have hcz24_2 : w7.cell? ⟨gb101, 2, none⟩ = some (.string a0_2) := (blk_cell BK101.out 2).trans rfl
        have hcz24_3 : w7.cell? ⟨gb101, 3, none⟩ = some (.string a0_3) := (blk_cell BK101.out 3).trans rfl
        have hcz24_4 : w7.cell? ⟨gb101, 4, none⟩ = some (.string a0_4) := (blk_cell BK101.out 4).trans rfl
        have hfz24_0 := blk_frozen BK101.out 0
        have hfz24_1 := blk_frozen BK101.out 1
        have hfz24_2 := blk_frozen BK101.out 2
        have hfz24_3 := blk_frozen BK101.out 3
        have hfz24_4 := blk_frozen BK101.out 4
        go_wp2_with (first | ((with_reducible refine gate_callee (f := 4) rfl ?_); refine goesL_ (some 25) rfl rfl Tryd.func4 (by kernel_rfl) rfl #[.agg #[.string a0_0, .string a0_1, .string a0_2, .string a0_3, .string a0_4]] rfl (by (try simp only [List.map_toArray, List.map_cons, List.map_nil]); first | done | rfl | (simp only [List.length_drop, List.length_take]; rfl)) ?_; (with_reducible refine (laws_zzFits12.calls a0_0 a0_1 a0_2 a0_3 a0_4 true _ A8.out).mono ?_); rintro e w25 ⟨rfl, hb⟩; refine ⟨_, rfl, ?_⟩; have n0_ := Aside0.mk (blk_below (g := gb101) (o := .cells #[.string a0_0, .string a0_1, .string a0_2, .string a0_3, .string a0_4] 23 (0, 0)) (by (with_reducible repeat (first | refine blk_drewN ?_ _ | refine blk_drew ?_ | refine blk_alloc ?_ _)); exact BK101.out) hb); have n1_ := Aside0.mk (blk_below (g := gb102) (o := .cells #[.string a1_0, .string a1_1, .string a1_2, .string a1_3, .string a1_4] 23 (0, 0)) (by (with_reducible repeat (first | refine blk_drewN ?_ _ | refine blk_drew ?_ | refine blk_alloc ?_ _)); exact BK102.out) hb); have n2_ := Aside0.mk (blk_below (g := gb103) (o := .cells #[.string a2_0, .string a2_1, .string a2_2, .string a2_3, .string a2_4] 23 (0, 0)) (by (with_reducible repeat (first | refine blk_drewN ?_ _ | refine blk_drew ?_ | refine blk_alloc ?_ _)); exact BK103.out) hb); have n3_ := Aside0.mk (below_step (by repeat (first | (with_reducible first | exact HB.out | apply below_alloc | apply pw_below_drewN | apply below_drew1 | refine below_set ?_ GE101.out | refine below_set ?_ GE102.out | refine below_set ?_ GE103.out) | exact HB.out)) hb); clear BK101; clear BK102; clear BK103; clear HB; have BK101 := n0_; have BK102 := n1_; have BK103 := n2_; have HB := n3_; clear n0_ n1_ n2_ n3_; (try clear hb); (try clear hb2); (try clear hk); (try clear hi); have hnb26 := NB102_103.out; have hnc26 := NB103_102.out; have hcz27_0 : w25.cell? ⟨gb102, 0, none⟩ = some (.string a1_0) := (blk_cell BK102.out 0).trans rfl; have hcz27_1 : w25.cell? ⟨gb102, 1, none⟩ = some (.string a1_1) := (blk_cell BK102.out 1).trans rfl; have hcz27_2 : w25.cell? ⟨gb102, 2, none⟩ = some (.string a1_2) := (blk_cell BK102.out 2).trans rfl; have hcz27_3 : w25.cell? ⟨gb102, 3, none⟩ = some (.string a1_3) := (blk_cell BK102.out 3).trans rfl; have hcz27_4 : w25.cell? ⟨gb102, 4, none⟩ = some (.string a1_4) := (blk_cell BK102.out 4).trans rfl; have hfz27_0 := blk_frozen BK102.out 0; have hfz27_1 := blk_frozen BK102.out 1; have hfz27_2 := blk_frozen BK102.out 2; have hfz27_3 := blk_frozen BK102.out 3; have hfz27_4 := blk_frozen BK102.out 4) | (go_at_call 4; (with_reducible refine (laws_zzFits12.calls a1_0 a1_1 a1_2 a1_3 a1_4 false _ A10.out).mono ?_); rintro e w28 ⟨rfl, hb⟩; have n0_ := Aside0.mk (blk_below (g := gb101) (o := .cells #[.string a0_0, .string a0_1, .string a0_2, .string a0_3, .string a0_4] 23 (0, 0)) (by (with_reducible repeat (first | refine blk_drewN ?_ _ | refine blk_drew ?_ | refine blk_alloc ?_ _)); exact BK101.out) hb); have n1_ := Aside0.mk (blk_below (g := gb102) (o := .cells #[.string a1_0, .string a1_1, .string a1_2, .string a1_3, .string a1_4] 23 (0, 0)) (by (with_reducible repeat (first | refine blk_drewN ?_ _ | refine blk_drew ?_ | refine blk_alloc ?_ _)); exact BK102.out) hb); have n2_ := Aside0.mk (blk_below (g := gb103) (o := .cells #[.string a2_0, .string a2_1, .string a2_2, .string a2_3, .string a2_4] 23 (0, 0)) (by (with_reducible repeat (first | refine blk_drewN ?_ _ | refine blk_drew ?_ | refine blk_alloc ?_ _)); exact BK103.out) hb); have n3_ := Aside0.mk (below_step (by repeat (first | (with_reducible first | exact HB.out | apply below_alloc | apply pw_below_drewN | apply below_drew1 | refine below_set ?_ GE101.out | refine below_set ?_ GE102.out | refine below_set ?_ GE103.out) | exact HB.out)) hb); clear BK101; clear BK102; clear BK103; clear HB; have BK101 := n0_; have BK102 := n1_; have BK103 := n2_; have HB := n3_; clear n0_ n1_ n2_ n3_; (try clear hb); (try clear hb2); (try clear hk); (try clear hi)))
        go_meet
        case rel => exact ⟨_, (true), (by first | rfl | (simp; done) | (simp [*]; done)), H', ⟨by first | omega | exact Nat.le_refl _⟩, ⟨by (with_reducible repeat (first | refine blk_drewN ?_ _ | refine blk_drew ?_ | refine blk_alloc ?_ _)); exact BK101.out⟩, ⟨by (with_reducible repeat (first | refine blk_drewN ?_ _ | refine blk_drew ?_ | refine blk_alloc ?_ _)); exact BK102.out⟩, ⟨by (with_reducible repeat (first | refine blk_drewN ?_ _ | refine blk_drew ?_ | refine blk_alloc ?_ _)); exact BK103.out⟩, ⟨by repeat (first | (with_reducible first | exact HB.out | apply below_alloc | apply pw_below_drewN | apply below_drew1 | refine below_set ?_ GE101.out | refine below_set ?_ GE102.out | refine below_set ?_ GE103.out) | exact HB.out)⟩⟩
    · replace c9 := Bool.eq_false_iff.mpr c9
      subst c9
      have H1 : (laws_FnGvkLess.j0 k true a0_0 a0_1 a0_2 a0_3 a0_4 a1_0 a1_1 a1_2 a1_3 a1_4 a2_0 a2_1 a2_2 a2_3 a2_4) = some r := by rw [if_neg (show ¬ (false = true) by decide)] at H; exact H
      clear H
      have H := H1
      clear H1
      have H' := Aside0.mk H
      clear H
      have hnb29 := NB101_102.out
      have hnc29 := NB102_101.out
      have hnb30 := NB101_103.out
      have hnc30 := NB103_101.out
      have hcz31_0 : w7.cell? ⟨gb101, 0, none⟩ = some (.string a0_0) := (blk_cell BK101.out 0).trans rfl
      have hcz31_1 : w7.cell? ⟨gb101, 1, none⟩ = some (.string a0_1) := (blk_cell BK101.out 1).trans rfl
      have hcz31_2 : w7.cell? ⟨gb101, 2, none⟩ = some (.string a0_2) := (blk_cell BK101.out 2).trans rfl
      have hcz31_3 : w7.cell? ⟨gb101, 3, none⟩ = some (.string a0_3) := (blk_cell BK101.out 3).trans rfl
      have hcz31_4 : w7.cell? ⟨gb101, 4, none⟩ = some (.string a0_4) := (blk_cell BK101.out 4).trans rfl
      have hfz31_0 := blk_frozen BK101.out 0
      have hfz31_1 := blk_frozen BK101.out 1
      have hfz31_2 := blk_frozen BK101.out 2
      have hfz31_3 := blk_frozen BK101.out 3
      have hfz31_4 := blk_frozen BK101.out 4
      go_wp2_with (first | ((with_reducible refine gate_callee (f := 4) rfl ?_); refine goesL_ (some 25) rfl rfl Tryd.func4 (by kernel_rfl) rfl #[.agg #[.string a0_0, .string a0_1, .string a0_2, .string a0_3, .string a0_4]] rfl (by (try simp only [List.map_toArray, List.map_cons, List.map_nil]); first | done | rfl | (simp only [List.length_drop, List.length_take]; rfl)) ?_; (with_reducible refine (laws_zzFits12.calls a0_0 a0_1 a0_2 a0_3 a0_4 false _ A8.out).mono ?_); rintro e w32 ⟨rfl, hb⟩; refine ⟨_, rfl, ?_⟩; have n0_ := Aside0.mk (blk_below (g := gb101) (o := .cells #[.string a0_0, .string a0_1, .string a0_2, .string a0_3, .string a0_4] 23 (0, 0)) (by (with_reducible repeat (first | refine blk_drewN ?_ _ | refine blk_drew ?_ | refine blk_alloc ?_ _)); exact BK101.out) hb); have n1_ := Aside0.mk (blk_below (g := gb102) (o := .cells #[.string a1_0, .string a1_1, .string a1_2, .string a1_3, .string a1_4] 23 (0, 0)) (by (with_reducible repeat (first | refine blk_drewN ?_ _ | refine blk_drew ?_ | refine blk_alloc ?_ _)); exact BK102.out) hb); have n2_ := Aside0.mk (blk_below (g := gb103) (o := .cells #[.string a2_0, .string a2_1, .string a2_2, .string a2_3, .string a2_4] 23 (0, 0)) (by (with_reducible repeat (first | refine blk_drewN ?_ _ | refine blk_drew ?_ | refine blk_alloc ?_ _)); exact BK103.out) hb); have n3_ := Aside0.mk (below_step (by repeat (first | (with_reducible first | exact HB.out | apply below_alloc | apply pw_below_drewN | apply below_drew1 | refine below_set ?_ GE101.out | refine below_set ?_ GE102.out | refine below_set ?_ GE103.out) | exact HB.out)) hb); clear BK101; clear BK102; clear BK103; clear HB; have BK101 := n0_; have BK102 := n1_; have BK103 := n2_; have HB := n3_; clear n0_ n1_ n2_ n3_; (try clear hb); (try clear hb2); (try clear hk); (try clear hi)))
      go_meet
      case rel => exact ⟨_, (true), (by first | rfl | (simp; done) | (simp [*]; done)), H', ⟨by first | omega | exact Nat.le_refl _⟩, ⟨by (with_reducible repeat (first | refine blk_drewN ?_ _ | refine blk_drew ?_ | refine blk_alloc ?_ _)); exact BK101.out⟩, ⟨by (with_reducible repeat (first | refine blk_drewN ?_ _ | refine blk_drew ?_ | refine blk_alloc ?_ _)); exact BK102.out⟩, ⟨by (with_reducible repeat (first | refine blk_drewN ?_ _ | refine blk_drew ?_ | refine blk_alloc ?_ _)); exact BK103.out⟩, ⟨by repeat (first | (with_reducible first | exact HB.out | apply below_alloc | apply pw_below_drewN | apply below_drew1 | refine below_set ?_ GE101.out | refine below_set ?_ GE102.out | refine below_set ?_ GE103.out) | exact HB.out)⟩⟩
  case rest =>
    clear HC4
    try clear c1
    try clear c2
    try clear p2
    try clear c3
    try clear c4
    try clear c9
    try clear c11
    try clear c13
    try clear c14
    try clear c17
    try clear c22
    try clear c23
    try clear c26
    try clear c29
    try clear c30
    try clear hcz15_0
    try clear hcz15_1
    try clear hcz15_2
    try clear hcz15_3
    try clear hcz15_4
    try clear hcz18_0
    try clear hcz18_1
    try clear hcz18_2
    try clear hcz18_3
    try clear hcz18_4
    try clear hcz20_0
    try clear hcz20_1
    try clear hcz20_2
    try clear hcz20_3
    try clear hcz20_4
    try clear hcz24_0
    try clear hcz24_1
    try clear hcz24_2
    try clear hcz24_3
    try clear hcz24_4
    try clear hcz27_0
    try clear hcz27_1
    try clear hcz27_2
    try clear hcz27_3
    try clear hcz27_4
    try clear hcz31_0
    try clear hcz31_1
    try clear hcz31_2
    try clear hcz31_3
    try clear hcz31_4
    try clear hfz15_0
    try clear hfz15_1
    try clear hfz15_2
    try clear hfz15_3
    try clear hfz15_4
    try clear hfz18_0
    try clear hfz18_1
    try clear hfz18_2
    try clear hfz18_3
    try clear hfz18_4
    try clear hfz20_0
    try clear hfz20_1
    try clear hfz20_2
    try clear hfz20_3
    try clear hfz20_4
    try clear hfz24_0
    try clear hfz24_1
    try clear hfz24_2
    try clear hfz24_3
    try clear hfz24_4
    try clear hfz27_0
    try clear hfz27_1
    try clear hfz27_2
    try clear hfz27_3
    try clear hfz27_4
    try clear hfz31_0
    try clear hfz31_1
    try clear hfz31_2
    try clear hfz31_3
    try clear hfz31_4
    obtain ⟨kq, x36_3, rfl, HA, HJ3, BK101, BK102, BK103, HB⟩ := hcut
    cases kq with
    | zero => exact absurd HA.out (by simp [laws_FnGvkLess.j0])
    | succ kj3 =>
      have H := HA.out
      clear HA
      simp only [laws_FnGvkLess.j0] at H
      by_cases c33 : x36_3 = true
      · subst c33
        have H1 : (some true) = some r := by rw [if_pos rfl] at H; exact H
        clear H
        have H := H1
        clear H1
        obtain rfl := Option.some.inj H
        go_wp2
        go_ret
        exact ⟨by first | rfl | (simp [errW_none, errW_some] <;> rfl) | (simp [*, errW_none, errW_some] <;> rfl), by repeat (first | (with_reducible first | exact HB.out | apply below_alloc | apply pw_below_drewN | apply below_drew1 | refine below_set ?_ GE101.out | refine below_set ?_ GE102.out | refine below_set ?_ GE103.out) | exact HB.out)⟩
      · replace c33 := Bool.eq_false_iff.mpr c33
        subst c33
        have H1 : ((laws_kyId.f kj3 a0_0 a0_1 a0_2 a0_3 a0_4).bind fun bt107 => ((laws_kyId.f kj3 a1_0 a1_1 a1_2 a1_3 a1_4).bind fun bt112 => ((laws_kyId.f kj3 a2_0 a2_1 a2_2 a2_3 a2_4).bind fun bt117 => (some true)))) = some r := by rw [if_neg (show ¬ (false = true) by decide)] at H; exact H
        clear H
        have H := H1
        clear H1
        replace H := Option.bind_eq_some_iff.mp H
        obtain ⟨⟨t107, t108, t109, t110, t111⟩, A340, H⟩ := H
        replace H : ((laws_kyId.f kj3 a1_0 a1_1 a1_2 a1_3 a1_4).bind fun bt112 => ((laws_kyId.f kj3 a2_0 a2_1 a2_2 a2_3 a2_4).bind fun bt117 => (some true))) = some r := H
        have A34 := Aside0.mk A340
        clear A340
        replace H := Option.bind_eq_some_iff.mp H
        obtain ⟨⟨t112, t113, t114, t115, t116⟩, A350, H⟩ := H
        replace H : ((laws_kyId.f kj3 a2_0 a2_1 a2_2 a2_3 a2_4).bind fun bt117 => (some true)) = some r := H
        have A35 := Aside0.mk A350
        clear A350
        replace H := Option.bind_eq_some_iff.mp H
        obtain ⟨⟨t117, t118, t119, t120, t121⟩, A360, H⟩ := H
        replace H : (some true) = some r := H
        have A36 := Aside0.mk A360
        clear A360
        obtain rfl := Option.some.inj H
        try go_wp2
        have n0_ := Aside0.mk (blk_drew BK101.out)
        have n1_ := Aside0.mk (blk_drew BK102.out)
        have n2_ := Aside0.mk (blk_drew BK103.out)
        have n3_ := Aside0.mk (below_drew1 HB.out)
        clear BK101
        clear BK102
        clear BK103
        clear HB
        have BK101 := n0_
        have BK102 := n1_
        have BK103 := n2_
        have HB := n3_
        clear n0_ n1_ n2_ n3_
        refine start_ (n := 9) (S := fun w' => w'.cell? ⟨gb101, 0, none⟩ = some (.string a0_0) ∧ w'.cell? ⟨gb101, 1, none⟩ = some (.string a0_1) ∧ w'.cell? ⟨gb101, 2, none⟩ = some (.string a0_2) ∧ w'.cell? ⟨gb101, 3, none⟩ = some (.string a0_3) ∧ w'.cell? ⟨gb101, 4, none⟩ = some (.string a0_4) ∧ w'.cell? ⟨gb102, 0, none⟩ = some (.string a1_0) ∧ w'.cell? ⟨gb102, 1, none⟩ = some (.string a1_1) ∧ w'.cell? ⟨gb102, 2, none⟩ = some (.string a1_2) ∧ w'.cell? ⟨gb102, 3, none⟩ = some (.string a1_3) ∧ w'.cell? ⟨gb102, 4, none⟩ = some (.string a1_4) ∧ w'.cell? ⟨gb103, 0, none⟩ = some (.string a2_0) ∧ w'.cell? ⟨gb103, 1, none⟩ = some (.string a2_1) ∧ w'.cell? ⟨gb103, 2, none⟩ = some (.string a2_2) ∧ w'.cell? ⟨gb103, 3, none⟩ = some (.string a2_3) ∧ w'.cell? ⟨gb103, 4, none⟩ = some (.string a2_4)) (ds := [6, 7, 8]) #[false, false, false, false, false, false, false, false, false] (by kernel_rfl) rfl rfl ⟨(blk_cell BK101.out 0).trans rfl, (blk_cell BK101.out 1).trans rfl, (blk_cell BK101.out 2).trans rfl, (blk_cell BK101.out 3).trans rfl, (blk_cell BK101.out 4).trans rfl, (blk_cell BK102.out 0).trans rfl, (blk_cell BK102.out 1).trans rfl, (blk_cell BK102.out 2).trans rfl, (blk_cell BK102.out 3).trans rfl, (blk_cell BK102.out 4).trans rfl, (blk_cell BK103.out 0).trans rfl, (blk_cell BK103.out 1).trans rfl, (blk_cell BK103.out 2).trans rfl, (blk_cell BK103.out 3).trans rfl, (blk_cell BK103.out 4).trans rfl⟩ (fun hHeld => ?_); refine with_tabW laws_FnGvkLess.tab3 laws_FnGvkLess.bits3 (fun HT_ HW_ => ?_)
        generalize wc.drew = w37 at BK101 BK102 BK103 HB hHeld ⊢
        refine take_ (i := 0) (N := some 37) (v := ?_) (a' := ?_) #[true, false, false, false, false, false, false, false, false] rfl rfl (take_ofW HT_.out HW_.out (by kernel_rfl)) (fun _ _ _ h => h) (Or.inl ⟨by rfl, ?_⟩) hHeld ?_ ?_
        rotate_left
        · rintro w' ⟨s0, s1, s2, s3, s4, s5, s6, s7, s8, s9, s10, s11, s12, s13, s14⟩
          go_simp
          with_reducible rfl
        rotate_left
        · simp only [Act.put, List.setIfInBounds_toArray, List.set_cons_zero, List.set_cons_succ, i64_w, i32_w]
          rfl
        refine take_ (i := 2) (N := some 39) (v := ?_) (a' := ?_) #[true, false, true, false, false, false, false, false, false] rfl rfl (take_ofW HT_.out HW_.out (by kernel_rfl)) (fun _ _ _ h => h) (Or.inl ⟨by rfl, ?_⟩) hHeld ?_ ?_
        rotate_left
        · rintro w' ⟨s0, s1, s2, s3, s4, s5, s6, s7, s8, s9, s10, s11, s12, s13, s14⟩
          go_simp
          with_reducible rfl
        rotate_left
        · simp only [Act.put, List.setIfInBounds_toArray, List.set_cons_zero, List.set_cons_succ, i64_w, i32_w]
          rfl
        refine take_ (i := 4) (N := some 41) (v := ?_) (a' := ?_) #[true, false, true, false, true, false, false, false, false] rfl rfl (take_ofW HT_.out HW_.out (by kernel_rfl)) (fun _ _ _ h => h) (Or.inl ⟨by rfl, ?_⟩) hHeld ?_ ?_
        rotate_left
        · rintro w' ⟨s0, s1, s2, s3, s4, s5, s6, s7, s8, s9, s10, s11, s12, s13, s14⟩
          go_simp
          with_reducible rfl
        rotate_left
        · simp only [Act.put, List.setIfInBounds_toArray, List.set_cons_zero, List.set_cons_succ, i64_w, i32_w]
          rfl
        refine one_ (i := 1) (N := some 38) #[true, true, true, false, true, false, false, false, false] rfl rfl (one_of HT_.out (by kernel_rfl)) (by decide) (fun K hK => ?_)
        refine goes_ Tryd.func5 (by kernel_rfl) rfl #[.agg #[.string a0_0, .string a0_1, .string a0_2, .string a0_3, .string a0_4]] (by rfl) rfl rfl (by (try simp only [List.map_toArray, List.map_cons, List.map_nil]); first | done | rfl | (simp only [List.length_drop, List.length_take]; rfl)) ?_
        with_reducible refine (laws_kyId.calls kj3 a0_0 a0_1 a0_2 a0_3 a0_4 t107 t108 t109 t110 t111 _ A34.out).mono ?_
        rintro e w38 ⟨rfl, hb⟩
        refine ⟨_, rfl, ?_⟩
        have n0_ := Aside0.mk (blk_below (g := gb101) (o := .cells #[.string a0_0, .string a0_1, .string a0_2, .string a0_3, .string a0_4] 23 (0, 0)) (by (with_reducible repeat (first | refine blk_drewN ?_ _ | refine blk_drew ?_ | refine blk_alloc ?_ _)); exact BK101.out) hb)
        have n1_ := Aside0.mk (blk_below (g := gb102) (o := .cells #[.string a1_0, .string a1_1, .string a1_2, .string a1_3, .string a1_4] 23 (0, 0)) (by (with_reducible repeat (first | refine blk_drewN ?_ _ | refine blk_drew ?_ | refine blk_alloc ?_ _)); exact BK102.out) hb)
        have n2_ := Aside0.mk (blk_below (g := gb103) (o := .cells #[.string a2_0, .string a2_1, .string a2_2, .string a2_3, .string a2_4] 23 (0, 0)) (by (with_reducible repeat (first | refine blk_drewN ?_ _ | refine blk_drew ?_ | refine blk_alloc ?_ _)); exact BK103.out) hb)
        have n3_ := Aside0.mk (below_step (by repeat (first | (with_reducible first | exact HB.out | apply below_alloc | apply pw_below_drewN | apply below_drew1 | refine below_set ?_ GE101.out | refine below_set ?_ GE102.out | refine below_set ?_ GE103.out) | exact HB.out)) hb)
        clear BK101
        clear BK102
        clear BK103
        clear HB
        have BK101 := n0_
        have BK102 := n1_
        have BK103 := n2_
        have HB := n3_
        clear n0_ n1_ n2_ n3_
        (try clear hb)
        (try clear hb2)
        (try clear hk)
        (try clear hi)
        refine hK.out _ _ ⟨(blk_cell BK101.out 0).trans rfl, (blk_cell BK101.out 1).trans rfl, (blk_cell BK101.out 2).trans rfl, (blk_cell BK101.out 3).trans rfl, (blk_cell BK101.out 4).trans rfl, (blk_cell BK102.out 0).trans rfl, (blk_cell BK102.out 1).trans rfl, (blk_cell BK102.out 2).trans rfl, (blk_cell BK102.out 3).trans rfl, (blk_cell BK102.out 4).trans rfl, (blk_cell BK103.out 0).trans rfl, (blk_cell BK103.out 1).trans rfl, (blk_cell BK103.out 2).trans rfl, (blk_cell BK103.out 3).trans rfl, (blk_cell BK103.out 4).trans rfl⟩ (fun hHeld => ?_)
        clear hK K
        refine norm_ (a' := ?_) ?_ ?_
        rotate_left
        · show Act.put _ (some 38) _ = _
          simp only [Act.put, List.setIfInBounds_toArray, List.set_cons_zero, List.set_cons_succ, i64_w, i32_w]
          rfl
        refine one_ (i := 3) (N := some 40) #[true, true, true, true, true, false, false, false, false] rfl rfl (one_of HT_.out (by kernel_rfl)) (by decide) (fun K hK => ?_)
        refine goes_ Tryd.func5 (by kernel_rfl) rfl #[.agg #[.string a1_0, .string a1_1, .string a1_2, .string a1_3, .string a1_4]] (by rfl) rfl rfl (by (try simp only [List.map_toArray, List.map_cons, List.map_nil]); first | done | rfl | (simp only [List.length_drop, List.length_take]; rfl)) ?_
        with_reducible refine (laws_kyId.calls kj3 a1_0 a1_1 a1_2 a1_3 a1_4 t112 t113 t114 t115 t116 _ A35.out).mono ?_
        rintro e w39 ⟨rfl, hb⟩
        refine ⟨_, rfl, ?_⟩
        have n0_ := Aside0.mk (blk_below (g := gb101) (o := .cells #[.string a0_0, .string a0_1, .string a0_2, .string a0_3, .string a0_4] 23 (0, 0)) (by (with_reducible repeat (first | refine blk_drewN ?_ _ | refine blk_drew ?_ | refine blk_alloc ?_ _)); exact BK101.out) hb)
        have n1_ := Aside0.mk (blk_below (g := gb102) (o := .cells #[.string a1_0, .string a1_1, .string a1_2, .string a1_3, .string a1_4] 23 (0, 0)) (by (with_reducible repeat (first | refine blk_drewN ?_ _ | refine blk_drew ?_ | refine blk_alloc ?_ _)); exact BK102.out) hb)
        have n2_ := Aside0.mk (blk_below (g := gb103) (o := .cells #[.string a2_0, .string a2_1, .string a2_2, .string a2_3, .string a2_4] 23 (0, 0)) (by (with_reducible repeat (first | refine blk_drewN ?_ _ | refine blk_drew ?_ | refine blk_alloc ?_ _)); exact BK103.out) hb)
        have n3_ := Aside0.mk (below_step (by repeat (first | (with_reducible first | exact HB.out | apply below_alloc | apply pw_below_drewN | apply below_drew1 | refine below_set ?_ GE101.out | refine below_set ?_ GE102.out | refine below_set ?_ GE103.out) | exact HB.out)) hb)
        clear BK101
        clear BK102
        clear BK103
        clear HB
        have BK101 := n0_
        have BK102 := n1_
        have BK103 := n2_
        have HB := n3_
        clear n0_ n1_ n2_ n3_
        (try clear hb)
        (try clear hb2)
        (try clear hk)
        (try clear hi)
        refine hK.out _ _ ⟨(blk_cell BK101.out 0).trans rfl, (blk_cell BK101.out 1).trans rfl, (blk_cell BK101.out 2).trans rfl, (blk_cell BK101.out 3).trans rfl, (blk_cell BK101.out 4).trans rfl, (blk_cell BK102.out 0).trans rfl, (blk_cell BK102.out 1).trans rfl, (blk_cell BK102.out 2).trans rfl, (blk_cell BK102.out 3).trans rfl, (blk_cell BK102.out 4).trans rfl, (blk_cell BK103.out 0).trans rfl, (blk_cell BK103.out 1).trans rfl, (blk_cell BK103.out 2).trans rfl, (blk_cell BK103.out 3).trans rfl, (blk_cell BK103.out 4).trans rfl⟩ (fun hHeld => ?_)
        clear hK K
        refine norm_ (a' := ?_) ?_ ?_
        rotate_left
        · show Act.put _ (some 40) _ = _
          simp only [Act.put, List.setIfInBounds_toArray, List.set_cons_zero, List.set_cons_succ, i64_w, i32_w]
          rfl
        refine one_ (i := 5) (N := some 42) #[true, true, true, true, true, true, false, false, false] rfl rfl (one_of HT_.out (by kernel_rfl)) (by decide) (fun K hK => ?_)
        refine goes_ Tryd.func5 (by kernel_rfl) rfl #[.agg #[.string a2_0, .string a2_1, .string a2_2, .string a2_3, .string a2_4]] (by rfl) rfl rfl (by (try simp only [List.map_toArray, List.map_cons, List.map_nil]); first | done | rfl | (simp only [List.length_drop, List.length_take]; rfl)) ?_
        with_reducible refine (laws_kyId.calls kj3 a2_0 a2_1 a2_2 a2_3 a2_4 t117 t118 t119 t120 t121 _ A36.out).mono ?_
        rintro e w40 ⟨rfl, hb⟩
        refine ⟨_, rfl, ?_⟩
        have n0_ := Aside0.mk (blk_below (g := gb101) (o := .cells #[.string a0_0, .string a0_1, .string a0_2, .string a0_3, .string a0_4] 23 (0, 0)) (by (with_reducible repeat (first | refine blk_drewN ?_ _ | refine blk_drew ?_ | refine blk_alloc ?_ _)); exact BK101.out) hb)
        have n1_ := Aside0.mk (blk_below (g := gb102) (o := .cells #[.string a1_0, .string a1_1, .string a1_2, .string a1_3, .string a1_4] 23 (0, 0)) (by (with_reducible repeat (first | refine blk_drewN ?_ _ | refine blk_drew ?_ | refine blk_alloc ?_ _)); exact BK102.out) hb)
        have n2_ := Aside0.mk (blk_below (g := gb103) (o := .cells #[.string a2_0, .string a2_1, .string a2_2, .string a2_3, .string a2_4] 23 (0, 0)) (by (with_reducible repeat (first | refine blk_drewN ?_ _ | refine blk_drew ?_ | refine blk_alloc ?_ _)); exact BK103.out) hb)
        have n3_ := Aside0.mk (below_step (by repeat (first | (with_reducible first | exact HB.out | apply below_alloc | apply pw_below_drewN | apply below_drew1 | refine below_set ?_ GE101.out | refine below_set ?_ GE102.out | refine below_set ?_ GE103.out) | exact HB.out)) hb)
        clear BK101
        clear BK102
        clear BK103
        clear HB
        have BK101 := n0_
        have BK102 := n1_
        have BK103 := n2_
        have HB := n3_
        clear n0_ n1_ n2_ n3_
        (try clear hb)
        (try clear hb2)
        (try clear hk)
        (try clear hi)
        refine hK.out _ _ ⟨(blk_cell BK101.out 0).trans rfl, (blk_cell BK101.out 1).trans rfl, (blk_cell BK101.out 2).trans rfl, (blk_cell BK101.out 3).trans rfl, (blk_cell BK101.out 4).trans rfl, (blk_cell BK102.out 0).trans rfl, (blk_cell BK102.out 1).trans rfl, (blk_cell BK102.out 2).trans rfl, (blk_cell BK102.out 3).trans rfl, (blk_cell BK102.out 4).trans rfl, (blk_cell BK103.out 0).trans rfl, (blk_cell BK103.out 1).trans rfl, (blk_cell BK103.out 2).trans rfl, (blk_cell BK103.out 3).trans rfl, (blk_cell BK103.out 4).trans rfl⟩ (fun hHeld => ?_)
        clear hK K
        refine norm_ (a' := ?_) ?_ ?_
        rotate_left
        · show Act.put _ (some 42) _ = _
          simp only [Act.put, List.setIfInBounds_toArray, List.set_cons_zero, List.set_cons_succ, i64_w, i32_w]
          rfl
        refine last_ (i := 6) (N := none) #[true, true, true, true, true, true, true, false, false] rfl rfl (one_of HT_.out (by kernel_rfl)) (by decide) (fun K hK => ?_)
        have hs0 := (blk_cell BK101.out 0).trans rfl
        have hf0 := blk_frozen BK101.out 0
        have hs1 := (blk_cell BK101.out 1).trans rfl
        have hf1 := blk_frozen BK101.out 1
        have hs2 := (blk_cell BK101.out 2).trans rfl
        have hf2 := blk_frozen BK101.out 2
        have hs3 := (blk_cell BK101.out 3).trans rfl
        have hf3 := blk_frozen BK101.out 3
        have hs4 := (blk_cell BK101.out 4).trans rfl
        have hf4 := blk_frozen BK101.out 4
        refine skip_ (w1 := ?_) (by rfl) rfl ?_ ?_
        rotate_left
        · go_simp
          rfl
        refine hK.out _ _ ?_
        clear hK K hs0 hs1 hs2 hs3 hs4 hf0 hf1 hf2 hf3 hf4
        have n1_ := Aside0.mk (blk_put (blk_put (blk_put (blk_put (blk_put BK101.out 0 (.string t107) rfl) 1 (.string t108) rfl) 2 (.string t109) rfl) 3 (.string t110) rfl) 4 (.string t111) rfl)
        have n2_ := Aside0.mk (blk_setO (p := ⟨gb101, 4, none⟩) (blk_setO (p := ⟨gb101, 3, none⟩) (blk_setO (p := ⟨gb101, 2, none⟩) (blk_setO (p := ⟨gb101, 1, none⟩) (blk_setO (p := ⟨gb101, 0, none⟩) BK102.out NB102_101.out (.string t107)) NB102_101.out (.string t108)) NB102_101.out (.string t109)) NB102_101.out (.string t110)) NB102_101.out (.string t111))
        have n3_ := Aside0.mk (blk_setO (p := ⟨gb101, 4, none⟩) (blk_setO (p := ⟨gb101, 3, none⟩) (blk_setO (p := ⟨gb101, 2, none⟩) (blk_setO (p := ⟨gb101, 1, none⟩) (blk_setO (p := ⟨gb101, 0, none⟩) BK103.out NB103_101.out (.string t107)) NB103_101.out (.string t108)) NB103_101.out (.string t109)) NB103_101.out (.string t110)) NB103_101.out (.string t111))
        have n4_ := Aside0.mk (((((HB.out.setCell (p := ⟨gb101, 0, none⟩) GE101.out (.string t107)).setCell (p := ⟨gb101, 1, none⟩) GE101.out (.string t108)).setCell (p := ⟨gb101, 2, none⟩) GE101.out (.string t109)).setCell (p := ⟨gb101, 3, none⟩) GE101.out (.string t110)).setCell (p := ⟨gb101, 4, none⟩) GE101.out (.string t111))
        clear BK101 BK102 BK103 HB
        generalize (((((w40.setCell ⟨gb101, 0, none⟩ (.string t107)).setCell ⟨gb101, 1, none⟩ (.string t108)).setCell ⟨gb101, 2, none⟩ (.string t109)).setCell ⟨gb101, 3, none⟩ (.string t110)).setCell ⟨gb101, 4, none⟩ (.string t111)) = w41 at n1_ n2_ n3_ n4_ ⊢
        have BK101 := n1_
        have BK102 := n2_
        have BK103 := n3_
        have HB := n4_
        clear n1_ n2_ n3_ n4_
        refine last_ (i := 7) (N := none) #[true, true, true, true, true, true, true, true, false] rfl rfl (one_of HT_.out (by kernel_rfl)) (by decide) (fun K hK => ?_)
        have hs0 := (blk_cell BK102.out 0).trans rfl
        have hf0 := blk_frozen BK102.out 0
        have hs1 := (blk_cell BK102.out 1).trans rfl
        have hf1 := blk_frozen BK102.out 1
        have hs2 := (blk_cell BK102.out 2).trans rfl
        have hf2 := blk_frozen BK102.out 2
        have hs3 := (blk_cell BK102.out 3).trans rfl
        have hf3 := blk_frozen BK102.out 3
        have hs4 := (blk_cell BK102.out 4).trans rfl
        have hf4 := blk_frozen BK102.out 4
        refine skip_ (w1 := ?_) (by rfl) rfl ?_ ?_
        rotate_left
        · go_simp
          rfl
        refine hK.out _ _ ?_
        clear hK K hs0 hs1 hs2 hs3 hs4 hf0 hf1 hf2 hf3 hf4
        have n1_ := Aside0.mk (blk_setO (p := ⟨gb102, 4, none⟩) (blk_setO (p := ⟨gb102, 3, none⟩) (blk_setO (p := ⟨gb102, 2, none⟩) (blk_setO (p := ⟨gb102, 1, none⟩) (blk_setO (p := ⟨gb102, 0, none⟩) BK101.out NB101_102.out (.string t112)) NB101_102.out (.string t113)) NB101_102.out (.string t114)) NB101_102.out (.string t115)) NB101_102.out (.string t116))
        have n2_ := Aside0.mk (blk_put (blk_put (blk_put (blk_put (blk_put BK102.out 0 (.string t112) rfl) 1 (.string t113) rfl) 2 (.string t114) rfl) 3 (.string t115) rfl) 4 (.string t116) rfl)
        have n3_ := Aside0.mk (blk_setO (p := ⟨gb102, 4, none⟩) (blk_setO (p := ⟨gb102, 3, none⟩) (blk_setO (p := ⟨gb102, 2, none⟩) (blk_setO (p := ⟨gb102, 1, none⟩) (blk_setO (p := ⟨gb102, 0, none⟩) BK103.out NB103_102.out (.string t112)) NB103_102.out (.string t113)) NB103_102.out (.string t114)) NB103_102.out (.string t115)) NB103_102.out (.string t116))
        have n4_ := Aside0.mk (((((HB.out.setCell (p := ⟨gb102, 0, none⟩) GE102.out (.string t112)).setCell (p := ⟨gb102, 1, none⟩) GE102.out (.string t113)).setCell (p := ⟨gb102, 2, none⟩) GE102.out (.string t114)).setCell (p := ⟨gb102, 3, none⟩) GE102.out (.string t115)).setCell (p := ⟨gb102, 4, none⟩) GE102.out (.string t116))
        clear BK101 BK102 BK103 HB
        generalize (((((w41.setCell ⟨gb102, 0, none⟩ (.string t112)).setCell ⟨gb102, 1, none⟩ (.string t113)).setCell ⟨gb102, 2, none⟩ (.string t114)).setCell ⟨gb102, 3, none⟩ (.string t115)).setCell ⟨gb102, 4, none⟩ (.string t116)) = w42 at n1_ n2_ n3_ n4_ ⊢
        have BK101 := n1_
        have BK102 := n2_
        have BK103 := n3_
        have HB := n4_
        clear n1_ n2_ n3_ n4_
        refine last_ (i := 8) (N := none) #[true, true, true, true, true, true, true, true, true] rfl rfl (one_of HT_.out (by kernel_rfl)) (by decide) (fun K hK => ?_)
        have hs0 := (blk_cell BK103.out 0).trans rfl
        have hf0 := blk_frozen BK103.out 0
        have hs1 := (blk_cell BK103.out 1).trans rfl
        have hf1 := blk_frozen BK103.out 1
        have hs2 := (blk_cell BK103.out 2).trans rfl
        have hf2 := blk_frozen BK103.out 2
        have hs3 := (blk_cell BK103.out 3).trans rfl
        have hf3 := blk_frozen BK103.out 3
        have hs4 := (blk_cell BK103.out 4).trans rfl
        have hf4 := blk_frozen BK103.out 4
        refine skip_ (w1 := ?_) (by rfl) rfl ?_ ?_
        rotate_left
        · go_simp
          rfl
        refine hK.out _ _ ?_
        clear hK K hs0 hs1 hs2 hs3 hs4 hf0 hf1 hf2 hf3 hf4
        have n1_ := Aside0.mk (blk_setO (p := ⟨gb103, 4, none⟩) (blk_setO (p := ⟨gb103, 3, none⟩) (blk_setO (p := ⟨gb103, 2, none⟩) (blk_setO (p := ⟨gb103, 1, none⟩) (blk_setO (p := ⟨gb103, 0, none⟩) BK101.out NB101_103.out (.string t117)) NB101_103.out (.string t118)) NB101_103.out (.string t119)) NB101_103.out (.string t120)) NB101_103.out (.string t121))
        have n2_ := Aside0.mk (blk_setO (p := ⟨gb103, 4, none⟩) (blk_setO (p := ⟨gb103, 3, none⟩) (blk_setO (p := ⟨gb103, 2, none⟩) (blk_setO (p := ⟨gb103, 1, none⟩) (blk_setO (p := ⟨gb103, 0, none⟩) BK102.out NB102_103.out (.string t117)) NB102_103.out (.string t118)) NB102_103.out (.string t119)) NB102_103.out (.string t120)) NB102_103.out (.string t121))
        have n3_ := Aside0.mk (blk_put (blk_put (blk_put (blk_put (blk_put BK103.out 0 (.string t117) rfl) 1 (.string t118) rfl) 2 (.string t119) rfl) 3 (.string t120) rfl) 4 (.string t121) rfl)
        have n4_ := Aside0.mk (((((HB.out.setCell (p := ⟨gb103, 0, none⟩) GE103.out (.string t117)).setCell (p := ⟨gb103, 1, none⟩) GE103.out (.string t118)).setCell (p := ⟨gb103, 2, none⟩) GE103.out (.string t119)).setCell (p := ⟨gb103, 3, none⟩) GE103.out (.string t120)).setCell (p := ⟨gb103, 4, none⟩) GE103.out (.string t121))
        clear BK101 BK102 BK103 HB
        generalize (((((w42.setCell ⟨gb103, 0, none⟩ (.string t117)).setCell ⟨gb103, 1, none⟩ (.string t118)).setCell ⟨gb103, 2, none⟩ (.string t119)).setCell ⟨gb103, 3, none⟩ (.string t120)).setCell ⟨gb103, 4, none⟩ (.string t121)) = w43 at n1_ n2_ n3_ n4_ ⊢
        have BK101 := n1_
        have BK102 := n2_
        have BK103 := n3_
        have HB := n4_
        clear n1_ n2_ n3_ n4_
        refine done_ (done_of HT_.out (by kernel_rfl)) ?_
        clear hHeld
        have OK1 := Aside0.mk (id_ok A34.out (by intro x hx; exact HZ.out x (by simp only [List.mem_cons, List.not_mem_nil, or_false] at hx; rcases hx with h | h | h | h | h <;> simp [h])))
        have OK2 := Aside0.mk (id_ok A35.out (by intro x hx; exact HZ.out x (by simp only [List.mem_cons, List.not_mem_nil, or_false] at hx; rcases hx with h | h | h | h | h <;> simp [h])))
        have OK3 := Aside0.mk (id_ok A36.out (by intro x hx; exact HZ.out x (by simp only [List.mem_cons, List.not_mem_nil, or_false] at hx; rcases hx with h | h | h | h | h <;> simp [h])))
        have G12 := Aside0.mk (fun w a b => gc OK1.out OK2.out w a b)
        have G21 := Aside0.mk (fun w a b => gc OK2.out OK1.out w a b)
        have G23 := Aside0.mk (fun w a b => gc OK2.out OK3.out w a b)
        have G13 := Aside0.mk (fun w a b => gc OK1.out OK3.out w a b)
        have G11 := Aside0.mk (fun w a b => gc OK1.out OK1.out w a b)
        clear HZ A34 A35 A36
        go_wp2_with fail
        have n0_ := Aside0.mk (blk_new w43 (.cells #[.pointer (some ⟨gb101, 0, none⟩), .pointer (some ⟨gb102, 0, none⟩), .pointer (some ⟨gb103, 0, none⟩)] 26))
        have n1_ := Aside0.mk (blk_alloc BK101.out (.cells #[.pointer (some ⟨gb101, 0, none⟩), .pointer (some ⟨gb102, 0, none⟩), .pointer (some ⟨gb103, 0, none⟩)] 26))
        have m1_ := Aside0.mk (show gb101 ≠ w43.heap.size from Nat.ne_of_lt (blk_lt BK101.out))
        have n2_ := Aside0.mk (blk_alloc BK102.out (.cells #[.pointer (some ⟨gb101, 0, none⟩), .pointer (some ⟨gb102, 0, none⟩), .pointer (some ⟨gb103, 0, none⟩)] 26))
        have m2_ := Aside0.mk (show gb102 ≠ w43.heap.size from Nat.ne_of_lt (blk_lt BK102.out))
        have n3_ := Aside0.mk (blk_alloc BK103.out (.cells #[.pointer (some ⟨gb101, 0, none⟩), .pointer (some ⟨gb102, 0, none⟩), .pointer (some ⟨gb103, 0, none⟩)] 26))
        have m3_ := Aside0.mk (show gb103 ≠ w43.heap.size from Nat.ne_of_lt (blk_lt BK103.out))
        have n4_ := Aside0.mk (below_alloc HB.out (.cells #[.pointer (some ⟨gb101, 0, none⟩), .pointer (some ⟨gb102, 0, none⟩), .pointer (some ⟨gb103, 0, none⟩)] 26))
        clear BK101 BK102 BK103 HB
        generalize w43.alloc (.cells #[.pointer (some ⟨gb101, 0, none⟩), .pointer (some ⟨gb102, 0, none⟩), .pointer (some ⟨gb103, 0, none⟩)] 26) = w44 at n0_ n1_ n2_ n3_ n4_ ⊢
        generalize w43.heap.size = gbS at n0_ m1_ m2_ m3_ ⊢
        have BK101 := n1_
        have BK102 := n2_
        have BK103 := n3_
        have BS := n0_
        have HB := n4_
        clear n0_ n1_ n2_ n3_ n4_
        refine wp_loop_rounds 4 ?_
        rw [rounds_succ]
        have hs0 := (blk_cell BS.out 0).trans rfl
        have hs3 := (blk_cell BK101.out 3).trans rfl
        have hf3 := blk_frozen BK101.out 3
        have hs4 := (blk_cell BK101.out 4).trans rfl
        have hf4 := blk_frozen BK101.out 4
        go_wp2_with fail
        clear hs0 hs3 hs4 hf3 hf4
        have n1_ := Aside0.mk (blk_put (blk_put BK101.out 3 (.string ⟨#[]⟩) rfl) 4 (.string ⟨#[]⟩) rfl)
        have n2_ := Aside0.mk (blk_setO (p := ⟨gb101, 4, none⟩) (blk_setO (p := ⟨gb101, 3, none⟩) BK102.out NB102_101.out (.string ⟨#[]⟩)) NB102_101.out (.string ⟨#[]⟩))
        have n3_ := Aside0.mk (blk_setO (p := ⟨gb101, 4, none⟩) (blk_setO (p := ⟨gb101, 3, none⟩) BK103.out NB103_101.out (.string ⟨#[]⟩)) NB103_101.out (.string ⟨#[]⟩))
        have n0_ := Aside0.mk (blk_setO (p := ⟨gb101, 4, none⟩) (blk_setO (p := ⟨gb101, 3, none⟩) BS.out (Ne.symm m1_.out) (.string ⟨#[]⟩)) (Ne.symm m1_.out) (.string ⟨#[]⟩))
        have n4_ := Aside0.mk ((HB.out.setCell (p := ⟨gb101, 3, none⟩) GE101.out (.string ⟨#[]⟩)).setCell (p := ⟨gb101, 4, none⟩) GE101.out (.string ⟨#[]⟩))
        clear BK101 BK102 BK103 BS HB
        generalize ((w44.setCell ⟨gb101, 3, none⟩ (.string ⟨#[]⟩)).setCell ⟨gb101, 4, none⟩ (.string ⟨#[]⟩)) = w45 at n0_ n1_ n2_ n3_ n4_ ⊢
        have BK101 := n1_
        have BK102 := n2_
        have BK103 := n3_
        have BS := n0_
        have HB := n4_
        clear n0_ n1_ n2_ n3_ n4_
        rw [rounds_succ]
        have hs0 := (blk_cell BS.out 1).trans rfl
        have hs3 := (blk_cell BK102.out 3).trans rfl
        have hf3 := blk_frozen BK102.out 3
        have hs4 := (blk_cell BK102.out 4).trans rfl
        have hf4 := blk_frozen BK102.out 4
        go_wp2_with fail
        clear hs0 hs3 hs4 hf3 hf4
        have n1_ := Aside0.mk (blk_setO (p := ⟨gb102, 4, none⟩) (blk_setO (p := ⟨gb102, 3, none⟩) BK101.out NB101_102.out (.string ⟨#[]⟩)) NB101_102.out (.string ⟨#[]⟩))
        have n2_ := Aside0.mk (blk_put (blk_put BK102.out 3 (.string ⟨#[]⟩) rfl) 4 (.string ⟨#[]⟩) rfl)
        have n3_ := Aside0.mk (blk_setO (p := ⟨gb102, 4, none⟩) (blk_setO (p := ⟨gb102, 3, none⟩) BK103.out NB103_102.out (.string ⟨#[]⟩)) NB103_102.out (.string ⟨#[]⟩))
        have n0_ := Aside0.mk (blk_setO (p := ⟨gb102, 4, none⟩) (blk_setO (p := ⟨gb102, 3, none⟩) BS.out (Ne.symm m2_.out) (.string ⟨#[]⟩)) (Ne.symm m2_.out) (.string ⟨#[]⟩))
        have n4_ := Aside0.mk ((HB.out.setCell (p := ⟨gb102, 3, none⟩) GE102.out (.string ⟨#[]⟩)).setCell (p := ⟨gb102, 4, none⟩) GE102.out (.string ⟨#[]⟩))
        clear BK101 BK102 BK103 BS HB
        generalize ((w45.setCell ⟨gb102, 3, none⟩ (.string ⟨#[]⟩)).setCell ⟨gb102, 4, none⟩ (.string ⟨#[]⟩)) = w46 at n0_ n1_ n2_ n3_ n4_ ⊢
        have BK101 := n1_
        have BK102 := n2_
        have BK103 := n3_
        have BS := n0_
        have HB := n4_
        clear n0_ n1_ n2_ n3_ n4_
        rw [rounds_succ]
        have hs0 := (blk_cell BS.out 2).trans rfl
        have hs3 := (blk_cell BK103.out 3).trans rfl
        have hf3 := blk_frozen BK103.out 3
        have hs4 := (blk_cell BK103.out 4).trans rfl
        have hf4 := blk_frozen BK103.out 4
        go_wp2_with fail
        clear hs0 hs3 hs4 hf3 hf4
        have n1_ := Aside0.mk (blk_setO (p := ⟨gb103, 4, none⟩) (blk_setO (p := ⟨gb103, 3, none⟩) BK101.out NB101_103.out (.string ⟨#[]⟩)) NB101_103.out (.string ⟨#[]⟩))
        have n2_ := Aside0.mk (blk_setO (p := ⟨gb103, 4, none⟩) (blk_setO (p := ⟨gb103, 3, none⟩) BK102.out NB102_103.out (.string ⟨#[]⟩)) NB102_103.out (.string ⟨#[]⟩))
        have n3_ := Aside0.mk (blk_put (blk_put BK103.out 3 (.string ⟨#[]⟩) rfl) 4 (.string ⟨#[]⟩) rfl)
        have n0_ := Aside0.mk (blk_setO (p := ⟨gb103, 4, none⟩) (blk_setO (p := ⟨gb103, 3, none⟩) BS.out (Ne.symm m3_.out) (.string ⟨#[]⟩)) (Ne.symm m3_.out) (.string ⟨#[]⟩))
        have n4_ := Aside0.mk ((HB.out.setCell (p := ⟨gb103, 3, none⟩) GE103.out (.string ⟨#[]⟩)).setCell (p := ⟨gb103, 4, none⟩) GE103.out (.string ⟨#[]⟩))
        clear BK101 BK102 BK103 BS HB
        generalize ((w46.setCell ⟨gb103, 3, none⟩ (.string ⟨#[]⟩)).setCell ⟨gb103, 4, none⟩ (.string ⟨#[]⟩)) = w47 at n0_ n1_ n2_ n3_ n4_ ⊢
        have BK101 := n1_
        have BK102 := n2_
        have BK103 := n3_
        have BS := n0_
        have HB := n4_
        clear n0_ n1_ n2_ n3_ n4_
        rw [rounds_succ]
        clear BS m1_ m2_ m3_
        have c10 := (blk_cell BK101.out 0).trans rfl
        have c11 := (blk_cell BK101.out 1).trans rfl
        have c12 := (blk_cell BK101.out 2).trans rfl
        have c13 := (blk_cell BK101.out 3).trans rfl
        have c14 := (blk_cell BK101.out 4).trans rfl
        have c20 := (blk_cell BK102.out 0).trans rfl
        have c21 := (blk_cell BK102.out 1).trans rfl
        have c22 := (blk_cell BK102.out 2).trans rfl
        have c23 := (blk_cell BK102.out 3).trans rfl
        have c24 := (blk_cell BK102.out 4).trans rfl
        go_wp2_with fail
        go_at_call 6
        refine (G12.out _ (lay_below HL0.out HB.out) (lay_below HL1.out HB.out)).mono ?_
        rintro e w50 ⟨z0, rfl, hb⟩
        have n1_ := Aside0.mk (blk_below BK101.out hb)
        have n2_ := Aside0.mk (blk_below BK102.out hb)
        have n3_ := Aside0.mk (blk_below BK103.out hb)
        have n4_ := Aside0.mk (below_step HB.out hb)
        clear BK101 BK102 BK103 HB hb c10 c11 c12 c13 c14 c20 c21 c22 c23 c24
        have BK101 := n1_
        have BK102 := n2_
        have BK103 := n3_
        have HB := n4_
        clear n1_ n2_ n3_ n4_
        have c10 := (blk_cell BK101.out 0).trans rfl
        have c11 := (blk_cell BK101.out 1).trans rfl
        have c12 := (blk_cell BK101.out 2).trans rfl
        have c13 := (blk_cell BK101.out 3).trans rfl
        have c14 := (blk_cell BK101.out 4).trans rfl
        have c20 := (blk_cell BK102.out 0).trans rfl
        have c21 := (blk_cell BK102.out 1).trans rfl
        have c22 := (blk_cell BK102.out 2).trans rfl
        have c23 := (blk_cell BK102.out 3).trans rfl
        have c24 := (blk_cell BK102.out 4).trans rfl
        go_wp2_with fail
        go_at_call 6
        refine (G21.out _ (lay_below HL0.out HB.out) (lay_below HL1.out HB.out)).mono ?_
        rintro e w51 ⟨z1, rfl, hb⟩
        have n1_ := Aside0.mk (blk_below BK101.out hb)
        have n2_ := Aside0.mk (blk_below BK102.out hb)
        have n3_ := Aside0.mk (blk_below BK103.out hb)
        have n4_ := Aside0.mk (below_step HB.out hb)
        clear BK101 BK102 BK103 HB hb c10 c11 c12 c13 c14 c20 c21 c22 c23 c24
        have BK101 := n1_
        have BK102 := n2_
        have BK103 := n3_
        have HB := n4_
        clear n1_ n2_ n3_ n4_
        have c20 := (blk_cell BK102.out 0).trans rfl
        have c21 := (blk_cell BK102.out 1).trans rfl
        have c22 := (blk_cell BK102.out 2).trans rfl
        have c23 := (blk_cell BK102.out 3).trans rfl
        have c24 := (blk_cell BK102.out 4).trans rfl
        have c30 := (blk_cell BK103.out 0).trans rfl
        have c31 := (blk_cell BK103.out 1).trans rfl
        have c32 := (blk_cell BK103.out 2).trans rfl
        have c33 := (blk_cell BK103.out 3).trans rfl
        have c34 := (blk_cell BK103.out 4).trans rfl
        go_wp2_with fail
        go_at_call 6
        refine (G23.out _ (lay_below HL0.out HB.out) (lay_below HL1.out HB.out)).mono ?_
        rintro e w52 ⟨z2, rfl, hb⟩
        have n1_ := Aside0.mk (blk_below BK101.out hb)
        have n2_ := Aside0.mk (blk_below BK102.out hb)
        have n3_ := Aside0.mk (blk_below BK103.out hb)
        have n4_ := Aside0.mk (below_step HB.out hb)
        clear BK101 BK102 BK103 HB hb c20 c21 c22 c23 c24 c30 c31 c32 c33 c34
        have BK101 := n1_
        have BK102 := n2_
        have BK103 := n3_
        have HB := n4_
        clear n1_ n2_ n3_ n4_
        have c10 := (blk_cell BK101.out 0).trans rfl
        have c11 := (blk_cell BK101.out 1).trans rfl
        have c12 := (blk_cell BK101.out 2).trans rfl
        have c13 := (blk_cell BK101.out 3).trans rfl
        have c14 := (blk_cell BK101.out 4).trans rfl
        have c30 := (blk_cell BK103.out 0).trans rfl
        have c31 := (blk_cell BK103.out 1).trans rfl
        have c32 := (blk_cell BK103.out 2).trans rfl
        have c33 := (blk_cell BK103.out 3).trans rfl
        have c34 := (blk_cell BK103.out 4).trans rfl
        go_wp2_with fail
        go_at_call 6
        refine (G13.out _ (lay_below HL0.out HB.out) (lay_below HL1.out HB.out)).mono ?_
        rintro e w53 ⟨z3, rfl, hb⟩
        have n1_ := Aside0.mk (blk_below BK101.out hb)
        have n2_ := Aside0.mk (blk_below BK102.out hb)
        have n3_ := Aside0.mk (blk_below BK103.out hb)
        have n4_ := Aside0.mk (below_step HB.out hb)
        clear BK101 BK102 BK103 HB hb c10 c11 c12 c13 c14 c30 c31 c32 c33 c34
        have BK101 := n1_
        have BK102 := n2_
        have BK103 := n3_
        have HB := n4_
        clear n1_ n2_ n3_ n4_
        have c10 := (blk_cell BK101.out 0).trans rfl
        have c11 := (blk_cell BK101.out 1).trans rfl
        have c12 := (blk_cell BK101.out 2).trans rfl
        have c13 := (blk_cell BK101.out 3).trans rfl
        have c14 := (blk_cell BK101.out 4).trans rfl
        go_wp2_with fail
        go_at_call 6
        refine (G11.out _ (lay_below HL0.out HB.out) (lay_below HL1.out HB.out)).mono ?_
        rintro e w54 ⟨z4, rfl, hb⟩
        have n1_ := Aside0.mk (blk_below BK101.out hb)
        have n2_ := Aside0.mk (blk_below BK102.out hb)
        have n3_ := Aside0.mk (blk_below BK103.out hb)
        have n4_ := Aside0.mk (below_step HB.out hb)
        clear BK101 BK102 BK103 HB hb c10 c11 c12 c13 c14
        have BK101 := n1_
        have BK102 := n2_
        have BK103 := n3_
        have HB := n4_
        clear n1_ n2_ n3_ n4_
        have c10 := (blk_cell BK101.out 0).trans rfl
        have c11 := (blk_cell BK101.out 1).trans rfl
        have c12 := (blk_cell BK101.out 2).trans rfl
        have c13 := (blk_cell BK101.out 3).trans rfl
        have c14 := (blk_cell BK101.out 4).trans rfl
        have c20 := (blk_cell BK102.out 0).trans rfl
        have c21 := (blk_cell BK102.out 1).trans rfl
        have c22 := (blk_cell BK102.out 2).trans rfl
        have c23 := (blk_cell BK102.out 3).trans rfl
        have c24 := (blk_cell BK102.out 4).trans rfl
        have x11 := lessS_self t107 t108 t109
        have e11 := eqB_self t107 t108 t109
        by_cases he : t107 = t112 ∧ t108 = t113 ∧ t109 = t114
        · obtain ⟨rfl, rfl, rfl⟩ := he
          have yt107 : (t107.toList == t107.toList) = true := by simp
          have yt108 : (t108.toList == t108.toList) = true := by simp
          have yt109 : (t109.toList == t109.toList) = true := by simp
          clear G12 G21 G23 G13 G11
          go_wp2_with fail
          go_ret
          exact ⟨rfl, HB.out⟩
        · have E12 := eqB_false he
          have T := Aside0.mk (lessS_total OK1.out OK2.out he)
          have TR := Aside0.mk (fun a b => lessS_trans (g := t107) (v := t108) (k := t109) (g' := t112) (v' := t113) (k' := t114) (g2 := t117) (v2 := t118) (k2 := t119) a b)
          have FC := ne_cases he
          clear he G12 G21 G23 G13 G11
          cases x12 : lessS t107 t108 t109 t112 t113 t114 with
          | false =>
            have x21 : lessS t112 t113 t114 t107 t108 t109 = true := by have := T.out; rw [x12] at this; simpa using this.symm
            rcases FC with q1 | ⟨q1, q2⟩ | ⟨q1, q2, q3⟩
            all_goals
              go_wp2_with fail
              go_ret
              exact ⟨rfl, HB.out⟩
          | true =>
            have x21 : lessS t112 t113 t114 t107 t108 t109 = false := by have := T.out; rw [x12] at this; simpa using this.symm
            cases x23 : lessS t112 t113 t114 t117 t118 t119 with
            | false =>
              rcases FC with q1 | ⟨q1, q2⟩ | ⟨q1, q2, q3⟩
              all_goals
                go_wp2_with fail
                go_ret
                exact ⟨rfl, HB.out⟩
            | true =>
              have x13 := TR.out x12 x23
              rcases FC with q1 | ⟨q1, q2⟩ | ⟨q1, q2, q3⟩
              all_goals
                go_wp2_with fail
                go_ret
                exact ⟨rfl, HB.out⟩

end Go.Proofs.YtfdgbgjbncakfaaDoor.HFn
