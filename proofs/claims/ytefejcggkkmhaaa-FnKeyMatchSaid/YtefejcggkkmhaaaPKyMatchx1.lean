-- PRINTED BY print.sh 35421559b90ae4d0a3588c463048766b98c2df88dd9212a6774a882060cdf62d: not written by this session
import Derived.Test.YtefejcggkkmhaaaPKyMatchx0
namespace Go.Proofs.Ytefejcggkkmhaaa.PKyMatch
open Go.RowKit Go.Proofs.YtefejcggkkmhaaaW.PrintWords Go.Proofs.YtefejcggkkmhaaaW.PrintLast Go.Proofs.YtefejcggkkmhaaaW.PrintMore
attribute [local go_sem] max2_int min2_int max_two min_two max_three min_three max_four min_four   -- for this text's walks alone
set_option linter.unusedVariables false
set_option linter.unusedSimpArgs false

/-! ### spec_KyMatch: function 13 -/
def spec_KyMatch.l0 : Nat → List ByteArray → List ByteArray → List ByteArray → Bool → Int → Int → Option (Bool × List ByteArray)
  | 0, _, _, _, _, _, _ => none
  | k + 1, x0, x1, x6, x7, x15, x16 => if x16 < x15 then (if 0 ≤ x16 then (if x16 < (x0.length : Int) then (if x16 < (x1.length : Int) then (if (rdOf ByteArray.empty x0 x16).toList = (rdOf ByteArray.empty x1 x16).toList then (if x6.length < 8796093022208 then (spec_KyMatch.l0 k x0 x1 (x6 ++ [rdOf ByteArray.empty x0 x16]) true x15 (wrap64 (x16 + 1))) else (none)) else (if (rdOf ByteArray.empty x1 x16).toList = ([] : List UInt8) then (if x6.length < 8796093022208 then (spec_KyMatch.l0 k x0 x1 (x6 ++ [rdOf ByteArray.empty x0 x16]) x7 x15 (wrap64 (x16 + 1))) else (none)) else (if (rdOf ByteArray.empty x0 x16).toList = ([] : List UInt8) then (if x6.length < 8796093022208 then (spec_KyMatch.l0 k x0 x1 (x6 ++ [rdOf ByteArray.empty x1 x16]) x7 x15 (wrap64 (x16 + 1))) else (none)) else (some (false, ([] : List ByteArray)))))) else (none)) else (none)) else (none)) else (some (x7, x6))
def spec_KyMatch.f (k : Nat) (l0 : List ByteArray) (l1 : List ByteArray) : Option (Bool × List ByteArray) := if (l0.length : Int) = (l1.length : Int) then (spec_KyMatch.l0 k l0 l1 ([] : List ByteArray) false (l0.length : Int) 0) else (some (false, ([] : List ByteArray)))
theorem spec_KyMatch.mono_l : ∀ k, (∀ y0 y1 y2 y3 y4 y5, LeO (spec_KyMatch.l0 k y0 y1 y2 y3 y4 y5) (spec_KyMatch.l0 (k + 1) y0 y1 y2 y3 y4 y5))
  | 0 => fun _ _ _ _ _ _ r h => by simp [spec_KyMatch.l0] at h
  | k + 1 => by
    have ih0 := spec_KyMatch.mono_l k
    · intro y0 y1 y2 y3 y4 y5
      unfold spec_KyMatch.l0
      repeat' first
      | (with_reducible exact ih0 _ _ _ _ _ _)
      | (with_reducible exact LeO.refl _)
      | (with_reducible exact LeO.none _)
      | (with_reducible refine LeO.ite ?_ ?_)
      | (with_reducible refine LeO.bind ?_ (fun _ => ?_))
      | exact ih0 _ _ _ _ _ _
      | exact LeO.none _
      | refine LeO.ite ?_ ?_
      | refine LeO.bind ?_ (fun _ => ?_)
theorem spec_KyMatch.mono : ∀ a0 a1 k, LeO (spec_KyMatch.f k a0 a1) (spec_KyMatch.f (k + 1) a0 a1) := by
  intro a0 a1 k
  have ih0 := spec_KyMatch.mono_l k
  unfold spec_KyMatch.f
  repeat' first
      | (with_reducible exact ih0 _ _ _ _ _ _)
      | (with_reducible exact LeO.refl _)
      | (with_reducible exact LeO.none _)
      | (with_reducible refine LeO.ite ?_ ?_)
      | (with_reducible refine LeO.bind ?_ (fun _ => ?_))
      | exact ih0 _ _ _ _ _ _
      | exact LeO.none _
      | refine LeO.ite ?_ ?_
      | refine LeO.bind ?_ (fun _ => ?_)
set_option maxHeartbeats 8000000 in
set_option maxRecDepth 100000 in
theorem spec_KyMatch.calls (k : Nat) (A0 : Option Addr) (c0 : Nat) (l0 : List ByteArray) (A1 : Option Addr) (c1 : Nat) (l1 : List ByteArray) (r1 : Bool) (r2 : List ByteArray) (w : World) (hr0 : Kd.C Kd.string w A0 l0.length l0) (hc0 : l0.length ≤ c0) (hr1 : Kd.C Kd.string w A1 l1.length l1) (hc1 : l1.length ≤ c1) (h : spec_KyMatch.f k l0 l1 = some (r1, r2)) :
    Calls Try.prog 13 #[.slice A0 l0.length c0, .slice A1 l1.length c1] w fun e w' => ∃ v1_ : Value, e = .returned (.tuple #[.bool r1, v1_]) ∧ Kd.R Kd.string 9 w' w.heap.size (fun _ => True) v1_ r2 ∧ Below w.heap.size w w' := by
  have HR0 := Aside0.mk hr0
  have HC0 := Aside0.mk hc0
  clear hr0 hc0
  have HR1 := Aside0.mk hr1
  have HC1 := Aside0.mk hc1
  clear hr1 hc1
  have HB := Aside0.mk (Below.refl w.heap.size w)
  have H : (if (l0.length : Int) = (l1.length : Int) then (spec_KyMatch.l0 k l0 l1 ([] : List ByteArray) false (l0.length : Int) 0) else (some (false, ([] : List ByteArray)))) = some (r1, r2) := h
  clear h
  by_cases c3 : (l0.length : Int) = (l1.length : Int)
  · rw [if_pos c3] at H
    have c3b0 : ((l0.length : Int) == (l1.length : Int)) = true := beq_iff_eq.mpr c3
    have c3b1 : ((l0.length : Int) != (l1.length : Int)) = false := bne_eq_false_iff_eq.mpr c3
    have c3b2 : (l0.length == l1.length) = true := by first | simpa using c3 | (simp at c3 ⊢; omega)
    clear c3
    have H' := Aside0.mk H
    clear H
    go_enter Try.func13, Try.ntmps13
    go_wp2
    repeat (go_quiet (fail); try go_wp2)
    go_loopg [6, 7, 16] k (fun kq v6 v7 v16 w' => ∃ (x6_1 : List ByteArray) (x7_1 : Bool) (x16_1 : Int), v7 = .bool x7_1 ∧ v16 = .int .i64 x16_1 ∧ Aside0 (spec_KyMatch.l0 kq l0 l1 x6_1 x7_1 (l0.length : Int) x16_1 = some (r1, r2)) ∧ Aside0 (kq ≤ k) ∧ Aside0 (Kd.R Kd.string 9 w' w.heap.size (fun _ => True) v6 x6_1) ∧ Aside0 (Below w.heap.size w w'))
    case atStart => exact ⟨(([] : List ByteArray)), (false), (0), (by first | rfl | (simp; done) | (simp [*]; done)), (by first | rfl | (simp; done) | (simp [*]; done)), H', ⟨Nat.le_refl _⟩, ⟨by first | exact Kd.R_nil _ _ _ _ _ | exact Kd.N_nil _ _ _ _ _ | exact Kd.V_nil _ _ _ _ _ | exact Kd.Q_nil _ _ _ _ _ | exact Kd.S_nil _ _ _ _ _⟩, ⟨by repeat (first | (with_reducible first | exact HB.out | apply below_alloc | apply pw_below_drewN | apply below_drew1) | exact HB.out)⟩⟩
    case round =>
      clear H'
      try clear c1
      try clear p2
      try clear c3
      try clear c3b0
      try clear c3b1
      try clear c3b2
      obtain ⟨x6_1, x7_1, x16_1, rfl, rfl, HA, HK1, HO_6, HB⟩ := hrel
      cases gk with
      | zero => exact absurd HA.out (by simp [spec_KyMatch.l0])
      | succ k1 =>
        have H := HA.out
        clear HA
        simp only [spec_KyMatch.l0] at H
        by_cases c4 : x16_1 < (l0.length : Int)
        · rw [if_pos c4] at H
          have c4b0 : decide (x16_1 < (l0.length : Int)) = true := decide_eq_true c4
          clear c4
          by_cases c5 : 0 ≤ x16_1
          · rw [if_pos c5] at H
            have c5b0 : decide (0 ≤ x16_1) = true := decide_eq_true c5
            clear c5
            by_cases c6 : x16_1 < (l0.length : Int)
            · rw [if_pos c6] at H
              have c6b0 : decide (x16_1 < (l0.length : Int)) = true := decide_eq_true c6
              clear c6
              by_cases c7 : x16_1 < (l1.length : Int)
              · rw [if_pos c7] at H
                have c7b0 : decide (x16_1 < (l1.length : Int)) = true := decide_eq_true c7
                clear c7
                by_cases c8 : (rdOf ByteArray.empty l0 x16_1).toList = (rdOf ByteArray.empty l1 x16_1).toList
                · rw [if_pos c8] at H
                  have c8b0 : ((rdOf ByteArray.empty l0 x16_1).toList == (rdOf ByteArray.empty l1 x16_1).toList) = true := beq_iff_eq.mpr c8
                  have c8b1 : ((rdOf ByteArray.empty l0 x16_1).toList != (rdOf ByteArray.empty l1 x16_1).toList) = false := bne_eq_false_iff_eq.mpr c8
                  clear c8
                  by_cases c9 : x6_1.length < 8796093022208
                  · rw [if_pos c9] at H
                    have LMc9 := Aside0.mk c9
                    clear c9
                    obtain ⟨y104, hy104⟩ : ∃ y_ : List ByteArray, y_ = (x6_1 ++ [rdOf ByteArray.empty l0 x16_1]) := ⟨_, rfl⟩
                    replace H : (spec_KyMatch.l0 k1 l0 l1 y104 true (l0.length : Int) (wrap64 (x16_1 + 1))) = some (r1, r2) := by first | (rw [hy104]; with_reducible exact H) | (have H2_ := (Option.bind_some _ _).symm.trans H; rw [hy104]; with_reducible exact H2_) | (have H2_ := (Option.bind_some _ _).symm.trans H; with_reducible exact H2_) | with_reducible exact H | (rw [hy104]; exact H) | exact H
                    have Ny104 := Aside0.mk hy104
                    clear hy104
                    have H' := Aside0.mk H
                    clear H
                    have p101 : 0 ≤ (x16_1 : Int) := of_decide_eq_true (by first | (with_reducible assumption) | assumption)
                    have q101 : x16_1 < (l0.length : Int) := of_decide_eq_true (by first | (with_reducible assumption) | assumption)
                    obtain ⟨ad101, e101, hx101_0⟩ := Kd.at_string HR0.out x16_1 p101 q101
                    cases e101
                    replace hx101_0 := (HB.out.cell (World.block_lt_of_cell? w _ hx101_0)).trans hx101_0
                    replace p101 := eq_true p101
                    replace q101 := eq_true q101
                    have p102 : 0 ≤ (x16_1 : Int) := of_decide_eq_true (by first | (with_reducible assumption) | assumption)
                    have q102 : x16_1 < (l1.length : Int) := of_decide_eq_true (by first | (with_reducible assumption) | assumption)
                    obtain ⟨ad102, e102, hx102_0⟩ := Kd.at_string HR1.out x16_1 p102 q102
                    cases e102
                    replace hx102_0 := (HB.out.cell (World.block_lt_of_cell? w _ hx102_0)).trans hx102_0
                    replace p102 := eq_true p102
                    replace q102 := eq_true q102
                    have p103 : 0 ≤ (x16_1 : Int) := of_decide_eq_true (by first | (with_reducible assumption) | assumption)
                    have q103 : x16_1 < (l0.length : Int) := of_decide_eq_true (by first | (with_reducible assumption) | assumption)
                    obtain ⟨ad103, e103, hx103_0⟩ := Kd.at_string HR0.out x16_1 p103 q103
                    obtain rfl : ad101 = ad103 := (by injection e103)
                    replace hx103_0 := (HB.out.cell (World.block_lt_of_cell? w _ hx103_0)).trans hx103_0
                    replace p103 := eq_true p103
                    replace q103 := eq_true q103
                    go_wp2_with (first | ((with_reducible refine gate_builtin (b := .append) (xs := #[.tmp 29, .tmp 34]) rfl ?_); at_builtin; refine Kd.R_append Kd.string (w0 := w) w.heap.size rfl (.tmp 29) (.tmp 34) 22 9 (.string ⟨#[]⟩) 16 rfl Try.underlying22 info9 rfl (by decide) (by omega) u6 x6_1 (rdOf ByteArray.empty l0 x16_1) [.string (rdOf ByteArray.empty l0 x16_1)] (fun _ => True) (fun _ => False) rfl rfl ?aP (fun _ hk => hk.elim) ?aF ?aO ?aB ?aS ?aL ?_; (case aP => exact rfl); (case aB => exact (by repeat (first | (with_reducible first | exact HB.out | apply below_alloc | apply pw_below_drewN | apply below_drew1) | exact HB.out))); (case aF => exact (fun _ _ => trivial)); (case aO => exact (by (with_reducible repeat (first | apply Kd.R_alloc | apply Kd.R_drewN | apply Kd.R_drew)); exact HO_6.out)); (case aS => exact (below_size (by repeat (first | (with_reducible first | exact HB.out | apply below_alloc | apply pw_below_drewN | apply below_drew1) | exact HB.out)))); (case aL => have := LMc9.out; omega); intro v105 w10 ho hb hg hat; rw [← Ny104.out] at ho; have n0_ := Aside0.mk (hb); have n1_ := Aside0.mk (ho); clear HB; clear HO_6; have HB := n0_; have HO106 := n1_; clear n0_ n1_; clear ho hb hg hat))
                    repeat (go_quiet (first | ((with_reducible refine gate_builtin (b := .append) (xs := #[.tmp 29, .tmp 34]) rfl ?_); at_builtin; refine Kd.R_append Kd.string (w0 := w) w.heap.size rfl (.tmp 29) (.tmp 34) 22 9 (.string ⟨#[]⟩) 16 rfl Try.underlying22 info9 rfl (by decide) (by omega) u6 x6_1 (rdOf ByteArray.empty l0 x16_1) [.string (rdOf ByteArray.empty l0 x16_1)] (fun _ => True) (fun _ => False) rfl rfl ?aP (fun _ hk => hk.elim) ?aF ?aO ?aB ?aS ?aL ?_; (case aP => exact rfl); (case aB => exact (by repeat (first | (with_reducible first | exact HB.out | apply below_alloc | apply pw_below_drewN | apply below_drew1) | exact HB.out))); (case aF => exact (fun _ _ => trivial)); (case aO => exact (by (with_reducible repeat (first | apply Kd.R_alloc | apply Kd.R_drewN | apply Kd.R_drew)); exact HO_6.out)); (case aS => exact (below_size (by repeat (first | (with_reducible first | exact HB.out | apply below_alloc | apply pw_below_drewN | apply below_drew1) | exact HB.out)))); (case aL => have := LMc9.out; omega); intro v105 w10 ho hb hg hat; rw [← Ny104.out] at ho; have n0_ := Aside0.mk (hb); have n1_ := Aside0.mk (ho); clear HB; clear HO_6; have HB := n0_; have HO106 := n1_; clear n0_ n1_; clear ho hb hg hat)); try go_wp2_with (first | ((with_reducible refine gate_builtin (b := .append) (xs := #[.tmp 29, .tmp 34]) rfl ?_); at_builtin; refine Kd.R_append Kd.string (w0 := w) w.heap.size rfl (.tmp 29) (.tmp 34) 22 9 (.string ⟨#[]⟩) 16 rfl Try.underlying22 info9 rfl (by decide) (by omega) u6 x6_1 (rdOf ByteArray.empty l0 x16_1) [.string (rdOf ByteArray.empty l0 x16_1)] (fun _ => True) (fun _ => False) rfl rfl ?aP (fun _ hk => hk.elim) ?aF ?aO ?aB ?aS ?aL ?_; (case aP => exact rfl); (case aB => exact (by repeat (first | (with_reducible first | exact HB.out | apply below_alloc | apply pw_below_drewN | apply below_drew1) | exact HB.out))); (case aF => exact (fun _ _ => trivial)); (case aO => exact (by (with_reducible repeat (first | apply Kd.R_alloc | apply Kd.R_drewN | apply Kd.R_drew)); exact HO_6.out)); (case aS => exact (below_size (by repeat (first | (with_reducible first | exact HB.out | apply below_alloc | apply pw_below_drewN | apply below_drew1) | exact HB.out)))); (case aL => have := LMc9.out; omega); intro v105 w10 ho hb hg hat; rw [← Ny104.out] at ho; have n0_ := Aside0.mk (hb); have n1_ := Aside0.mk (ho); clear HB; clear HO_6; have HB := n0_; have HO106 := n1_; clear n0_ n1_; clear ho hb hg hat)))
                    go_roundg k1
                    case measure => have := HK1.out; omega
                    case rel => exact ⟨(y104), (true), (wrap64 (x16_1 + 1)), (by first | rfl | (simp; done) | (simp [*]; done)), (by first | rfl | (simp; done) | (simp [*]; done)), H', ⟨by have := HK1.out; omega⟩, ⟨by (with_reducible repeat (first | apply Kd.R_alloc | apply Kd.R_drewN | apply Kd.R_drew)); exact HO106.out⟩, ⟨by repeat (first | (with_reducible first | exact HB.out | apply below_alloc | apply pw_below_drewN | apply below_drew1) | exact HB.out)⟩⟩
                  · rw [if_neg c9] at H
                    exact absurd H (by simp)
                · rw [if_neg c8] at H
                  have c8b0 : ((rdOf ByteArray.empty l0 x16_1).toList == (rdOf ByteArray.empty l1 x16_1).toList) = false := beq_eq_false_iff_ne.mpr c8
                  have c8b1 : ((rdOf ByteArray.empty l0 x16_1).toList != (rdOf ByteArray.empty l1 x16_1).toList) = true := bne_iff_ne.mpr c8
                  by_cases c11 : (rdOf ByteArray.empty l1 x16_1).toList = ([] : List UInt8)
                  · rw [if_pos c11] at H
                    have c11b0 : ((rdOf ByteArray.empty l1 x16_1).toList == ([] : List UInt8)) = true := beq_iff_eq.mpr c11
                    have c11b1 : ((rdOf ByteArray.empty l1 x16_1).toList != ([] : List UInt8)) = false := bne_eq_false_iff_eq.mpr c11
                    clear c11
                    by_cases c12 : x6_1.length < 8796093022208
                    · rw [if_pos c12] at H
                      have LMc12 := Aside0.mk c12
                      clear c12
                      obtain ⟨y109, hy109⟩ : ∃ y_ : List ByteArray, y_ = (x6_1 ++ [rdOf ByteArray.empty l0 x16_1]) := ⟨_, rfl⟩
                      replace H : (spec_KyMatch.l0 k1 l0 l1 y109 x7_1 (l0.length : Int) (wrap64 (x16_1 + 1))) = some (r1, r2) := by first | (rw [hy109]; with_reducible exact H) | (have H2_ := (Option.bind_some _ _).symm.trans H; rw [hy109]; with_reducible exact H2_) | (have H2_ := (Option.bind_some _ _).symm.trans H; with_reducible exact H2_) | with_reducible exact H | (rw [hy109]; exact H) | exact H
                      have Ny109 := Aside0.mk hy109
                      clear hy109
                      have H' := Aside0.mk H
                      clear H
                      have p101 : 0 ≤ (x16_1 : Int) := of_decide_eq_true (by first | (with_reducible assumption) | assumption)
                      have q101 : x16_1 < (l0.length : Int) := of_decide_eq_true (by first | (with_reducible assumption) | assumption)
                      obtain ⟨ad101, e101, hx101_0⟩ := Kd.at_string HR0.out x16_1 p101 q101
                      cases e101
                      replace hx101_0 := (HB.out.cell (World.block_lt_of_cell? w _ hx101_0)).trans hx101_0
                      replace p101 := eq_true p101
                      replace q101 := eq_true q101
                      have p102 : 0 ≤ (x16_1 : Int) := of_decide_eq_true (by first | (with_reducible assumption) | assumption)
                      have q102 : x16_1 < (l1.length : Int) := of_decide_eq_true (by first | (with_reducible assumption) | assumption)
                      obtain ⟨ad102, e102, hx102_0⟩ := Kd.at_string HR1.out x16_1 p102 q102
                      cases e102
                      replace hx102_0 := (HB.out.cell (World.block_lt_of_cell? w _ hx102_0)).trans hx102_0
                      replace p102 := eq_true p102
                      replace q102 := eq_true q102
                      have p107 : 0 ≤ (x16_1 : Int) := of_decide_eq_true (by first | (with_reducible assumption) | assumption)
                      have q107 : x16_1 < (l1.length : Int) := of_decide_eq_true (by first | (with_reducible assumption) | assumption)
                      obtain ⟨ad107, e107, hx107_0⟩ := Kd.at_string HR1.out x16_1 p107 q107
                      obtain rfl : ad102 = ad107 := (by injection e107)
                      replace hx107_0 := (HB.out.cell (World.block_lt_of_cell? w _ hx107_0)).trans hx107_0
                      replace p107 := eq_true p107
                      replace q107 := eq_true q107
                      have p108 : 0 ≤ (x16_1 : Int) := of_decide_eq_true (by first | (with_reducible assumption) | assumption)
                      have q108 : x16_1 < (l0.length : Int) := of_decide_eq_true (by first | (with_reducible assumption) | assumption)
                      obtain ⟨ad108, e108, hx108_0⟩ := Kd.at_string HR0.out x16_1 p108 q108
                      obtain rfl : ad101 = ad108 := (by injection e108)
                      replace hx108_0 := (HB.out.cell (World.block_lt_of_cell? w _ hx108_0)).trans hx108_0
                      replace p108 := eq_true p108
                      replace q108 := eq_true q108
                      go_wp2_with (first | ((with_reducible refine gate_builtin (b := .append) (xs := #[.tmp 42, .tmp 47]) rfl ?_); at_builtin; refine Kd.R_append Kd.string (w0 := w) w.heap.size rfl (.tmp 42) (.tmp 47) 22 9 (.string ⟨#[]⟩) 16 rfl Try.underlying22 info9 rfl (by decide) (by omega) u6 x6_1 (rdOf ByteArray.empty l0 x16_1) [.string (rdOf ByteArray.empty l0 x16_1)] (fun _ => True) (fun _ => False) rfl rfl ?aP (fun _ hk => hk.elim) ?aF ?aO ?aB ?aS ?aL ?_; (case aP => exact rfl); (case aB => exact (by repeat (first | (with_reducible first | exact HB.out | apply below_alloc | apply pw_below_drewN | apply below_drew1) | exact HB.out))); (case aF => exact (fun _ _ => trivial)); (case aO => exact (by (with_reducible repeat (first | apply Kd.R_alloc | apply Kd.R_drewN | apply Kd.R_drew)); exact HO_6.out)); (case aS => exact (below_size (by repeat (first | (with_reducible first | exact HB.out | apply below_alloc | apply pw_below_drewN | apply below_drew1) | exact HB.out)))); (case aL => have := LMc12.out; omega); intro v110 w13 ho hb hg hat; rw [← Ny109.out] at ho; have n0_ := Aside0.mk (hb); have n1_ := Aside0.mk (ho); clear HB; clear HO_6; have HB := n0_; have HO111 := n1_; clear n0_ n1_; clear ho hb hg hat))
                      repeat (go_quiet (first | ((with_reducible refine gate_builtin (b := .append) (xs := #[.tmp 42, .tmp 47]) rfl ?_); at_builtin; refine Kd.R_append Kd.string (w0 := w) w.heap.size rfl (.tmp 42) (.tmp 47) 22 9 (.string ⟨#[]⟩) 16 rfl Try.underlying22 info9 rfl (by decide) (by omega) u6 x6_1 (rdOf ByteArray.empty l0 x16_1) [.string (rdOf ByteArray.empty l0 x16_1)] (fun _ => True) (fun _ => False) rfl rfl ?aP (fun _ hk => hk.elim) ?aF ?aO ?aB ?aS ?aL ?_; (case aP => exact rfl); (case aB => exact (by repeat (first | (with_reducible first | exact HB.out | apply below_alloc | apply pw_below_drewN | apply below_drew1) | exact HB.out))); (case aF => exact (fun _ _ => trivial)); (case aO => exact (by (with_reducible repeat (first | apply Kd.R_alloc | apply Kd.R_drewN | apply Kd.R_drew)); exact HO_6.out)); (case aS => exact (below_size (by repeat (first | (with_reducible first | exact HB.out | apply below_alloc | apply pw_below_drewN | apply below_drew1) | exact HB.out)))); (case aL => have := LMc12.out; omega); intro v110 w13 ho hb hg hat; rw [← Ny109.out] at ho; have n0_ := Aside0.mk (hb); have n1_ := Aside0.mk (ho); clear HB; clear HO_6; have HB := n0_; have HO111 := n1_; clear n0_ n1_; clear ho hb hg hat)); try go_wp2_with (first | ((with_reducible refine gate_builtin (b := .append) (xs := #[.tmp 42, .tmp 47]) rfl ?_); at_builtin; refine Kd.R_append Kd.string (w0 := w) w.heap.size rfl (.tmp 42) (.tmp 47) 22 9 (.string ⟨#[]⟩) 16 rfl Try.underlying22 info9 rfl (by decide) (by omega) u6 x6_1 (rdOf ByteArray.empty l0 x16_1) [.string (rdOf ByteArray.empty l0 x16_1)] (fun _ => True) (fun _ => False) rfl rfl ?aP (fun _ hk => hk.elim) ?aF ?aO ?aB ?aS ?aL ?_; (case aP => exact rfl); (case aB => exact (by repeat (first | (with_reducible first | exact HB.out | apply below_alloc | apply pw_below_drewN | apply below_drew1) | exact HB.out))); (case aF => exact (fun _ _ => trivial)); (case aO => exact (by (with_reducible repeat (first | apply Kd.R_alloc | apply Kd.R_drewN | apply Kd.R_drew)); exact HO_6.out)); (case aS => exact (below_size (by repeat (first | (with_reducible first | exact HB.out | apply below_alloc | apply pw_below_drewN | apply below_drew1) | exact HB.out)))); (case aL => have := LMc12.out; omega); intro v110 w13 ho hb hg hat; rw [← Ny109.out] at ho; have n0_ := Aside0.mk (hb); have n1_ := Aside0.mk (ho); clear HB; clear HO_6; have HB := n0_; have HO111 := n1_; clear n0_ n1_; clear ho hb hg hat)))
                      go_roundg k1
                      case measure => have := HK1.out; omega
                      case rel => exact ⟨(y109), (x7_1), (wrap64 (x16_1 + 1)), (by first | rfl | (simp; done) | (simp [*]; done)), (by first | rfl | (simp; done) | (simp [*]; done)), H', ⟨by have := HK1.out; omega⟩, ⟨by (with_reducible repeat (first | apply Kd.R_alloc | apply Kd.R_drewN | apply Kd.R_drew)); exact HO111.out⟩, ⟨by repeat (first | (with_reducible first | exact HB.out | apply below_alloc | apply pw_below_drewN | apply below_drew1) | exact HB.out)⟩⟩
                    · rw [if_neg c12] at H
                      exact absurd H (by simp)
                  · rw [if_neg c11] at H
                    have c11b0 : ((rdOf ByteArray.empty l1 x16_1).toList == ([] : List UInt8)) = false := beq_eq_false_iff_ne.mpr c11
                    have c11b1 : ((rdOf ByteArray.empty l1 x16_1).toList != ([] : List UInt8)) = true := bne_iff_ne.mpr c11
                    by_cases c14 : (rdOf ByteArray.empty l0 x16_1).toList = ([] : List UInt8)
                    · rw [if_pos c14] at H
                      have c14b0 : ((rdOf ByteArray.empty l0 x16_1).toList == ([] : List UInt8)) = true := beq_iff_eq.mpr c14
                      have c14b1 : ((rdOf ByteArray.empty l0 x16_1).toList != ([] : List UInt8)) = false := bne_eq_false_iff_eq.mpr c14
                      clear c14
                      by_cases c15 : x6_1.length < 8796093022208
                      · rw [if_pos c15] at H
                        have LMc15 := Aside0.mk c15
                        clear c15
                        obtain ⟨y114, hy114⟩ : ∃ y_ : List ByteArray, y_ = (x6_1 ++ [rdOf ByteArray.empty l1 x16_1]) := ⟨_, rfl⟩
                        replace H : (spec_KyMatch.l0 k1 l0 l1 y114 x7_1 (l0.length : Int) (wrap64 (x16_1 + 1))) = some (r1, r2) := by first | (rw [hy114]; with_reducible exact H) | (have H2_ := (Option.bind_some _ _).symm.trans H; rw [hy114]; with_reducible exact H2_) | (have H2_ := (Option.bind_some _ _).symm.trans H; with_reducible exact H2_) | with_reducible exact H | (rw [hy114]; exact H) | exact H
                        have Ny114 := Aside0.mk hy114
                        clear hy114
                        have H' := Aside0.mk H
                        clear H
                        have p101 : 0 ≤ (x16_1 : Int) := of_decide_eq_true (by first | (with_reducible assumption) | assumption)
                        have q101 : x16_1 < (l0.length : Int) := of_decide_eq_true (by first | (with_reducible assumption) | assumption)
                        obtain ⟨ad101, e101, hx101_0⟩ := Kd.at_string HR0.out x16_1 p101 q101
                        cases e101
                        replace hx101_0 := (HB.out.cell (World.block_lt_of_cell? w _ hx101_0)).trans hx101_0
                        replace p101 := eq_true p101
                        replace q101 := eq_true q101
                        have p102 : 0 ≤ (x16_1 : Int) := of_decide_eq_true (by first | (with_reducible assumption) | assumption)
                        have q102 : x16_1 < (l1.length : Int) := of_decide_eq_true (by first | (with_reducible assumption) | assumption)
                        obtain ⟨ad102, e102, hx102_0⟩ := Kd.at_string HR1.out x16_1 p102 q102
                        cases e102
                        replace hx102_0 := (HB.out.cell (World.block_lt_of_cell? w _ hx102_0)).trans hx102_0
                        replace p102 := eq_true p102
                        replace q102 := eq_true q102
                        have p107 : 0 ≤ (x16_1 : Int) := of_decide_eq_true (by first | (with_reducible assumption) | assumption)
                        have q107 : x16_1 < (l1.length : Int) := of_decide_eq_true (by first | (with_reducible assumption) | assumption)
                        obtain ⟨ad107, e107, hx107_0⟩ := Kd.at_string HR1.out x16_1 p107 q107
                        obtain rfl : ad102 = ad107 := (by injection e107)
                        replace hx107_0 := (HB.out.cell (World.block_lt_of_cell? w _ hx107_0)).trans hx107_0
                        replace p107 := eq_true p107
                        replace q107 := eq_true q107
                        have p112 : 0 ≤ (x16_1 : Int) := of_decide_eq_true (by first | (with_reducible assumption) | assumption)
                        have q112 : x16_1 < (l0.length : Int) := of_decide_eq_true (by first | (with_reducible assumption) | assumption)
                        obtain ⟨ad112, e112, hx112_0⟩ := Kd.at_string HR0.out x16_1 p112 q112
                        obtain rfl : ad101 = ad112 := (by injection e112)
                        replace hx112_0 := (HB.out.cell (World.block_lt_of_cell? w _ hx112_0)).trans hx112_0
                        replace p112 := eq_true p112
                        replace q112 := eq_true q112
                        have p113 : 0 ≤ (x16_1 : Int) := of_decide_eq_true (by first | (with_reducible assumption) | assumption)
                        have q113 : x16_1 < (l1.length : Int) := of_decide_eq_true (by first | (with_reducible assumption) | assumption)
                        obtain ⟨ad113, e113, hx113_0⟩ := Kd.at_string HR1.out x16_1 p113 q113
                        obtain rfl : ad102 = ad113 := (by injection e113)
                        replace hx113_0 := (HB.out.cell (World.block_lt_of_cell? w _ hx113_0)).trans hx113_0
                        replace p113 := eq_true p113
                        replace q113 := eq_true q113
                        go_wp2_with (first | ((with_reducible refine gate_builtin (b := .append) (xs := #[.tmp 55, .tmp 60]) rfl ?_); at_builtin; refine Kd.R_append Kd.string (w0 := w) w.heap.size rfl (.tmp 55) (.tmp 60) 22 9 (.string ⟨#[]⟩) 16 rfl Try.underlying22 info9 rfl (by decide) (by omega) u6 x6_1 (rdOf ByteArray.empty l1 x16_1) [.string (rdOf ByteArray.empty l1 x16_1)] (fun _ => True) (fun _ => False) rfl rfl ?aP (fun _ hk => hk.elim) ?aF ?aO ?aB ?aS ?aL ?_; (case aP => exact rfl); (case aB => exact (by repeat (first | (with_reducible first | exact HB.out | apply below_alloc | apply pw_below_drewN | apply below_drew1) | exact HB.out))); (case aF => exact (fun _ _ => trivial)); (case aO => exact (by (with_reducible repeat (first | apply Kd.R_alloc | apply Kd.R_drewN | apply Kd.R_drew)); exact HO_6.out)); (case aS => exact (below_size (by repeat (first | (with_reducible first | exact HB.out | apply below_alloc | apply pw_below_drewN | apply below_drew1) | exact HB.out)))); (case aL => have := LMc15.out; omega); intro v115 w16 ho hb hg hat; rw [← Ny114.out] at ho; have n0_ := Aside0.mk (hb); have n1_ := Aside0.mk (ho); clear HB; clear HO_6; have HB := n0_; have HO116 := n1_; clear n0_ n1_; clear ho hb hg hat))
                        repeat (go_quiet (first | ((with_reducible refine gate_builtin (b := .append) (xs := #[.tmp 55, .tmp 60]) rfl ?_); at_builtin; refine Kd.R_append Kd.string (w0 := w) w.heap.size rfl (.tmp 55) (.tmp 60) 22 9 (.string ⟨#[]⟩) 16 rfl Try.underlying22 info9 rfl (by decide) (by omega) u6 x6_1 (rdOf ByteArray.empty l1 x16_1) [.string (rdOf ByteArray.empty l1 x16_1)] (fun _ => True) (fun _ => False) rfl rfl ?aP (fun _ hk => hk.elim) ?aF ?aO ?aB ?aS ?aL ?_; (case aP => exact rfl); (case aB => exact (by repeat (first | (with_reducible first | exact HB.out | apply below_alloc | apply pw_below_drewN | apply below_drew1) | exact HB.out))); (case aF => exact (fun _ _ => trivial)); (case aO => exact (by (with_reducible repeat (first | apply Kd.R_alloc | apply Kd.R_drewN | apply Kd.R_drew)); exact HO_6.out)); (case aS => exact (below_size (by repeat (first | (with_reducible first | exact HB.out | apply below_alloc | apply pw_below_drewN | apply below_drew1) | exact HB.out)))); (case aL => have := LMc15.out; omega); intro v115 w16 ho hb hg hat; rw [← Ny114.out] at ho; have n0_ := Aside0.mk (hb); have n1_ := Aside0.mk (ho); clear HB; clear HO_6; have HB := n0_; have HO116 := n1_; clear n0_ n1_; clear ho hb hg hat)); try go_wp2_with (first | ((with_reducible refine gate_builtin (b := .append) (xs := #[.tmp 55, .tmp 60]) rfl ?_); at_builtin; refine Kd.R_append Kd.string (w0 := w) w.heap.size rfl (.tmp 55) (.tmp 60) 22 9 (.string ⟨#[]⟩) 16 rfl Try.underlying22 info9 rfl (by decide) (by omega) u6 x6_1 (rdOf ByteArray.empty l1 x16_1) [.string (rdOf ByteArray.empty l1 x16_1)] (fun _ => True) (fun _ => False) rfl rfl ?aP (fun _ hk => hk.elim) ?aF ?aO ?aB ?aS ?aL ?_; (case aP => exact rfl); (case aB => exact (by repeat (first | (with_reducible first | exact HB.out | apply below_alloc | apply pw_below_drewN | apply below_drew1) | exact HB.out))); (case aF => exact (fun _ _ => trivial)); (case aO => exact (by (with_reducible repeat (first | apply Kd.R_alloc | apply Kd.R_drewN | apply Kd.R_drew)); exact HO_6.out)); (case aS => exact (below_size (by repeat (first | (with_reducible first | exact HB.out | apply below_alloc | apply pw_below_drewN | apply below_drew1) | exact HB.out)))); (case aL => have := LMc15.out; omega); intro v115 w16 ho hb hg hat; rw [← Ny114.out] at ho; have n0_ := Aside0.mk (hb); have n1_ := Aside0.mk (ho); clear HB; clear HO_6; have HB := n0_; have HO116 := n1_; clear n0_ n1_; clear ho hb hg hat)))
                        go_roundg k1
                        case measure => have := HK1.out; omega
                        case rel => exact ⟨(y114), (x7_1), (wrap64 (x16_1 + 1)), (by first | rfl | (simp; done) | (simp [*]; done)), (by first | rfl | (simp; done) | (simp [*]; done)), H', ⟨by have := HK1.out; omega⟩, ⟨by (with_reducible repeat (first | apply Kd.R_alloc | apply Kd.R_drewN | apply Kd.R_drew)); exact HO116.out⟩, ⟨by repeat (first | (with_reducible first | exact HB.out | apply below_alloc | apply pw_below_drewN | apply below_drew1) | exact HB.out)⟩⟩
                      · rw [if_neg c15] at H
                        exact absurd H (by simp)
                    · rw [if_neg c14] at H
                      have c14b0 : ((rdOf ByteArray.empty l0 x16_1).toList == ([] : List UInt8)) = false := beq_eq_false_iff_ne.mpr c14
                      have c14b1 : ((rdOf ByteArray.empty l0 x16_1).toList != ([] : List UInt8)) = true := bne_iff_ne.mpr c14
                      simp only [Option.some.injEq, Prod.mk.injEq] at H
                      obtain ⟨rfl, rfl⟩ := H
                      have p101 : 0 ≤ (x16_1 : Int) := of_decide_eq_true (by first | (with_reducible assumption) | assumption)
                      have q101 : x16_1 < (l0.length : Int) := of_decide_eq_true (by first | (with_reducible assumption) | assumption)
                      obtain ⟨ad101, e101, hx101_0⟩ := Kd.at_string HR0.out x16_1 p101 q101
                      cases e101
                      replace hx101_0 := (HB.out.cell (World.block_lt_of_cell? w _ hx101_0)).trans hx101_0
                      replace p101 := eq_true p101
                      replace q101 := eq_true q101
                      have p102 : 0 ≤ (x16_1 : Int) := of_decide_eq_true (by first | (with_reducible assumption) | assumption)
                      have q102 : x16_1 < (l1.length : Int) := of_decide_eq_true (by first | (with_reducible assumption) | assumption)
                      obtain ⟨ad102, e102, hx102_0⟩ := Kd.at_string HR1.out x16_1 p102 q102
                      cases e102
                      replace hx102_0 := (HB.out.cell (World.block_lt_of_cell? w _ hx102_0)).trans hx102_0
                      replace p102 := eq_true p102
                      replace q102 := eq_true q102
                      have p107 : 0 ≤ (x16_1 : Int) := of_decide_eq_true (by first | (with_reducible assumption) | assumption)
                      have q107 : x16_1 < (l1.length : Int) := of_decide_eq_true (by first | (with_reducible assumption) | assumption)
                      obtain ⟨ad107, e107, hx107_0⟩ := Kd.at_string HR1.out x16_1 p107 q107
                      obtain rfl : ad102 = ad107 := (by injection e107)
                      replace hx107_0 := (HB.out.cell (World.block_lt_of_cell? w _ hx107_0)).trans hx107_0
                      replace p107 := eq_true p107
                      replace q107 := eq_true q107
                      have p112 : 0 ≤ (x16_1 : Int) := of_decide_eq_true (by first | (with_reducible assumption) | assumption)
                      have q112 : x16_1 < (l0.length : Int) := of_decide_eq_true (by first | (with_reducible assumption) | assumption)
                      obtain ⟨ad112, e112, hx112_0⟩ := Kd.at_string HR0.out x16_1 p112 q112
                      obtain rfl : ad101 = ad112 := (by injection e112)
                      replace hx112_0 := (HB.out.cell (World.block_lt_of_cell? w _ hx112_0)).trans hx112_0
                      replace p112 := eq_true p112
                      replace q112 := eq_true q112
                      go_wp2
                      repeat (go_quiet (fail); try go_wp2)
                      go_ret2
                      exact ⟨_, by first | rfl | (simp [errW_none, errW_some] <;> rfl) | (simp [*, errW_none, errW_some] <;> rfl), by first | exact Kd.R_nil _ _ _ _ _ | exact Kd.N_nil _ _ _ _ _ | exact Kd.V_nil _ _ _ _ _ | exact Kd.Q_nil _ _ _ _ _ | exact Kd.S_nil _ _ _ _ _, by repeat (first | (with_reducible first | exact HB.out | apply below_alloc | apply pw_below_drewN | apply below_drew1) | exact HB.out)⟩
              · rw [if_neg c7] at H
                exact absurd H (by simp)
            · rw [if_neg c6] at H
              exact absurd H (by simp)
          · rw [if_neg c5] at H
            exact absurd H (by simp)
        · rw [if_neg c4] at H
          have c4b0 : decide (x16_1 < (l0.length : Int)) = false := decide_eq_false c4
          clear c4
          simp only [Option.some.injEq, Prod.mk.injEq] at H
          obtain ⟨rfl, rfl⟩ := H
          go_wp2
          repeat (go_quiet (fail); try go_wp2)
          go_ret2
          exact ⟨_, by first | rfl | (simp [errW_none, errW_some] <;> rfl) | (simp [*, errW_none, errW_some] <;> rfl), by (with_reducible repeat (first | apply Kd.R_alloc | apply Kd.R_drewN | apply Kd.R_drew)); exact HO_6.out, by repeat (first | (with_reducible first | exact HB.out | apply below_alloc | apply pw_below_drewN | apply below_drew1) | exact HB.out)⟩
  · rw [if_neg c3] at H
    have c3b0 : ((l0.length : Int) == (l1.length : Int)) = false := beq_eq_false_iff_ne.mpr c3
    have c3b1 : ((l0.length : Int) != (l1.length : Int)) = true := bne_iff_ne.mpr c3
    have c3b2 : (l0.length == l1.length) = false := by first | simpa using c3 | (simp at c3 ⊢; omega)
    simp only [Option.some.injEq, Prod.mk.injEq] at H
    obtain ⟨rfl, rfl⟩ := H
    go_enter Try.func13, Try.ntmps13
    go_wp2
    repeat (go_quiet (fail); try go_wp2)
    go_ret2
    exact ⟨_, by first | rfl | (simp [errW_none, errW_some] <;> rfl) | (simp [*, errW_none, errW_some] <;> rfl), by first | exact Kd.R_nil _ _ _ _ _ | exact Kd.N_nil _ _ _ _ _ | exact Kd.V_nil _ _ _ _ _ | exact Kd.Q_nil _ _ _ _ _ | exact Kd.S_nil _ _ _ _ _, by repeat (first | (with_reducible first | exact HB.out | apply below_alloc | apply pw_below_drewN | apply below_drew1) | exact HB.out)⟩

end Go.Proofs.Ytefejcggkkmhaaa.PKyMatch
