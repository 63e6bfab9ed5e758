-- PRINTED BY print.sh 35421559b90ae4d0a3588c463048766b98c2df88dd9212a6774a882060cdf62d: not written by this session
import Derived.Test.YtgdffbjkafbkcaaPJoinedx0
namespace Go.Proofs.Ytgdffbjkafbkcaa.PJoined
open Go.RowKit Go.Proofs.YtgdffbjkafbkcaaW.PrintWords Go.Proofs.YtgdffbjkafbkcaaW.PrintLast Go.Proofs.YtgdffbjkafbkcaaW.PrintMore
attribute [local go_sem] max2_int min2_int max_two min_two max_three min_three max_four min_four   -- for this text's walks alone
set_option linter.unusedVariables false
set_option linter.unusedSimpArgs false

/-! ### spec_Joined: function 8 -/
mutual
def spec_Joined.l0 : Nat → Int → List Int → List ByteArray → Int → Int → Option (ByteArray)
  | 0, _, _, _, _, _ => none
  | k + 1, x1, x5, x9, x10, x11 => if x11 < x10 then (if 0 ≤ x11 then (if x11 < (x9.length : Int) then (if x11 > 0 then (if x5.length < 140737488355328 then (spec_Joined.j1 k x1 (x5 ++ [x1]) (rdOf ByteArray.empty x9 x11) x9 x10 x11) else (none)) else (spec_Joined.j1 k x1 x5 (rdOf ByteArray.empty x9 x11) x9 x10 x11)) else (none)) else (none)) else (some (strOfNums x5))
def spec_Joined.j1 : Nat → Int → List Int → ByteArray → List ByteArray → Int → Int → Option (ByteArray)
  | 0, _, _, _, _, _, _ => none
  | k + 1, x1, x5, x7, x9, x10, x11 => spec_Joined.l1 k x1 x5 x7 x9 x10 x11 (x7.size : Int) 0
def spec_Joined.l1 : Nat → Int → List Int → ByteArray → List ByteArray → Int → Int → Int → Int → Option (ByteArray)
  | 0, _, _, _, _, _, _, _, _ => none
  | k + 1, x1, x5, x7, x9, x10, x11, x23, x24 => if x24 < x23 then (if 0 ≤ x24 then (if x24 < (x7.size : Int) then (if (bt x7 x24) = x1 then (if x5.length < 140737488355328 then ((some (x5 ++ [92] : List Int)).bind fun y105 => (if y105.length < 140737488355328 then (spec_Joined.l1 k x1 (y105 ++ [bt x7 x24]) x7 x9 x10 x11 x23 (wrap64 (x24 + 1))) else (none))) else (none)) else (if x5.length < 140737488355328 then (spec_Joined.l1 k x1 (x5 ++ [bt x7 x24]) x7 x9 x10 x11 x23 (wrap64 (x24 + 1))) else (none))) else (none)) else (none)) else (spec_Joined.l0 k x1 x5 x9 x10 (wrap64 (x11 + 1)))
end
def spec_Joined.f (k : Nat) (l0 : List ByteArray) (a1 : Int) : Option (ByteArray) := spec_Joined.l0 k a1 ([] : List Int) l0 (l0.length : Int) 0
theorem spec_Joined.mono_l : ∀ k, (∀ y0 y1 y2 y3 y4, LeO (spec_Joined.l0 k y0 y1 y2 y3 y4) (spec_Joined.l0 (k + 1) y0 y1 y2 y3 y4)) ∧ (∀ y0 y1 y2 y3 y4 y5, LeO (spec_Joined.j1 k y0 y1 y2 y3 y4 y5) (spec_Joined.j1 (k + 1) y0 y1 y2 y3 y4 y5)) ∧ (∀ y0 y1 y2 y3 y4 y5 y6 y7, LeO (spec_Joined.l1 k y0 y1 y2 y3 y4 y5 y6 y7) (spec_Joined.l1 (k + 1) y0 y1 y2 y3 y4 y5 y6 y7))
  | 0 => ⟨fun _ _ _ _ _ r h => by simp [spec_Joined.l0] at h, fun _ _ _ _ _ _ r h => by simp [spec_Joined.j1] at h, fun _ _ _ _ _ _ _ _ r h => by simp [spec_Joined.l1] at h⟩
  | k + 1 => by
    obtain ⟨ih0, ih1, ih2⟩ := spec_Joined.mono_l k
    refine ⟨?_, ?_, ?_⟩
    · intro y0 y1 y2 y3 y4
      unfold spec_Joined.l0
      repeat' first
      | (with_reducible exact ih0 _ _ _ _ _)
      | (with_reducible exact ih1 _ _ _ _ _ _)
      | (with_reducible exact ih2 _ _ _ _ _ _ _ _)
      | (with_reducible exact LeO.refl _)
      | (with_reducible exact LeO.none _)
      | (with_reducible refine LeO.ite ?_ ?_)
      | (with_reducible refine LeO.bind ?_ (fun _ => ?_))
      | exact ih0 _ _ _ _ _
      | exact ih1 _ _ _ _ _ _
      | exact ih2 _ _ _ _ _ _ _ _
      | exact LeO.none _
      | refine LeO.ite ?_ ?_
      | refine LeO.bind ?_ (fun _ => ?_)
    · intro y0 y1 y2 y3 y4 y5
      unfold spec_Joined.j1
      repeat' first
      | (with_reducible exact ih0 _ _ _ _ _)
      | (with_reducible exact ih1 _ _ _ _ _ _)
      | (with_reducible exact ih2 _ _ _ _ _ _ _ _)
      | (with_reducible exact LeO.refl _)
      | (with_reducible exact LeO.none _)
      | (with_reducible refine LeO.ite ?_ ?_)
      | (with_reducible refine LeO.bind ?_ (fun _ => ?_))
      | exact ih0 _ _ _ _ _
      | exact ih1 _ _ _ _ _ _
      | exact ih2 _ _ _ _ _ _ _ _
      | exact LeO.none _
      | refine LeO.ite ?_ ?_
      | refine LeO.bind ?_ (fun _ => ?_)
    · intro y0 y1 y2 y3 y4 y5 y6 y7
      unfold spec_Joined.l1
      repeat' first
      | (with_reducible exact ih0 _ _ _ _ _)
      | (with_reducible exact ih1 _ _ _ _ _ _)
      | (with_reducible exact ih2 _ _ _ _ _ _ _ _)
      | (with_reducible exact LeO.refl _)
      | (with_reducible exact LeO.none _)
      | (with_reducible refine LeO.ite ?_ ?_)
      | (with_reducible refine LeO.bind ?_ (fun _ => ?_))
      | exact ih0 _ _ _ _ _
      | exact ih1 _ _ _ _ _ _
      | exact ih2 _ _ _ _ _ _ _ _
      | exact LeO.none _
      | refine LeO.ite ?_ ?_
      | refine LeO.bind ?_ (fun _ => ?_)
theorem spec_Joined.mono : ∀ a0 a1 k, LeO (spec_Joined.f k a0 a1) (spec_Joined.f (k + 1) a0 a1) := by
  intro a0 a1 k
  obtain ⟨ih0, ih1, ih2⟩ := spec_Joined.mono_l k
  unfold spec_Joined.f
  repeat' first
      | (with_reducible exact ih0 _ _ _ _ _)
      | (with_reducible exact ih1 _ _ _ _ _ _)
      | (with_reducible exact ih2 _ _ _ _ _ _ _ _)
      | (with_reducible exact LeO.refl _)
      | (with_reducible exact LeO.none _)
      | (with_reducible refine LeO.ite ?_ ?_)
      | (with_reducible refine LeO.bind ?_ (fun _ => ?_))
      | exact ih0 _ _ _ _ _
      | exact ih1 _ _ _ _ _ _
      | exact ih2 _ _ _ _ _ _ _ _
      | exact LeO.none _
      | refine LeO.ite ?_ ?_
      | refine LeO.bind ?_ (fun _ => ?_)
set_option maxHeartbeats 8000000 in
set_option maxRecDepth 100000 in
theorem spec_Joined.calls (k : Nat) (A0 : Option Addr) (c0 : Nat) (l0 : List ByteArray) (a1 : Int) (r : ByteArray) (w : World) (hr0 : Kd.C Kd.string w A0 l0.length l0) (hc0 : l0.length ≤ c0) (h : spec_Joined.f k l0 a1 = some r) :
    Calls Try.prog 8 #[.slice A0 l0.length c0, .int .u8 a1] w fun e w' => e = .returned (.string r) ∧ Below w.heap.size w w' := by
  have HR0 := Aside0.mk hr0
  have HC0 := Aside0.mk hc0
  clear hr0 hc0
  have HB := Aside0.mk (Below.refl w.heap.size w)
  have H : (spec_Joined.l0 k a1 ([] : List Int) l0 (l0.length : Int) 0) = some r := h
  clear h
  have H' := Aside0.mk H
  clear H
  go_enter Try.func8, Try.ntmps8
  go_wp2
  go_loopg [5, 11] k (fun kq v5 v11 w' => ∃ (x5_1 : List Int) (x11_1 : Int), v11 = .int .i64 x11_1 ∧ Aside0 (spec_Joined.l0 kq a1 x5_1 l0 (l0.length : Int) x11_1 = some r) ∧ Aside0 (kq ≤ k) ∧ Aside0 (Kd.R (Kd.int .u8) 5 w' w.heap.size (fun _ => True) v5 x5_1) ∧ Aside0 (Below w.heap.size w w'))
  case atStart => exact ⟨(([] : List Int)), (0), (by first | rfl | (simp; done) | (simp [*]; done)), H', ⟨Nat.le_refl _⟩, ⟨by first | exact Kd.R_nil _ _ _ _ _ | exact Kd.N_nil _ _ _ _ _ | exact Kd.V_nil _ _ _ _ _ | exact Kd.Q_nil _ _ _ _ _ | exact Kd.S_nil _ _ _ _ _⟩, ⟨by repeat (first | (with_reducible first | exact HB.out | apply below_alloc | apply pw_below_drewN | apply below_drew1) | exact HB.out)⟩⟩
  case round =>
    clear H'
    try clear p2
    obtain ⟨x5_1, x11_1, rfl, HA, HK1, HO_5, HB⟩ := hrel
    cases gk with
    | zero => exact absurd HA.out (by simp [spec_Joined.l0])
    | succ k1 =>
      have H := HA.out
      clear HA
      simp only [spec_Joined.l0] at H
      by_cases c3 : x11_1 < (l0.length : Int)
      · rw [if_pos c3] at H
        have c3b0 : decide (x11_1 < (l0.length : Int)) = true := decide_eq_true c3
        clear c3
        by_cases c4 : 0 ≤ x11_1
        · rw [if_pos c4] at H
          have c4b0 : decide (0 ≤ x11_1) = true := decide_eq_true c4
          clear c4
          by_cases c5 : x11_1 < (l0.length : Int)
          · rw [if_pos c5] at H
            have c5b0 : decide (x11_1 < (l0.length : Int)) = true := decide_eq_true c5
            clear c5
            have HC6 := Aside0.mk H
            clear H
            have p101 : 0 ≤ (x11_1 : Int) := of_decide_eq_true (by first | (with_reducible assumption) | assumption)
            have q101 : x11_1 < (l0.length : Int) := of_decide_eq_true (by first | (with_reducible assumption) | assumption)
            obtain ⟨ad101, e101, hx101_0⟩ := Kd.at_string HR0.out x11_1 p101 q101
            cases e101
            replace hx101_0 := (HB.out.cell (World.block_lt_of_cell? w _ hx101_0)).trans hx101_0
            replace p101 := eq_true p101
            replace q101 := eq_true q101
            go_upto_if 17 with (fail)
            go_cut [5] (fun v5 wc => ∃ (kq : Nat) (x5_5 : List Int), Aside0 (spec_Joined.j1 kq a1 x5_5 (rdOf ByteArray.empty l0 x11_1) l0 (l0.length : Int) x11_1 = some r) ∧ Aside0 (kq ≤ k1) ∧ Aside0 (Kd.R (Kd.int .u8) 5 wc w.heap.size (fun _ => True) v5 x5_5) ∧ Aside0 (Below w.heap.size w wc))
            case first =>
              have H := HC6.out
              clear HC6
              by_cases c7 : x11_1 > 0
              · rw [if_pos c7] at H
                have c7b0 : decide (0 < x11_1) = true := decide_eq_true c7
                clear c7
                (first | rw [c7b0] | (simp only [i64_w, i32_w]; rw [c7b0]) | skip)
                by_cases c8 : x5_1.length < 140737488355328
                · rw [if_pos c8] at H
                  have LMc8 := Aside0.mk c8
                  clear c8
                  obtain ⟨y102, hy102⟩ : ∃ y_ : List Int, y_ = (x5_1 ++ [a1]) := ⟨_, rfl⟩
                  replace H : (spec_Joined.j1 k1 a1 y102 (rdOf ByteArray.empty l0 x11_1) l0 (l0.length : Int) x11_1) = some r := by first | (rw [hy102]; with_reducible exact H) | (have H2_ := (Option.bind_some _ _).symm.trans H; rw [hy102]; with_reducible exact H2_) | (have H2_ := (Option.bind_some _ _).symm.trans H; with_reducible exact H2_) | with_reducible exact H | (rw [hy102]; exact H) | exact H
                  have Ny102 := Aside0.mk hy102
                  clear hy102
                  have H' := Aside0.mk H
                  clear H
                  go_wp2_with (first | ((with_reducible refine gate_builtin (b := .append) (xs := #[.tmp 18, .tmp 20]) rfl ?_); at_builtin; refine Kd.R_append (Kd.int .u8) (w0 := w) w.heap.size rfl (.tmp 18) (.tmp 20) 32 5 (.int .u8 0) 1 rfl Try.underlying32 info5 rfl (by decide) (by omega) u5 x5_1 a1 [.int .u8 a1] (fun _ => True) (fun _ => False) rfl rfl ?aP (fun _ hk => hk.elim) ?aF ?aO ?aB ?aS ?aL ?_; (case aP => exact rfl); (case aB => exact (by repeat (first | (with_reducible first | exact HB.out | apply below_alloc | apply pw_below_drewN | apply below_drew1) | exact HB.out))); (case aF => exact (fun _ _ => trivial)); (case aO => exact (by (with_reducible repeat (first | apply Kd.R_alloc | apply Kd.R_drewN | apply Kd.R_drew)); exact HO_5.out)); (case aS => exact (below_size (by repeat (first | (with_reducible first | exact HB.out | apply below_alloc | apply pw_below_drewN | apply below_drew1) | exact HB.out)))); (case aL => have := LMc8.out; omega); intro v103 w9 ho hb hg hat; rw [← Ny102.out] at ho; have n0_ := Aside0.mk (hb); have n1_ := Aside0.mk (ho); clear HB; clear HO_5; have HB := n0_; have HO104 := n1_; clear n0_ n1_; clear ho hb hg hat))
                  go_meet
                  case rel => exact ⟨_, (y102), H', ⟨by have := HK1.out; first | omega | exact Nat.le_refl _⟩, ⟨by (with_reducible repeat (first | apply Kd.R_alloc | apply Kd.R_drewN | apply Kd.R_drew)); exact HO104.out⟩, ⟨by repeat (first | (with_reducible first | exact HB.out | apply below_alloc | apply pw_below_drewN | apply below_drew1) | exact HB.out)⟩⟩
                · rw [if_neg c8] at H
                  exact absurd H (by simp)
              · rw [if_neg c7] at H
                have c7b0 : decide (0 < x11_1) = false := decide_eq_false c7
                clear c7
                (first | rw [c7b0] | (simp only [i64_w, i32_w]; rw [c7b0]) | skip)
                have H' := Aside0.mk H
                clear H
                go_wp2
                go_meet
                case rel => exact ⟨_, (x5_1), H', ⟨by have := HK1.out; first | omega | exact Nat.le_refl _⟩, ⟨by (with_reducible repeat (first | apply Kd.R_alloc | apply Kd.R_drewN | apply Kd.R_drew)); exact HO_5.out⟩, ⟨by repeat (first | (with_reducible first | exact HB.out | apply below_alloc | apply pw_below_drewN | apply below_drew1) | exact HB.out)⟩⟩
            case rest =>
              clear HC6
              try clear p1
              try clear q1
              try clear hx1
              try clear p2
              try clear c3
              try clear c3b0
              try clear c4
              try clear c4b0
              try clear c5
              try clear c5b0
              try clear c7
              try clear c7b0
              try clear c8
              try clear hx101_0
              try clear p101
              try clear p2
              try clear q101
              obtain ⟨kq, x5_5, HA, HJ5, HO_5, HB⟩ := hcut
              cases kq with
              | zero => exact absurd HA.out (by simp [spec_Joined.j1])
              | succ kj5 =>
                have H := HA.out
                clear HA
                simp only [spec_Joined.j1] at H
                have H' := Aside0.mk H
                clear H
                go_wp2
                go_loopg [5, 24] kj5 (fun kq v5 v24 w' => ∃ (x5_3 : List Int) (x24_3 : Int), v24 = .int .i64 x24_3 ∧ Aside0 (spec_Joined.l1 kq a1 x5_3 (rdOf ByteArray.empty l0 x11_1) l0 (l0.length : Int) x11_1 ((rdOf ByteArray.empty l0 x11_1).size : Int) x24_3 = some r) ∧ Aside0 (kq ≤ kj5) ∧ Aside0 (Kd.R (Kd.int .u8) 5 w' w.heap.size (fun _ => True) v5 x5_3) ∧ Aside0 (Below w.heap.size w w'))
                case atStart => exact ⟨(x5_5), (0), (by first | rfl | (simp; done) | (simp [*]; done)), H', ⟨Nat.le_refl _⟩, ⟨by (with_reducible repeat (first | apply Kd.R_alloc | apply Kd.R_drewN | apply Kd.R_drew)); exact HO_5.out⟩, ⟨by repeat (first | (with_reducible first | exact HB.out | apply below_alloc | apply pw_below_drewN | apply below_drew1) | exact HB.out)⟩⟩
                case round =>
                  clear H'
                  try clear p1
                  try clear q1
                  try clear hx1
                  try clear p2
                  try clear c3
                  try clear c3b0
                  try clear c4
                  try clear c4b0
                  try clear c5
                  try clear c5b0
                  try clear c7
                  try clear c7b0
                  try clear c8
                  try clear hx101_0
                  try clear p1
                  try clear p101
                  try clear p2
                  try clear q1
                  try clear q101
                  obtain ⟨x5_3, x24_3, rfl, HA, HK3, HO_5, HB⟩ := hrel
                  cases gk with
                  | zero => exact absurd HA.out (by simp [spec_Joined.l1])
                  | succ k3 =>
                    have H := HA.out
                    clear HA
                    simp only [spec_Joined.l1] at H
                    by_cases c10 : x24_3 < ((rdOf ByteArray.empty l0 x11_1).size : Int)
                    · rw [if_pos c10] at H
                      have c10b0 : decide (x24_3 < ((rdOf ByteArray.empty l0 x11_1).size : Int)) = true := decide_eq_true c10
                      clear c10
                      by_cases c11 : 0 ≤ x24_3
                      · rw [if_pos c11] at H
                        have c11b0 : decide (0 ≤ x24_3) = true := decide_eq_true c11
                        clear c11
                        by_cases c12 : x24_3 < ((rdOf ByteArray.empty l0 x11_1).size : Int)
                        · rw [if_pos c12] at H
                          have c12b0 : decide (x24_3 < ((rdOf ByteArray.empty l0 x11_1).size : Int)) = true := decide_eq_true c12
                          clear c12
                          by_cases c14 : (bt (rdOf ByteArray.empty l0 x11_1) x24_3) = a1
                          · rw [if_pos c14] at H
                            have c14b0 : ((bt (rdOf ByteArray.empty l0 x11_1) x24_3) == a1) = true := beq_iff_eq.mpr c14
                            have c14b1 : ((bt (rdOf ByteArray.empty l0 x11_1) x24_3) != a1) = false := bne_eq_false_iff_eq.mpr c14
                            clear c14
                            by_cases c15 : x5_3.length < 140737488355328
                            · rw [if_pos c15] at H
                              have LMc15 := Aside0.mk c15
                              clear c15
                              obtain ⟨y105, hy105⟩ : ∃ y_ : List Int, y_ = (x5_3 ++ [92]) := ⟨_, rfl⟩
                              replace H : (if y105.length < 140737488355328 then (spec_Joined.l1 k3 a1 (y105 ++ [bt (rdOf ByteArray.empty l0 x11_1) x24_3]) (rdOf ByteArray.empty l0 x11_1) l0 (l0.length : Int) x11_1 ((rdOf ByteArray.empty l0 x11_1).size : Int) (wrap64 (x24_3 + 1))) else (none)) = some r := by first | (rw [hy105]; with_reducible exact H) | (have H2_ := (Option.bind_some _ _).symm.trans H; rw [hy105]; with_reducible exact H2_) | (have H2_ := (Option.bind_some _ _).symm.trans H; with_reducible exact H2_) | with_reducible exact H | (rw [hy105]; exact H) | exact H
                              have Ny105 := Aside0.mk hy105
                              clear hy105
                              by_cases c17 : y105.length < 140737488355328
                              · rw [if_pos c17] at H
                                have LMc17 := Aside0.mk c17
                                clear c17
                                obtain ⟨y108, hy108⟩ : ∃ y_ : List Int, y_ = (y105 ++ [bt (rdOf ByteArray.empty l0 x11_1) x24_3]) := ⟨_, rfl⟩
                                replace H : (spec_Joined.l1 k3 a1 y108 (rdOf ByteArray.empty l0 x11_1) l0 (l0.length : Int) x11_1 ((rdOf ByteArray.empty l0 x11_1).size : Int) (wrap64 (x24_3 + 1))) = some r := by first | (rw [hy108]; with_reducible exact H) | (have H2_ := (Option.bind_some _ _).symm.trans H; rw [hy108]; with_reducible exact H2_) | (have H2_ := (Option.bind_some _ _).symm.trans H; with_reducible exact H2_) | with_reducible exact H | (rw [hy108]; exact H) | exact H
                                have Ny108 := Aside0.mk hy108
                                clear hy108
                                have H' := Aside0.mk H
                                clear H
                                have p13 : 0 ≤ (x24_3 : Int) := of_decide_eq_true (by first | (with_reducible assumption) | assumption)
                                have q13 : x24_3 < ((rdOf ByteArray.empty l0 x11_1).size : Int) := of_decide_eq_true (by first | (with_reducible assumption) | assumption)
                                have hx13 := bt_at (rdOf ByteArray.empty l0 x11_1) x24_3
                                replace p13 := eq_true p13
                                replace q13 := eq_true q13
                                go_wp2_with (first | ((with_reducible refine gate_builtin (b := .append) (xs := #[.tmp 32, .tmp 33]) rfl ?_); at_builtin; refine Kd.R_append (Kd.int .u8) (w0 := w) w.heap.size rfl (.tmp 32) (.tmp 33) 32 5 (.int .u8 0) 1 rfl Try.underlying32 info5 rfl (by decide) (by omega) u5 x5_3 92 [.int .u8 92] (fun _ => True) (fun _ => False) rfl rfl ?aP (fun _ hk => hk.elim) ?aF ?aO ?aB ?aS ?aL ?_; (case aP => exact rfl); (case aB => exact (by repeat (first | (with_reducible first | exact HB.out | apply below_alloc | apply pw_below_drewN | apply below_drew1) | exact HB.out))); (case aF => exact (fun _ _ => trivial)); (case aO => exact (by (with_reducible repeat (first | apply Kd.R_alloc | apply Kd.R_drewN | apply Kd.R_drew)); exact HO_5.out)); (case aS => exact (below_size (by repeat (first | (with_reducible first | exact HB.out | apply below_alloc | apply pw_below_drewN | apply below_drew1) | exact HB.out)))); (case aL => have := LMc15.out; omega); intro v106 w18 ho hb hg hat; rw [← Ny105.out] at ho; have n0_ := Aside0.mk (hb); have n1_ := Aside0.mk (ho); clear HB; clear HO_5; have HB := n0_; have HO107 := n1_; clear n0_ n1_; clear ho hb hg hat; have p16 : 0 ≤ (x24_3 : Int) := of_decide_eq_true (by first | (with_reducible assumption) | assumption); have q16 : x24_3 < ((rdOf ByteArray.empty l0 x11_1).size : Int) := of_decide_eq_true (by first | (with_reducible assumption) | assumption); have hx16 := bt_at (rdOf ByteArray.empty l0 x11_1) x24_3; replace p16 := eq_true p16; replace q16 := eq_true q16) | ((with_reducible refine gate_builtin (b := .append) (xs := #[.tmp 35, .tmp 39]) rfl ?_); at_builtin; refine Kd.R_append (Kd.int .u8) (w0 := w) w.heap.size rfl (.tmp 35) (.tmp 39) 32 5 (.int .u8 0) 1 rfl Try.underlying32 info5 rfl (by decide) (by omega) v106 y105 (bt (rdOf ByteArray.empty l0 x11_1) x24_3) [.int .u8 (bt (rdOf ByteArray.empty l0 x11_1) x24_3)] (fun _ => True) (fun _ => False) rfl rfl ?aP (fun _ hk => hk.elim) ?aF ?aO ?aB ?aS ?aL ?_; (case aP => exact rfl); (case aB => exact (by repeat (first | (with_reducible first | exact HB.out | apply below_alloc | apply pw_below_drewN | apply below_drew1) | exact HB.out))); (case aF => exact (fun _ _ => trivial)); (case aO => exact (by (with_reducible repeat (first | apply Kd.R_alloc | apply Kd.R_drewN | apply Kd.R_drew)); exact HO107.out)); (case aS => exact (below_size (by repeat (first | (with_reducible first | exact HB.out | apply below_alloc | apply pw_below_drewN | apply below_drew1) | exact HB.out)))); (case aL => have := LMc17.out; omega); intro v109 w19 ho hb hg hat; rw [← Ny108.out] at ho; have n0_ := Aside0.mk (hb); have n1_ := Aside0.mk (ho); clear HB; clear HO107; have HB := n0_; have HO110 := n1_; clear n0_ n1_; clear ho hb hg hat))
                                go_roundg k3
                                case measure => have := HK1.out; have := HJ5.out; have := HK3.out; omega
                                case rel => exact ⟨(y108), (wrap64 (x24_3 + 1)), (by first | rfl | (simp; done) | (simp [*]; done)), H', ⟨by have := HK1.out; have := HJ5.out; have := HK3.out; omega⟩, ⟨by (with_reducible repeat (first | apply Kd.R_alloc | apply Kd.R_drewN | apply Kd.R_drew)); exact HO110.out⟩, ⟨by repeat (first | (with_reducible first | exact HB.out | apply below_alloc | apply pw_below_drewN | apply below_drew1) | exact HB.out)⟩⟩
                              · rw [if_neg c17] at H
                                exact absurd H (by simp)
                            · rw [if_neg c15] at H
                              exact absurd H (by simp)
                          · rw [if_neg c14] at H
                            have c14b0 : ((bt (rdOf ByteArray.empty l0 x11_1) x24_3) == a1) = false := beq_eq_false_iff_ne.mpr c14
                            have c14b1 : ((bt (rdOf ByteArray.empty l0 x11_1) x24_3) != a1) = true := bne_iff_ne.mpr c14
                            by_cases c21 : x5_3.length < 140737488355328
                            · rw [if_pos c21] at H
                              have LMc21 := Aside0.mk c21
                              clear c21
                              obtain ⟨y111, hy111⟩ : ∃ y_ : List Int, y_ = (x5_3 ++ [bt (rdOf ByteArray.empty l0 x11_1) x24_3]) := ⟨_, rfl⟩
                              replace H : (spec_Joined.l1 k3 a1 y111 (rdOf ByteArray.empty l0 x11_1) l0 (l0.length : Int) x11_1 ((rdOf ByteArray.empty l0 x11_1).size : Int) (wrap64 (x24_3 + 1))) = some r := by first | (rw [hy111]; with_reducible exact H) | (have H2_ := (Option.bind_some _ _).symm.trans H; rw [hy111]; with_reducible exact H2_) | (have H2_ := (Option.bind_some _ _).symm.trans H; with_reducible exact H2_) | with_reducible exact H | (rw [hy111]; exact H) | exact H
                              have Ny111 := Aside0.mk hy111
                              clear hy111
                              have H' := Aside0.mk H
                              clear H
                              have p13 : 0 ≤ (x24_3 : Int) := of_decide_eq_true (by first | (with_reducible assumption) | assumption)
                              have q13 : x24_3 < ((rdOf ByteArray.empty l0 x11_1).size : Int) := of_decide_eq_true (by first | (with_reducible assumption) | assumption)
                              have hx13 := bt_at (rdOf ByteArray.empty l0 x11_1) x24_3
                              replace p13 := eq_true p13
                              replace q13 := eq_true q13
                              have p20 : 0 ≤ (x24_3 : Int) := of_decide_eq_true (by first | (with_reducible assumption) | assumption)
                              have q20 : x24_3 < ((rdOf ByteArray.empty l0 x11_1).size : Int) := of_decide_eq_true (by first | (with_reducible assumption) | assumption)
                              have hx20 := bt_at (rdOf ByteArray.empty l0 x11_1) x24_3
                              replace p20 := eq_true p20
                              replace q20 := eq_true q20
                              go_wp2_with (first | ((with_reducible refine gate_builtin (b := .append) (xs := #[.tmp 35, .tmp 39]) rfl ?_); at_builtin; refine Kd.R_append (Kd.int .u8) (w0 := w) w.heap.size rfl (.tmp 35) (.tmp 39) 32 5 (.int .u8 0) 1 rfl Try.underlying32 info5 rfl (by decide) (by omega) u5 x5_3 (bt (rdOf ByteArray.empty l0 x11_1) x24_3) [.int .u8 (bt (rdOf ByteArray.empty l0 x11_1) x24_3)] (fun _ => True) (fun _ => False) rfl rfl ?aP (fun _ hk => hk.elim) ?aF ?aO ?aB ?aS ?aL ?_; (case aP => exact rfl); (case aB => exact (by repeat (first | (with_reducible first | exact HB.out | apply below_alloc | apply pw_below_drewN | apply below_drew1) | exact HB.out))); (case aF => exact (fun _ _ => trivial)); (case aO => exact (by (with_reducible repeat (first | apply Kd.R_alloc | apply Kd.R_drewN | apply Kd.R_drew)); exact HO_5.out)); (case aS => exact (below_size (by repeat (first | (with_reducible first | exact HB.out | apply below_alloc | apply pw_below_drewN | apply below_drew1) | exact HB.out)))); (case aL => have := LMc21.out; omega); intro v112 w22 ho hb hg hat; rw [← Ny111.out] at ho; have n0_ := Aside0.mk (hb); have n1_ := Aside0.mk (ho); clear HB; clear HO_5; have HB := n0_; have HO113 := n1_; clear n0_ n1_; clear ho hb hg hat))
                              go_roundg k3
                              case measure => have := HK1.out; have := HJ5.out; have := HK3.out; omega
                              case rel => exact ⟨(y111), (wrap64 (x24_3 + 1)), (by first | rfl | (simp; done) | (simp [*]; done)), H', ⟨by have := HK1.out; have := HJ5.out; have := HK3.out; omega⟩, ⟨by (with_reducible repeat (first | apply Kd.R_alloc | apply Kd.R_drewN | apply Kd.R_drew)); exact HO113.out⟩, ⟨by repeat (first | (with_reducible first | exact HB.out | apply below_alloc | apply pw_below_drewN | apply below_drew1) | exact HB.out)⟩⟩
                            · rw [if_neg c21] at H
                              exact absurd H (by simp)
                        · rw [if_neg c12] at H
                          exact absurd H (by simp)
                      · rw [if_neg c11] at H
                        exact absurd H (by simp)
                    · rw [if_neg c10] at H
                      have c10b0 : decide (x24_3 < ((rdOf ByteArray.empty l0 x11_1).size : Int)) = false := decide_eq_false c10
                      clear c10
                      have H' := Aside0.mk H
                      clear H
                      go_wp2
                      go_roundg k3
                      case measure => have := HK1.out; have := HJ5.out; have := HK3.out; omega
                      case rel => exact ⟨(x5_3), (wrap64 (x11_1 + 1)), (by first | rfl | (simp; done) | (simp [*]; done)), H', ⟨by have := HK1.out; have := HJ5.out; have := HK3.out; omega⟩, ⟨by (with_reducible repeat (first | apply Kd.R_alloc | apply Kd.R_drewN | apply Kd.R_drew)); exact HO_5.out⟩, ⟨by repeat (first | (with_reducible first | exact HB.out | apply below_alloc | apply pw_below_drewN | apply below_drew1) | exact HB.out)⟩⟩
          · rw [if_neg c5] at H
            exact absurd H (by simp)
        · rw [if_neg c4] at H
          exact absurd H (by simp)
      · rw [if_neg c3] at H
        have c3b0 : decide (x11_1 < (l0.length : Int)) = false := decide_eq_false c3
        clear c3
        obtain rfl := Option.some.inj H
        have hcv23 := own_string (P := Try.prog) Try.underlying32 Try.underlying5 Try.underlying9 (Kd.own_of_R HO_5.out)
        go_wp2
        go_ret
        exact ⟨by first | rfl | (simp [errW_none, errW_some] <;> rfl) | (simp [*, errW_none, errW_some] <;> rfl), by repeat (first | (with_reducible first | exact HB.out | apply below_alloc | apply pw_below_drewN | apply below_drew1) | exact HB.out)⟩

end Go.Proofs.Ytgdffbjkafbkcaa.PJoined
