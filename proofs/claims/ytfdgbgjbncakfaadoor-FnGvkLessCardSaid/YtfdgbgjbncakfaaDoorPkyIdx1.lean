-- PRINTED BY print.sh 35421559b90ae4d0a3588c463048766b98c2df88dd9212a6774a882060cdf62d: not written by this session
import Derived.Test.YtfdgbgjbncakfaaDoorPkyIdx0
namespace Go.Proofs.YtfdgbgjbncakfaaDoor.PkyId
open Go.RowKit Go.Proofs.YtfdgbgjbncakfaaDoorW.PrintWords Go.Proofs.YtfdgbgjbncakfaaDoorW.PrintLast Go.Proofs.YtfdgbgjbncakfaaDoorW.PrintMore
attribute [local go_sem] max2_int min2_int max_two min_two max_three min_three max_four min_four   -- for this text's walks alone
set_option linter.unusedVariables false
set_option linter.unusedSimpArgs false

/-! ### laws_kyPlain: function 7 -/
mutual
def laws_kyPlain.l0 : Nat → ByteArray → List Int → Int → Option (ByteArray)
  | 0, _, _, _ => none
  | k + 1, x0, x3, x4 => if x4 < (x0.size : Int) then (laws_kyPlain.j1 k x0 x3 x4 (decide ((x3.length : Int) < 12))) else (laws_kyPlain.j1 k x0 x3 x4 false)
def laws_kyPlain.j1 : Nat → ByteArray → List Int → Int → Bool → Option (ByteArray)
  | 0, _, _, _, _ => none
  | k + 1, x0, x3, x4, x14 => if x14 = true then (if 0 ≤ x4 then (if x4 < (x0.size : Int) then (if (bt x0 x4) ≥ 97 then (if (bt x0 x4) ≤ 122 then (if x3.length < 140737488355328 then (laws_kyPlain.l0 k x0 (x3 ++ [bt x0 x4]) (wrap64 (x4 + 1))) else (none)) else (if (bt x0 x4) ≥ 65 then (if (bt x0 x4) ≤ 90 then (if x3.length < 140737488355328 then (laws_kyPlain.l0 k x0 (x3 ++ [bt x0 x4]) (wrap64 (x4 + 1))) else (none)) else (if (bt x0 x4) ≥ 48 then (if (bt x0 x4) ≤ 57 then (if x3.length < 140737488355328 then (laws_kyPlain.l0 k x0 (x3 ++ [bt x0 x4]) (wrap64 (x4 + 1))) else (none)) else (if (bt x0 x4) = 45 then (if x3.length < 140737488355328 then (laws_kyPlain.l0 k x0 (x3 ++ [bt x0 x4]) (wrap64 (x4 + 1))) else (none)) else (laws_kyPlain.l0 k x0 x3 (wrap64 (x4 + 1))))) else (if (bt x0 x4) = 45 then (if x3.length < 140737488355328 then (laws_kyPlain.l0 k x0 (x3 ++ [bt x0 x4]) (wrap64 (x4 + 1))) else (none)) else (laws_kyPlain.l0 k x0 x3 (wrap64 (x4 + 1)))))) else (if (bt x0 x4) ≥ 48 then (if (bt x0 x4) ≤ 57 then (if x3.length < 140737488355328 then (laws_kyPlain.l0 k x0 (x3 ++ [bt x0 x4]) (wrap64 (x4 + 1))) else (none)) else (if (bt x0 x4) = 45 then (if x3.length < 140737488355328 then (laws_kyPlain.l0 k x0 (x3 ++ [bt x0 x4]) (wrap64 (x4 + 1))) else (none)) else (laws_kyPlain.l0 k x0 x3 (wrap64 (x4 + 1))))) else (if (bt x0 x4) = 45 then (if x3.length < 140737488355328 then (laws_kyPlain.l0 k x0 (x3 ++ [bt x0 x4]) (wrap64 (x4 + 1))) else (none)) else (laws_kyPlain.l0 k x0 x3 (wrap64 (x4 + 1))))))) else (if (bt x0 x4) ≥ 65 then (if (bt x0 x4) ≤ 90 then (if x3.length < 140737488355328 then (laws_kyPlain.l0 k x0 (x3 ++ [bt x0 x4]) (wrap64 (x4 + 1))) else (none)) else (if (bt x0 x4) ≥ 48 then (if (bt x0 x4) ≤ 57 then (if x3.length < 140737488355328 then (laws_kyPlain.l0 k x0 (x3 ++ [bt x0 x4]) (wrap64 (x4 + 1))) else (none)) else (if (bt x0 x4) = 45 then (if x3.length < 140737488355328 then (laws_kyPlain.l0 k x0 (x3 ++ [bt x0 x4]) (wrap64 (x4 + 1))) else (none)) else (laws_kyPlain.l0 k x0 x3 (wrap64 (x4 + 1))))) else (if (bt x0 x4) = 45 then (if x3.length < 140737488355328 then (laws_kyPlain.l0 k x0 (x3 ++ [bt x0 x4]) (wrap64 (x4 + 1))) else (none)) else (laws_kyPlain.l0 k x0 x3 (wrap64 (x4 + 1)))))) else (if (bt x0 x4) ≥ 48 then (if (bt x0 x4) ≤ 57 then (if x3.length < 140737488355328 then (laws_kyPlain.l0 k x0 (x3 ++ [bt x0 x4]) (wrap64 (x4 + 1))) else (none)) else (if (bt x0 x4) = 45 then (if x3.length < 140737488355328 then (laws_kyPlain.l0 k x0 (x3 ++ [bt x0 x4]) (wrap64 (x4 + 1))) else (none)) else (laws_kyPlain.l0 k x0 x3 (wrap64 (x4 + 1))))) else (if (bt x0 x4) = 45 then (if x3.length < 140737488355328 then (laws_kyPlain.l0 k x0 (x3 ++ [bt x0 x4]) (wrap64 (x4 + 1))) else (none)) else (laws_kyPlain.l0 k x0 x3 (wrap64 (x4 + 1))))))) else (none)) else (none)) else (some (strOfNums x3))
end
def laws_kyPlain.f (k : Nat) (a0 : ByteArray) : Option (ByteArray) := laws_kyPlain.l0 k a0 ([] : List Int) 0
theorem laws_kyPlain.mono_l : ∀ k, (∀ y0 y1 y2, LeO (laws_kyPlain.l0 k y0 y1 y2) (laws_kyPlain.l0 (k + 1) y0 y1 y2)) ∧ (∀ y0 y1 y2 y3, LeO (laws_kyPlain.j1 k y0 y1 y2 y3) (laws_kyPlain.j1 (k + 1) y0 y1 y2 y3))
  | 0 => ⟨fun _ _ _ r h => by simp [laws_kyPlain.l0] at h, fun _ _ _ _ r h => by simp [laws_kyPlain.j1] at h⟩
  | k + 1 => by
    obtain ⟨ih0, ih1⟩ := laws_kyPlain.mono_l k
    refine ⟨?_, ?_⟩
    · intro y0 y1 y2
      unfold laws_kyPlain.l0
      repeat' first
      | (with_reducible exact ih0 _ _ _)
      | (with_reducible exact ih1 _ _ _ _)
      | (with_reducible exact LeO.refl _)
      | (with_reducible exact LeO.none _)
      | (with_reducible refine LeO.ite ?_ ?_)
      | (with_reducible refine LeO.bind ?_ (fun _ => ?_))
      | exact ih0 _ _ _
      | exact ih1 _ _ _ _
      | exact LeO.none _
      | refine LeO.ite ?_ ?_
      | refine LeO.bind ?_ (fun _ => ?_)
    · intro y0 y1 y2 y3
      unfold laws_kyPlain.j1
      repeat' first
      | (with_reducible exact ih0 _ _ _)
      | (with_reducible exact ih1 _ _ _ _)
      | (with_reducible exact LeO.refl _)
      | (with_reducible exact LeO.none _)
      | (with_reducible refine LeO.ite ?_ ?_)
      | (with_reducible refine LeO.bind ?_ (fun _ => ?_))
      | exact ih0 _ _ _
      | exact ih1 _ _ _ _
      | exact LeO.none _
      | refine LeO.ite ?_ ?_
      | refine LeO.bind ?_ (fun _ => ?_)
theorem laws_kyPlain.mono : ∀ a0 k, LeO (laws_kyPlain.f k a0) (laws_kyPlain.f (k + 1) a0) := by
  intro a0 k
  obtain ⟨ih0, ih1⟩ := laws_kyPlain.mono_l k
  unfold laws_kyPlain.f
  repeat' first
      | (with_reducible exact ih0 _ _ _)
      | (with_reducible exact ih1 _ _ _ _)
      | (with_reducible exact LeO.refl _)
      | (with_reducible exact LeO.none _)
      | (with_reducible refine LeO.ite ?_ ?_)
      | (with_reducible refine LeO.bind ?_ (fun _ => ?_))
      | exact ih0 _ _ _
      | exact ih1 _ _ _ _
      | exact LeO.none _
      | refine LeO.ite ?_ ?_
      | refine LeO.bind ?_ (fun _ => ?_)
set_option maxHeartbeats 8000000 in
set_option maxRecDepth 100000 in
theorem laws_kyPlain.calls (k : Nat) (a0 : ByteArray) (r : ByteArray) (w : World) (h : laws_kyPlain.f k a0 = some r) :
    Calls Tryd.prog 7 #[.string a0] w fun e w' => e = .returned (.string r) ∧ Below w.heap.size w w' := by
  have HB := Aside0.mk (Below.refl w.heap.size w)
  have H : (laws_kyPlain.l0 k a0 ([] : List Int) 0) = some r := h
  clear h
  have H' := Aside0.mk H
  clear H
  go_enter Tryd.func7, Tryd.ntmps7
  go_wp2
  go_loopg [3, 4] k (fun kq v3 v4 w' => ∃ (x3_1 : List Int) (x4_1 : Int), v4 = .int .i64 x4_1 ∧ Aside0 (laws_kyPlain.l0 kq a0 x3_1 x4_1 = some r) ∧ Aside0 (kq ≤ k) ∧ Aside0 (Kd.R (Kd.int .u8) 5 w' w.heap.size (fun _ => True) v3 x3_1) ∧ Aside0 (Below w.heap.size w w'))
  case atStart => exact ⟨(([] : List Int)), (0), (by first | rfl | (simp; done) | (simp [*]; done)), H', ⟨Nat.le_refl _⟩, ⟨by first | exact Kd.R_nil _ _ _ _ _ | exact Kd.N_nil _ _ _ _ _ | exact Kd.V_nil _ _ _ _ _ | exact Kd.Q_nil _ _ _ _ _ | exact Kd.S_nil _ _ _ _ _⟩, ⟨by repeat (first | (with_reducible first | exact HB.out | apply below_alloc | apply pw_below_drewN | apply below_drew1) | exact HB.out)⟩⟩
  case round =>
    clear H'
    obtain ⟨x3_1, x4_1, rfl, HA, HK1, HO_3, HB⟩ := hrel
    cases gk with
    | zero => exact absurd HA.out (by simp [laws_kyPlain.l0])
    | succ k1 =>
      have H := HA.out
      clear HA
      simp only [laws_kyPlain.l0] at H
      have HC2 := Aside0.mk H
      clear H
      go_upto_region 3 with (fail)
      go_cut [14] (fun v14 wc => ∃ (kq : Nat) (x14_1 : Bool), v14 = .bool x14_1 ∧ Aside0 (laws_kyPlain.j1 kq a0 x3_1 x4_1 x14_1 = some r) ∧ Aside0 (kq ≤ k1) ∧ Aside0 (Kd.R (Kd.int .u8) 5 wc w.heap.size (fun _ => True) u3 x3_1) ∧ Aside0 (Below w.heap.size w wc))
      case first =>
        have H := HC2.out
        clear HC2
        by_cases c3 : x4_1 < (a0.size : Int)
        · rw [if_pos c3] at H
          have c3b0 : decide (x4_1 < (a0.size : Int)) = true := decide_eq_true c3
          clear c3
          (first | rw [c3b0] | (simp only [i64_w, i32_w]; rw [c3b0]) | skip)
          have H' := Aside0.mk H
          clear H
          obtain ⟨Ao4, co4, eo4⟩ := Kd.R_slice HO_3.out
          subst eo4
          go_wp2
          go_meet
          case rel => exact ⟨_, (decide ((x3_1.length : Int) < 12)), (by first | rfl | (simp; done) | (simp [*]; done)), H', ⟨by have := HK1.out; first | omega | exact Nat.le_refl _⟩, ⟨by (with_reducible repeat (first | apply Kd.R_alloc | apply Kd.R_drewN | apply Kd.R_drew)); exact HO_3.out⟩, ⟨by repeat (first | (with_reducible first | exact HB.out | apply below_alloc | apply pw_below_drewN | apply below_drew1) | exact HB.out)⟩⟩
        · rw [if_neg c3] at H
          have c3b0 : decide (x4_1 < (a0.size : Int)) = false := decide_eq_false c3
          clear c3
          (first | rw [c3b0] | (simp only [i64_w, i32_w]; rw [c3b0]) | skip)
          have H' := Aside0.mk H
          clear H
          go_wp2
          go_meet
          case rel => exact ⟨_, (false), (by first | rfl | (simp; done) | (simp [*]; done)), H', ⟨by have := HK1.out; first | omega | exact Nat.le_refl _⟩, ⟨by (with_reducible repeat (first | apply Kd.R_alloc | apply Kd.R_drewN | apply Kd.R_drew)); exact HO_3.out⟩, ⟨by repeat (first | (with_reducible first | exact HB.out | apply below_alloc | apply pw_below_drewN | apply below_drew1) | exact HB.out)⟩⟩
      case rest =>
        clear HC2
        try clear p2
        try clear c3
        try clear c3b0
        obtain ⟨kq, x14_1, rfl, HA, HJ1, HO_3, HB⟩ := hcut
        cases kq with
        | zero => exact absurd HA.out (by simp [laws_kyPlain.j1])
        | succ kj1 =>
          have H := HA.out
          clear HA
          simp only [laws_kyPlain.j1] at H
          by_cases c5 : x14_1 = true
          · subst c5
            have H1 : (if 0 ≤ x4_1 then (if x4_1 < (a0.size : Int) then (if (bt a0 x4_1) ≥ 97 then (if (bt a0 x4_1) ≤ 122 then (if x3_1.length < 140737488355328 then (laws_kyPlain.l0 kj1 a0 (x3_1 ++ [bt a0 x4_1]) (wrap64 (x4_1 + 1))) else (none)) else (if (bt a0 x4_1) ≥ 65 then (if (bt a0 x4_1) ≤ 90 then (if x3_1.length < 140737488355328 then (laws_kyPlain.l0 kj1 a0 (x3_1 ++ [bt a0 x4_1]) (wrap64 (x4_1 + 1))) else (none)) else (if (bt a0 x4_1) ≥ 48 then (if (bt a0 x4_1) ≤ 57 then (if x3_1.length < 140737488355328 then (laws_kyPlain.l0 kj1 a0 (x3_1 ++ [bt a0 x4_1]) (wrap64 (x4_1 + 1))) else (none)) else (if (bt a0 x4_1) = 45 then (if x3_1.length < 140737488355328 then (laws_kyPlain.l0 kj1 a0 (x3_1 ++ [bt a0 x4_1]) (wrap64 (x4_1 + 1))) else (none)) else (laws_kyPlain.l0 kj1 a0 x3_1 (wrap64 (x4_1 + 1))))) else (if (bt a0 x4_1) = 45 then (if x3_1.length < 140737488355328 then (laws_kyPlain.l0 kj1 a0 (x3_1 ++ [bt a0 x4_1]) (wrap64 (x4_1 + 1))) else (none)) else (laws_kyPlain.l0 kj1 a0 x3_1 (wrap64 (x4_1 + 1)))))) else (if (bt a0 x4_1) ≥ 48 then (if (bt a0 x4_1) ≤ 57 then (if x3_1.length < 140737488355328 then (laws_kyPlain.l0 kj1 a0 (x3_1 ++ [bt a0 x4_1]) (wrap64 (x4_1 + 1))) else (none)) else (if (bt a0 x4_1) = 45 then (if x3_1.length < 140737488355328 then (laws_kyPlain.l0 kj1 a0 (x3_1 ++ [bt a0 x4_1]) (wrap64 (x4_1 + 1))) else (none)) else (laws_kyPlain.l0 kj1 a0 x3_1 (wrap64 (x4_1 + 1))))) else (if (bt a0 x4_1) = 45 then (if x3_1.length < 140737488355328 then (laws_kyPlain.l0 kj1 a0 (x3_1 ++ [bt a0 x4_1]) (wrap64 (x4_1 + 1))) else (none)) else (laws_kyPlain.l0 kj1 a0 x3_1 (wrap64 (x4_1 + 1))))))) else (if (bt a0 x4_1) ≥ 65 then (if (bt a0 x4_1) ≤ 90 then (if x3_1.length < 140737488355328 then (laws_kyPlain.l0 kj1 a0 (x3_1 ++ [bt a0 x4_1]) (wrap64 (x4_1 + 1))) else (none)) else (if (bt a0 x4_1) ≥ 48 then (if (bt a0 x4_1) ≤ 57 then (if x3_1.length < 140737488355328 then (laws_kyPlain.l0 kj1 a0 (x3_1 ++ [bt a0 x4_1]) (wrap64 (x4_1 + 1))) else (none)) else (if (bt a0 x4_1) = 45 then (if x3_1.length < 140737488355328 then (laws_kyPlain.l0 kj1 a0 (x3_1 ++ [bt a0 x4_1]) (wrap64 (x4_1 + 1))) else (none)) else (laws_kyPlain.l0 kj1 a0 x3_1 (wrap64 (x4_1 + 1))))) else (if (bt a0 x4_1) = 45 then (if x3_1.length < 140737488355328 then (laws_kyPlain.l0 kj1 a0 (x3_1 ++ [bt a0 x4_1]) (wrap64 (x4_1 + 1))) else (none)) else (laws_kyPlain.l0 kj1 a0 x3_1 (wrap64 (x4_1 + 1)))))) else (if (bt a0 x4_1) ≥ 48 then (if (bt a0 x4_1) ≤ 57 then (if x3_1.length < 140737488355328 then (laws_kyPlain.l0 kj1 a0 (x3_1 ++ [bt a0 x4_1]) (wrap64 (x4_1 + 1))) else (none)) else (if (bt a0 x4_1) = 45 then (if x3_1.length < 140737488355328 then (laws_kyPlain.l0 kj1 a0 (x3_1 ++ [bt a0 x4_1]) (wrap64 (x4_1 + 1))) else (none)) else (laws_kyPlain.l0 kj1 a0 x3_1 (wrap64 (x4_1 + 1))))) else (if (bt a0 x4_1) = 45 then (if x3_1.length < 140737488355328 then (laws_kyPlain.l0 kj1 a0 (x3_1 ++ [bt a0 x4_1]) (wrap64 (x4_1 + 1))) else (none)) else (laws_kyPlain.l0 kj1 a0 x3_1 (wrap64 (x4_1 + 1))))))) else (none)) else (none)) = some r := by rw [if_pos rfl] at H; exact H
            clear H
            have H := H1
            clear H1
            by_cases c6 : 0 ≤ x4_1
            · rw [if_pos c6] at H
              have c6b0 : decide (0 ≤ x4_1) = true := decide_eq_true c6
              clear c6
              by_cases c7 : x4_1 < (a0.size : Int)
              · rw [if_pos c7] at H
                have c7b0 : decide (x4_1 < (a0.size : Int)) = true := decide_eq_true c7
                clear c7
                by_cases c9 : (bt a0 x4_1) ≥ 97
                · rw [if_pos c9] at H
                  have c9b0 : decide (97 ≤ (bt a0 x4_1)) = true := decide_eq_true c9
                  clear c9
                  by_cases c10 : (bt a0 x4_1) ≤ 122
                  · rw [if_pos c10] at H
                    have c10b0 : decide ((bt a0 x4_1) ≤ 122) = true := decide_eq_true c10
                    clear c10
                    by_cases c11 : x3_1.length < 140737488355328
                    · rw [if_pos c11] at H
                      have LMc11 := Aside0.mk c11
                      clear c11
                      obtain ⟨y101, hy101⟩ : ∃ y_ : List Int, y_ = (x3_1 ++ [bt a0 x4_1]) := ⟨_, rfl⟩
                      replace H : (laws_kyPlain.l0 kj1 a0 y101 (wrap64 (x4_1 + 1))) = some r := by first | (rw [hy101]; with_reducible exact H) | (have H2_ := (Option.bind_some _ _).symm.trans H; rw [hy101]; with_reducible exact H2_) | (have H2_ := (Option.bind_some _ _).symm.trans H; with_reducible exact H2_) | with_reducible exact H | (rw [hy101]; exact H) | exact H
                      have Ny101 := Aside0.mk hy101
                      clear hy101
                      have H' := Aside0.mk H
                      clear H
                      have p8 : 0 ≤ (x4_1 : Int) := of_decide_eq_true (by first | (with_reducible assumption) | assumption)
                      have q8 : x4_1 < (a0.size : Int) := of_decide_eq_true (by first | (with_reducible assumption) | assumption)
                      have hx8 := bt_at a0 x4_1
                      replace p8 := eq_true p8
                      replace q8 := eq_true q8
                      go_wp2_with (first | ((with_reducible refine gate_builtin (b := .append) (xs := #[.tmp 46, .tmp 48]) rfl ?_); (try (refine gate_guard (by rfl) ?_; dsimp only)); at_builtin; refine Kd.R_append (Kd.int .u8) (w0 := w) w.heap.size rfl (.tmp 46) (.tmp 48) 38 5 (.int .u8 0) 1 rfl Tryd.underlying38 info5 rfl (by decide) (by omega) u3 x3_1 (bt a0 x4_1) [.int .u8 (bt a0 x4_1)] (fun _ => True) (fun _ => False) rfl rfl ?aP (fun _ hk => hk.elim) ?aF ?aO ?aB ?aS ?aL ?_; (case aP => exact rfl); (case aB => exact (by repeat (first | (with_reducible first | exact HB.out | apply below_alloc | apply pw_below_drewN | apply below_drew1) | exact HB.out))); (case aF => exact (fun _ _ => trivial)); (case aO => exact (by (with_reducible repeat (first | apply Kd.R_alloc | apply Kd.R_drewN | apply Kd.R_drew)); exact HO_3.out)); (case aS => exact (below_size (by repeat (first | (with_reducible first | exact HB.out | apply below_alloc | apply pw_below_drewN | apply below_drew1) | exact HB.out)))); (case aL => have := LMc11.out; omega); intro v102 w12 ho hb hg hat; rw [← Ny101.out] at ho; have n0_ := Aside0.mk (hb); have n1_ := Aside0.mk (ho); clear HB; clear HO_3; have HB := n0_; have HO103 := n1_; clear n0_ n1_; clear ho hb hg hat))
                      go_roundg kj1
                      case measure => have := HK1.out; have := HJ1.out; omega
                      case rel => exact ⟨(y101), (wrap64 (x4_1 + 1)), (by first | rfl | (simp; done) | (simp [*]; done)), H', ⟨by have := HK1.out; have := HJ1.out; omega⟩, ⟨by (with_reducible repeat (first | apply Kd.R_alloc | apply Kd.R_drewN | apply Kd.R_drew)); exact HO103.out⟩, ⟨by repeat (first | (with_reducible first | exact HB.out | apply below_alloc | apply pw_below_drewN | apply below_drew1) | exact HB.out)⟩⟩
                    · rw [if_neg c11] at H
                      exact absurd H (by simp)
                  · rw [if_neg c10] at H
                    have c10b0 : decide ((bt a0 x4_1) ≤ 122) = false := decide_eq_false c10
                    clear c10
                    by_cases c13 : (bt a0 x4_1) ≥ 65
                    · rw [if_pos c13] at H
                      have c13b0 : decide (65 ≤ (bt a0 x4_1)) = true := decide_eq_true c13
                      clear c13
                      by_cases c14 : (bt a0 x4_1) ≤ 90
                      · rw [if_pos c14] at H
                        have c14b0 : decide ((bt a0 x4_1) ≤ 90) = true := decide_eq_true c14
                        clear c14
                        by_cases c15 : x3_1.length < 140737488355328
                        · rw [if_pos c15] at H
                          have LMc15 := Aside0.mk c15
                          clear c15
                          obtain ⟨y104, hy104⟩ : ∃ y_ : List Int, y_ = (x3_1 ++ [bt a0 x4_1]) := ⟨_, rfl⟩
                          replace H : (laws_kyPlain.l0 kj1 a0 y104 (wrap64 (x4_1 + 1))) = some r := by first | (rw [hy104]; with_reducible exact H) | (have H2_ := (Option.bind_some _ _).symm.trans H; rw [hy104]; with_reducible exact H2_) | (have H2_ := (Option.bind_some _ _).symm.trans H; with_reducible exact H2_) | with_reducible exact H | (rw [hy104]; exact H) | exact H
                          have Ny104 := Aside0.mk hy104
                          clear hy104
                          have H' := Aside0.mk H
                          clear H
                          have p8 : 0 ≤ (x4_1 : Int) := of_decide_eq_true (by first | (with_reducible assumption) | assumption)
                          have q8 : x4_1 < (a0.size : Int) := of_decide_eq_true (by first | (with_reducible assumption) | assumption)
                          have hx8 := bt_at a0 x4_1
                          replace p8 := eq_true p8
                          replace q8 := eq_true q8
                          go_wp2_with (first | ((with_reducible refine gate_builtin (b := .append) (xs := #[.tmp 46, .tmp 48]) rfl ?_); (try (refine gate_guard (by rfl) ?_; dsimp only)); at_builtin; refine Kd.R_append (Kd.int .u8) (w0 := w) w.heap.size rfl (.tmp 46) (.tmp 48) 38 5 (.int .u8 0) 1 rfl Tryd.underlying38 info5 rfl (by decide) (by omega) u3 x3_1 (bt a0 x4_1) [.int .u8 (bt a0 x4_1)] (fun _ => True) (fun _ => False) rfl rfl ?aP (fun _ hk => hk.elim) ?aF ?aO ?aB ?aS ?aL ?_; (case aP => exact rfl); (case aB => exact (by repeat (first | (with_reducible first | exact HB.out | apply below_alloc | apply pw_below_drewN | apply below_drew1) | exact HB.out))); (case aF => exact (fun _ _ => trivial)); (case aO => exact (by (with_reducible repeat (first | apply Kd.R_alloc | apply Kd.R_drewN | apply Kd.R_drew)); exact HO_3.out)); (case aS => exact (below_size (by repeat (first | (with_reducible first | exact HB.out | apply below_alloc | apply pw_below_drewN | apply below_drew1) | exact HB.out)))); (case aL => have := LMc15.out; omega); intro v105 w16 ho hb hg hat; rw [← Ny104.out] at ho; have n0_ := Aside0.mk (hb); have n1_ := Aside0.mk (ho); clear HB; clear HO_3; have HB := n0_; have HO106 := n1_; clear n0_ n1_; clear ho hb hg hat))
                          go_roundg kj1
                          case measure => have := HK1.out; have := HJ1.out; omega
                          case rel => exact ⟨(y104), (wrap64 (x4_1 + 1)), (by first | rfl | (simp; done) | (simp [*]; done)), H', ⟨by have := HK1.out; have := HJ1.out; omega⟩, ⟨by (with_reducible repeat (first | apply Kd.R_alloc | apply Kd.R_drewN | apply Kd.R_drew)); exact HO106.out⟩, ⟨by repeat (first | (with_reducible first | exact HB.out | apply below_alloc | apply pw_below_drewN | apply below_drew1) | exact HB.out)⟩⟩
                        · rw [if_neg c15] at H
                          exact absurd H (by simp)
                      · rw [if_neg c14] at H
                        have c14b0 : decide ((bt a0 x4_1) ≤ 90) = false := decide_eq_false c14
                        clear c14
                        by_cases c17 : (bt a0 x4_1) ≥ 48
                        · rw [if_pos c17] at H
                          have c17b0 : decide (48 ≤ (bt a0 x4_1)) = true := decide_eq_true c17
                          clear c17
                          by_cases c18 : (bt a0 x4_1) ≤ 57
                          · rw [if_pos c18] at H
                            have c18b0 : decide ((bt a0 x4_1) ≤ 57) = true := decide_eq_true c18
                            clear c18
                            by_cases c19 : x3_1.length < 140737488355328
                            · rw [if_pos c19] at H
                              have LMc19 := Aside0.mk c19
                              clear c19
                              obtain ⟨y107, hy107⟩ : ∃ y_ : List Int, y_ = (x3_1 ++ [bt a0 x4_1]) := ⟨_, rfl⟩
                              replace H : (laws_kyPlain.l0 kj1 a0 y107 (wrap64 (x4_1 + 1))) = some r := by first | (rw [hy107]; with_reducible exact H) | (have H2_ := (Option.bind_some _ _).symm.trans H; rw [hy107]; with_reducible exact H2_) | (have H2_ := (Option.bind_some _ _).symm.trans H; with_reducible exact H2_) | with_reducible exact H | (rw [hy107]; exact H) | exact H
                              have Ny107 := Aside0.mk hy107
                              clear hy107
                              have H' := Aside0.mk H
                              clear H
                              have p8 : 0 ≤ (x4_1 : Int) := of_decide_eq_true (by first | (with_reducible assumption) | assumption)
                              have q8 : x4_1 < (a0.size : Int) := of_decide_eq_true (by first | (with_reducible assumption) | assumption)
                              have hx8 := bt_at a0 x4_1
                              replace p8 := eq_true p8
                              replace q8 := eq_true q8
                              go_wp2_with (first | ((with_reducible refine gate_builtin (b := .append) (xs := #[.tmp 46, .tmp 48]) rfl ?_); (try (refine gate_guard (by rfl) ?_; dsimp only)); at_builtin; refine Kd.R_append (Kd.int .u8) (w0 := w) w.heap.size rfl (.tmp 46) (.tmp 48) 38 5 (.int .u8 0) 1 rfl Tryd.underlying38 info5 rfl (by decide) (by omega) u3 x3_1 (bt a0 x4_1) [.int .u8 (bt a0 x4_1)] (fun _ => True) (fun _ => False) rfl rfl ?aP (fun _ hk => hk.elim) ?aF ?aO ?aB ?aS ?aL ?_; (case aP => exact rfl); (case aB => exact (by repeat (first | (with_reducible first | exact HB.out | apply below_alloc | apply pw_below_drewN | apply below_drew1) | exact HB.out))); (case aF => exact (fun _ _ => trivial)); (case aO => exact (by (with_reducible repeat (first | apply Kd.R_alloc | apply Kd.R_drewN | apply Kd.R_drew)); exact HO_3.out)); (case aS => exact (below_size (by repeat (first | (with_reducible first | exact HB.out | apply below_alloc | apply pw_below_drewN | apply below_drew1) | exact HB.out)))); (case aL => have := LMc19.out; omega); intro v108 w20 ho hb hg hat; rw [← Ny107.out] at ho; have n0_ := Aside0.mk (hb); have n1_ := Aside0.mk (ho); clear HB; clear HO_3; have HB := n0_; have HO109 := n1_; clear n0_ n1_; clear ho hb hg hat))
                              go_roundg kj1
                              case measure => have := HK1.out; have := HJ1.out; omega
                              case rel => exact ⟨(y107), (wrap64 (x4_1 + 1)), (by first | rfl | (simp; done) | (simp [*]; done)), H', ⟨by have := HK1.out; have := HJ1.out; omega⟩, ⟨by (with_reducible repeat (first | apply Kd.R_alloc | apply Kd.R_drewN | apply Kd.R_drew)); exact HO109.out⟩, ⟨by repeat (first | (with_reducible first | exact HB.out | apply below_alloc | apply pw_below_drewN | apply below_drew1) | exact HB.out)⟩⟩
                            · rw [if_neg c19] at H
                              exact absurd H (by simp)
                          · rw [if_neg c18] at H
                            have c18b0 : decide ((bt a0 x4_1) ≤ 57) = false := decide_eq_false c18
                            clear c18
                            by_cases c21 : (bt a0 x4_1) = 45
                            · rw [if_pos c21] at H
                              have c21b0 : ((bt a0 x4_1) == 45) = true := beq_iff_eq.mpr c21
                              have c21b1 : ((bt a0 x4_1) != 45) = false := bne_eq_false_iff_eq.mpr c21
                              clear c21
                              by_cases c22 : x3_1.length < 140737488355328
                              · rw [if_pos c22] at H
                                have LMc22 := Aside0.mk c22
                                clear c22
                                obtain ⟨y110, hy110⟩ : ∃ y_ : List Int, y_ = (x3_1 ++ [bt a0 x4_1]) := ⟨_, rfl⟩
                                replace H : (laws_kyPlain.l0 kj1 a0 y110 (wrap64 (x4_1 + 1))) = some r := by first | (rw [hy110]; with_reducible exact H) | (have H2_ := (Option.bind_some _ _).symm.trans H; rw [hy110]; with_reducible exact H2_) | (have H2_ := (Option.bind_some _ _).symm.trans H; with_reducible exact H2_) | with_reducible exact H | (rw [hy110]; exact H) | exact H
                                have Ny110 := Aside0.mk hy110
                                clear hy110
                                have H' := Aside0.mk H
                                clear H
                                have p8 : 0 ≤ (x4_1 : Int) := of_decide_eq_true (by first | (with_reducible assumption) | assumption)
                                have q8 : x4_1 < (a0.size : Int) := of_decide_eq_true (by first | (with_reducible assumption) | assumption)
                                have hx8 := bt_at a0 x4_1
                                replace p8 := eq_true p8
                                replace q8 := eq_true q8
                                go_wp2_with (first | ((with_reducible refine gate_builtin (b := .append) (xs := #[.tmp 46, .tmp 48]) rfl ?_); (try (refine gate_guard (by rfl) ?_; dsimp only)); at_builtin; refine Kd.R_append (Kd.int .u8) (w0 := w) w.heap.size rfl (.tmp 46) (.tmp 48) 38 5 (.int .u8 0) 1 rfl Tryd.underlying38 info5 rfl (by decide) (by omega) u3 x3_1 (bt a0 x4_1) [.int .u8 (bt a0 x4_1)] (fun _ => True) (fun _ => False) rfl rfl ?aP (fun _ hk => hk.elim) ?aF ?aO ?aB ?aS ?aL ?_; (case aP => exact rfl); (case aB => exact (by repeat (first | (with_reducible first | exact HB.out | apply below_alloc | apply pw_below_drewN | apply below_drew1) | exact HB.out))); (case aF => exact (fun _ _ => trivial)); (case aO => exact (by (with_reducible repeat (first | apply Kd.R_alloc | apply Kd.R_drewN | apply Kd.R_drew)); exact HO_3.out)); (case aS => exact (below_size (by repeat (first | (with_reducible first | exact HB.out | apply below_alloc | apply pw_below_drewN | apply below_drew1) | exact HB.out)))); (case aL => have := LMc22.out; omega); intro v111 w23 ho hb hg hat; rw [← Ny110.out] at ho; have n0_ := Aside0.mk (hb); have n1_ := Aside0.mk (ho); clear HB; clear HO_3; have HB := n0_; have HO112 := n1_; clear n0_ n1_; clear ho hb hg hat))
                                go_roundg kj1
                                case measure => have := HK1.out; have := HJ1.out; omega
                                case rel => exact ⟨(y110), (wrap64 (x4_1 + 1)), (by first | rfl | (simp; done) | (simp [*]; done)), H', ⟨by have := HK1.out; have := HJ1.out; omega⟩, ⟨by (with_reducible repeat (first | apply Kd.R_alloc | apply Kd.R_drewN | apply Kd.R_drew)); exact HO112.out⟩, ⟨by repeat (first | (with_reducible first | exact HB.out | apply below_alloc | apply pw_below_drewN | apply below_drew1) | exact HB.out)⟩⟩
                              · rw [if_neg c22] at H
                                exact absurd H (by simp)
                            · rw [if_neg c21] at H
                              have c21b0 : ((bt a0 x4_1) == 45) = false := beq_eq_false_iff_ne.mpr c21
                              have c21b1 : ((bt a0 x4_1) != 45) = true := bne_iff_ne.mpr c21
                              have H' := Aside0.mk H
                              clear H
                              have p8 : 0 ≤ (x4_1 : Int) := of_decide_eq_true (by first | (with_reducible assumption) | assumption)
                              have q8 : x4_1 < (a0.size : Int) := of_decide_eq_true (by first | (with_reducible assumption) | assumption)
                              have hx8 := bt_at a0 x4_1
                              replace p8 := eq_true p8
                              replace q8 := eq_true q8
                              go_wp2
                              go_roundg kj1
                              case measure => have := HK1.out; have := HJ1.out; omega
                              case rel => exact ⟨(x3_1), (wrap64 (x4_1 + 1)), (by first | rfl | (simp; done) | (simp [*]; done)), H', ⟨by have := HK1.out; have := HJ1.out; omega⟩, ⟨by (with_reducible repeat (first | apply Kd.R_alloc | apply Kd.R_drewN | apply Kd.R_drew)); exact HO_3.out⟩, ⟨by repeat (first | (with_reducible first | exact HB.out | apply below_alloc | apply pw_below_drewN | apply below_drew1) | exact HB.out)⟩⟩
                        · rw [if_neg c17] at H
                          have c17b0 : decide (48 ≤ (bt a0 x4_1)) = false := decide_eq_false c17
                          clear c17
                          by_cases c24 : (bt a0 x4_1) = 45
                          · rw [if_pos c24] at H
                            have c24b0 : ((bt a0 x4_1) == 45) = true := beq_iff_eq.mpr c24
                            have c24b1 : ((bt a0 x4_1) != 45) = false := bne_eq_false_iff_eq.mpr c24
                            clear c24
                            by_cases c25 : x3_1.length < 140737488355328
                            · rw [if_pos c25] at H
                              have LMc25 := Aside0.mk c25
                              clear c25
                              obtain ⟨y113, hy113⟩ : ∃ y_ : List Int, y_ = (x3_1 ++ [bt a0 x4_1]) := ⟨_, rfl⟩
                              replace H : (laws_kyPlain.l0 kj1 a0 y113 (wrap64 (x4_1 + 1))) = some r := by first | (rw [hy113]; with_reducible exact H) | (have H2_ := (Option.bind_some _ _).symm.trans H; rw [hy113]; with_reducible exact H2_) | (have H2_ := (Option.bind_some _ _).symm.trans H; with_reducible exact H2_) | with_reducible exact H | (rw [hy113]; exact H) | exact H
                              have Ny113 := Aside0.mk hy113
                              clear hy113
                              have H' := Aside0.mk H
                              clear H
                              have p8 : 0 ≤ (x4_1 : Int) := of_decide_eq_true (by first | (with_reducible assumption) | assumption)
                              have q8 : x4_1 < (a0.size : Int) := of_decide_eq_true (by first | (with_reducible assumption) | assumption)
                              have hx8 := bt_at a0 x4_1
                              replace p8 := eq_true p8
                              replace q8 := eq_true q8
                              go_wp2_with (first | ((with_reducible refine gate_builtin (b := .append) (xs := #[.tmp 46, .tmp 48]) rfl ?_); (try (refine gate_guard (by rfl) ?_; dsimp only)); at_builtin; refine Kd.R_append (Kd.int .u8) (w0 := w) w.heap.size rfl (.tmp 46) (.tmp 48) 38 5 (.int .u8 0) 1 rfl Tryd.underlying38 info5 rfl (by decide) (by omega) u3 x3_1 (bt a0 x4_1) [.int .u8 (bt a0 x4_1)] (fun _ => True) (fun _ => False) rfl rfl ?aP (fun _ hk => hk.elim) ?aF ?aO ?aB ?aS ?aL ?_; (case aP => exact rfl); (case aB => exact (by repeat (first | (with_reducible first | exact HB.out | apply below_alloc | apply pw_below_drewN | apply below_drew1) | exact HB.out))); (case aF => exact (fun _ _ => trivial)); (case aO => exact (by (with_reducible repeat (first | apply Kd.R_alloc | apply Kd.R_drewN | apply Kd.R_drew)); exact HO_3.out)); (case aS => exact (below_size (by repeat (first | (with_reducible first | exact HB.out | apply below_alloc | apply pw_below_drewN | apply below_drew1) | exact HB.out)))); (case aL => have := LMc25.out; omega); intro v114 w26 ho hb hg hat; rw [← Ny113.out] at ho; have n0_ := Aside0.mk (hb); have n1_ := Aside0.mk (ho); clear HB; clear HO_3; have HB := n0_; have HO115 := n1_; clear n0_ n1_; clear ho hb hg hat))
                              go_roundg kj1
                              case measure => have := HK1.out; have := HJ1.out; omega
                              case rel => exact ⟨(y113), (wrap64 (x4_1 + 1)), (by first | rfl | (simp; done) | (simp [*]; done)), H', ⟨by have := HK1.out; have := HJ1.out; omega⟩, ⟨by (with_reducible repeat (first | apply Kd.R_alloc | apply Kd.R_drewN | apply Kd.R_drew)); exact HO115.out⟩, ⟨by repeat (first | (with_reducible first | exact HB.out | apply below_alloc | apply pw_below_drewN | apply below_drew1) | exact HB.out)⟩⟩
                            · rw [if_neg c25] at H
                              exact absurd H (by simp)
                          · rw [if_neg c24] at H
                            have c24b0 : ((bt a0 x4_1) == 45) = false := beq_eq_false_iff_ne.mpr c24
                            have c24b1 : ((bt a0 x4_1) != 45) = true := bne_iff_ne.mpr c24
                            have H' := Aside0.mk H
                            clear H
                            have p8 : 0 ≤ (x4_1 : Int) := of_decide_eq_true (by first | (with_reducible assumption) | assumption)
                            have q8 : x4_1 < (a0.size : Int) := of_decide_eq_true (by first | (with_reducible assumption) | assumption)
                            have hx8 := bt_at a0 x4_1
                            replace p8 := eq_true p8
                            replace q8 := eq_true q8
                            go_wp2
                            go_roundg kj1
                            case measure => have := HK1.out; have := HJ1.out; omega
                            case rel => exact ⟨(x3_1), (wrap64 (x4_1 + 1)), (by first | rfl | (simp; done) | (simp [*]; done)), H', ⟨by have := HK1.out; have := HJ1.out; omega⟩, ⟨by (with_reducible repeat (first | apply Kd.R_alloc | apply Kd.R_drewN | apply Kd.R_drew)); exact HO_3.out⟩, ⟨by repeat (first | (with_reducible first | exact HB.out | apply below_alloc | apply pw_below_drewN | apply below_drew1) | exact HB.out)⟩⟩
                    · rw [if_neg c13] at H
                      have c13b0 : decide (65 ≤ (bt a0 x4_1)) = false := decide_eq_false c13
                      clear c13
                      by_cases c27 : (bt a0 x4_1) ≥ 48
                      · rw [if_pos c27] at H
                        have c27b0 : decide (48 ≤ (bt a0 x4_1)) = true := decide_eq_true c27
                        clear c27
                        by_cases c28 : (bt a0 x4_1) ≤ 57
                        · rw [if_pos c28] at H
                          have c28b0 : decide ((bt a0 x4_1) ≤ 57) = true := decide_eq_true c28
                          clear c28
                          by_cases c29 : x3_1.length < 140737488355328
                          · rw [if_pos c29] at H
                            have LMc29 := Aside0.mk c29
                            clear c29
                            obtain ⟨y116, hy116⟩ : ∃ y_ : List Int, y_ = (x3_1 ++ [bt a0 x4_1]) := ⟨_, rfl⟩
                            replace H : (laws_kyPlain.l0 kj1 a0 y116 (wrap64 (x4_1 + 1))) = some r := by first | (rw [hy116]; with_reducible exact H) | (have H2_ := (Option.bind_some _ _).symm.trans H; rw [hy116]; with_reducible exact H2_) | (have H2_ := (Option.bind_some _ _).symm.trans H; with_reducible exact H2_) | with_reducible exact H | (rw [hy116]; exact H) | exact H
                            have Ny116 := Aside0.mk hy116
                            clear hy116
                            have H' := Aside0.mk H
                            clear H
                            have p8 : 0 ≤ (x4_1 : Int) := of_decide_eq_true (by first | (with_reducible assumption) | assumption)
                            have q8 : x4_1 < (a0.size : Int) := of_decide_eq_true (by first | (with_reducible assumption) | assumption)
                            have hx8 := bt_at a0 x4_1
                            replace p8 := eq_true p8
                            replace q8 := eq_true q8
                            go_wp2_with (first | ((with_reducible refine gate_builtin (b := .append) (xs := #[.tmp 46, .tmp 48]) rfl ?_); (try (refine gate_guard (by rfl) ?_; dsimp only)); at_builtin; refine Kd.R_append (Kd.int .u8) (w0 := w) w.heap.size rfl (.tmp 46) (.tmp 48) 38 5 (.int .u8 0) 1 rfl Tryd.underlying38 info5 rfl (by decide) (by omega) u3 x3_1 (bt a0 x4_1) [.int .u8 (bt a0 x4_1)] (fun _ => True) (fun _ => False) rfl rfl ?aP (fun _ hk => hk.elim) ?aF ?aO ?aB ?aS ?aL ?_; (case aP => exact rfl); (case aB => exact (by repeat (first | (with_reducible first | exact HB.out | apply below_alloc | apply pw_below_drewN | apply below_drew1) | exact HB.out))); (case aF => exact (fun _ _ => trivial)); (case aO => exact (by (with_reducible repeat (first | apply Kd.R_alloc | apply Kd.R_drewN | apply Kd.R_drew)); exact HO_3.out)); (case aS => exact (below_size (by repeat (first | (with_reducible first | exact HB.out | apply below_alloc | apply pw_below_drewN | apply below_drew1) | exact HB.out)))); (case aL => have := LMc29.out; omega); intro v117 w30 ho hb hg hat; rw [← Ny116.out] at ho; have n0_ := Aside0.mk (hb); have n1_ := Aside0.mk (ho); clear HB; clear HO_3; have HB := n0_; have HO118 := n1_; clear n0_ n1_; clear ho hb hg hat))
                            go_roundg kj1
                            case measure => have := HK1.out; have := HJ1.out; omega
                            case rel => exact ⟨(y116), (wrap64 (x4_1 + 1)), (by first | rfl | (simp; done) | (simp [*]; done)), H', ⟨by have := HK1.out; have := HJ1.out; omega⟩, ⟨by (with_reducible repeat (first | apply Kd.R_alloc | apply Kd.R_drewN | apply Kd.R_drew)); exact HO118.out⟩, ⟨by repeat (first | (with_reducible first | exact HB.out | apply below_alloc | apply pw_below_drewN | apply below_drew1) | exact HB.out)⟩⟩
                          · rw [if_neg c29] at H
                            exact absurd H (by simp)
                        · rw [if_neg c28] at H
                          have c28b0 : decide ((bt a0 x4_1) ≤ 57) = false := decide_eq_false c28
                          clear c28
                          by_cases c31 : (bt a0 x4_1) = 45
                          · rw [if_pos c31] at H
                            have c31b0 : ((bt a0 x4_1) == 45) = true := beq_iff_eq.mpr c31
                            have c31b1 : ((bt a0 x4_1) != 45) = false := bne_eq_false_iff_eq.mpr c31
                            clear c31
                            by_cases c32 : x3_1.length < 140737488355328
                            · rw [if_pos c32] at H
                              have LMc32 := Aside0.mk c32
                              clear c32
                              obtain ⟨y119, hy119⟩ : ∃ y_ : List Int, y_ = (x3_1 ++ [bt a0 x4_1]) := ⟨_, rfl⟩
                              replace H : (laws_kyPlain.l0 kj1 a0 y119 (wrap64 (x4_1 + 1))) = some r := by first | (rw [hy119]; with_reducible exact H) | (have H2_ := (Option.bind_some _ _).symm.trans H; rw [hy119]; with_reducible exact H2_) | (have H2_ := (Option.bind_some _ _).symm.trans H; with_reducible exact H2_) | with_reducible exact H | (rw [hy119]; exact H) | exact H
                              have Ny119 := Aside0.mk hy119
                              clear hy119
                              have H' := Aside0.mk H
                              clear H
                              have p8 : 0 ≤ (x4_1 : Int) := of_decide_eq_true (by first | (with_reducible assumption) | assumption)
                              have q8 : x4_1 < (a0.size : Int) := of_decide_eq_true (by first | (with_reducible assumption) | assumption)
                              have hx8 := bt_at a0 x4_1
                              replace p8 := eq_true p8
                              replace q8 := eq_true q8
                              go_wp2_with (first | ((with_reducible refine gate_builtin (b := .append) (xs := #[.tmp 46, .tmp 48]) rfl ?_); (try (refine gate_guard (by rfl) ?_; dsimp only)); at_builtin; refine Kd.R_append (Kd.int .u8) (w0 := w) w.heap.size rfl (.tmp 46) (.tmp 48) 38 5 (.int .u8 0) 1 rfl Tryd.underlying38 info5 rfl (by decide) (by omega) u3 x3_1 (bt a0 x4_1) [.int .u8 (bt a0 x4_1)] (fun _ => True) (fun _ => False) rfl rfl ?aP (fun _ hk => hk.elim) ?aF ?aO ?aB ?aS ?aL ?_; (case aP => exact rfl); (case aB => exact (by repeat (first | (with_reducible first | exact HB.out | apply below_alloc | apply pw_below_drewN | apply below_drew1) | exact HB.out))); (case aF => exact (fun _ _ => trivial)); (case aO => exact (by (with_reducible repeat (first | apply Kd.R_alloc | apply Kd.R_drewN | apply Kd.R_drew)); exact HO_3.out)); (case aS => exact (below_size (by repeat (first | (with_reducible first | exact HB.out | apply below_alloc | apply pw_below_drewN | apply below_drew1) | exact HB.out)))); (case aL => have := LMc32.out; omega); intro v120 w33 ho hb hg hat; rw [← Ny119.out] at ho; have n0_ := Aside0.mk (hb); have n1_ := Aside0.mk (ho); clear HB; clear HO_3; have HB := n0_; have HO121 := n1_; clear n0_ n1_; clear ho hb hg hat))
                              go_roundg kj1
                              case measure => have := HK1.out; have := HJ1.out; omega
                              case rel => exact ⟨(y119), (wrap64 (x4_1 + 1)), (by first | rfl | (simp; done) | (simp [*]; done)), H', ⟨by have := HK1.out; have := HJ1.out; omega⟩, ⟨by (with_reducible repeat (first | apply Kd.R_alloc | apply Kd.R_drewN | apply Kd.R_drew)); exact HO121.out⟩, ⟨by repeat (first | (with_reducible first | exact HB.out | apply below_alloc | apply pw_below_drewN | apply below_drew1) | exact HB.out)⟩⟩
                            · rw [if_neg c32] at H
                              exact absurd H (by simp)
                          · rw [if_neg c31] at H
                            have c31b0 : ((bt a0 x4_1) == 45) = false := beq_eq_false_iff_ne.mpr c31
                            have c31b1 : ((bt a0 x4_1) != 45) = true := bne_iff_ne.mpr c31
                            have H' := Aside0.mk H
                            clear H
                            have p8 : 0 ≤ (x4_1 : Int) := of_decide_eq_true (by first | (with_reducible assumption) | assumption)
                            have q8 : x4_1 < (a0.size : Int) := of_decide_eq_true (by first | (with_reducible assumption) | assumption)
                            have hx8 := bt_at a0 x4_1
                            replace p8 := eq_true p8
                            replace q8 := eq_true q8
                            go_wp2
                            go_roundg kj1
                            case measure => have := HK1.out; have := HJ1.out; omega
                            case rel => exact ⟨(x3_1), (wrap64 (x4_1 + 1)), (by first | rfl | (simp; done) | (simp [*]; done)), H', ⟨by have := HK1.out; have := HJ1.out; omega⟩, ⟨by (with_reducible repeat (first | apply Kd.R_alloc | apply Kd.R_drewN | apply Kd.R_drew)); exact HO_3.out⟩, ⟨by repeat (first | (with_reducible first | exact HB.out | apply below_alloc | apply pw_below_drewN | apply below_drew1) | exact HB.out)⟩⟩
                      · rw [if_neg c27] at H
                        have c27b0 : decide (48 ≤ (bt a0 x4_1)) = false := decide_eq_false c27
                        clear c27
                        by_cases c34 : (bt a0 x4_1) = 45
                        · rw [if_pos c34] at H
                          have c34b0 : ((bt a0 x4_1) == 45) = true := beq_iff_eq.mpr c34
                          have c34b1 : ((bt a0 x4_1) != 45) = false := bne_eq_false_iff_eq.mpr c34
                          clear c34
                          by_cases c35 : x3_1.length < 140737488355328
                          · rw [if_pos c35] at H
                            have LMc35 := Aside0.mk c35
                            clear c35
                            obtain ⟨y122, hy122⟩ : ∃ y_ : List Int, y_ = (x3_1 ++ [bt a0 x4_1]) := ⟨_, rfl⟩
                            replace H : (laws_kyPlain.l0 kj1 a0 y122 (wrap64 (x4_1 + 1))) = some r := by first | (rw [hy122]; with_reducible exact H) | (have H2_ := (Option.bind_some _ _).symm.trans H; rw [hy122]; with_reducible exact H2_) | (have H2_ := (Option.bind_some _ _).symm.trans H; with_reducible exact H2_) | with_reducible exact H | (rw [hy122]; exact H) | exact H
                            have Ny122 := Aside0.mk hy122
                            clear hy122
                            have H' := Aside0.mk H
                            clear H
                            have p8 : 0 ≤ (x4_1 : Int) := of_decide_eq_true (by first | (with_reducible assumption) | assumption)
                            have q8 : x4_1 < (a0.size : Int) := of_decide_eq_true (by first | (with_reducible assumption) | assumption)
                            have hx8 := bt_at a0 x4_1
                            replace p8 := eq_true p8
                            replace q8 := eq_true q8
                            go_wp2_with (first | ((with_reducible refine gate_builtin (b := .append) (xs := #[.tmp 46, .tmp 48]) rfl ?_); (try (refine gate_guard (by rfl) ?_; dsimp only)); at_builtin; refine Kd.R_append (Kd.int .u8) (w0 := w) w.heap.size rfl (.tmp 46) (.tmp 48) 38 5 (.int .u8 0) 1 rfl Tryd.underlying38 info5 rfl (by decide) (by omega) u3 x3_1 (bt a0 x4_1) [.int .u8 (bt a0 x4_1)] (fun _ => True) (fun _ => False) rfl rfl ?aP (fun _ hk => hk.elim) ?aF ?aO ?aB ?aS ?aL ?_; (case aP => exact rfl); (case aB => exact (by repeat (first | (with_reducible first | exact HB.out | apply below_alloc | apply pw_below_drewN | apply below_drew1) | exact HB.out))); (case aF => exact (fun _ _ => trivial)); (case aO => exact (by (with_reducible repeat (first | apply Kd.R_alloc | apply Kd.R_drewN | apply Kd.R_drew)); exact HO_3.out)); (case aS => exact (below_size (by repeat (first | (with_reducible first | exact HB.out | apply below_alloc | apply pw_below_drewN | apply below_drew1) | exact HB.out)))); (case aL => have := LMc35.out; omega); intro v123 w36 ho hb hg hat; rw [← Ny122.out] at ho; have n0_ := Aside0.mk (hb); have n1_ := Aside0.mk (ho); clear HB; clear HO_3; have HB := n0_; have HO124 := n1_; clear n0_ n1_; clear ho hb hg hat))
                            go_roundg kj1
                            case measure => have := HK1.out; have := HJ1.out; omega
                            case rel => exact ⟨(y122), (wrap64 (x4_1 + 1)), (by first | rfl | (simp; done) | (simp [*]; done)), H', ⟨by have := HK1.out; have := HJ1.out; omega⟩, ⟨by (with_reducible repeat (first | apply Kd.R_alloc | apply Kd.R_drewN | apply Kd.R_drew)); exact HO124.out⟩, ⟨by repeat (first | (with_reducible first | exact HB.out | apply below_alloc | apply pw_below_drewN | apply below_drew1) | exact HB.out)⟩⟩
                          · rw [if_neg c35] at H
                            exact absurd H (by simp)
                        · rw [if_neg c34] at H
                          have c34b0 : ((bt a0 x4_1) == 45) = false := beq_eq_false_iff_ne.mpr c34
                          have c34b1 : ((bt a0 x4_1) != 45) = true := bne_iff_ne.mpr c34
                          have H' := Aside0.mk H
                          clear H
                          have p8 : 0 ≤ (x4_1 : Int) := of_decide_eq_true (by first | (with_reducible assumption) | assumption)
                          have q8 : x4_1 < (a0.size : Int) := of_decide_eq_true (by first | (with_reducible assumption) | assumption)
                          have hx8 := bt_at a0 x4_1
                          replace p8 := eq_true p8
                          replace q8 := eq_true q8
                          go_wp2
                          go_roundg kj1
                          case measure => have := HK1.out; have := HJ1.out; omega
                          case rel => exact ⟨(x3_1), (wrap64 (x4_1 + 1)), (by first | rfl | (simp; done) | (simp [*]; done)), H', ⟨by have := HK1.out; have := HJ1.out; omega⟩, ⟨by (with_reducible repeat (first | apply Kd.R_alloc | apply Kd.R_drewN | apply Kd.R_drew)); exact HO_3.out⟩, ⟨by repeat (first | (with_reducible first | exact HB.out | apply below_alloc | apply pw_below_drewN | apply below_drew1) | exact HB.out)⟩⟩
                · rw [if_neg c9] at H
                  have c9b0 : decide (97 ≤ (bt a0 x4_1)) = false := decide_eq_false c9
                  clear c9
                  by_cases c37 : (bt a0 x4_1) ≥ 65
                  · rw [if_pos c37] at H
                    have c37b0 : decide (65 ≤ (bt a0 x4_1)) = true := decide_eq_true c37
                    clear c37
                    by_cases c38 : (bt a0 x4_1) ≤ 90
                    · rw [if_pos c38] at H
                      have c38b0 : decide ((bt a0 x4_1) ≤ 90) = true := decide_eq_true c38
                      clear c38
                      by_cases c39 : x3_1.length < 140737488355328
                      · rw [if_pos c39] at H
                        have LMc39 := Aside0.mk c39
                        clear c39
                        obtain ⟨y125, hy125⟩ : ∃ y_ : List Int, y_ = (x3_1 ++ [bt a0 x4_1]) := ⟨_, rfl⟩
                        replace H : (laws_kyPlain.l0 kj1 a0 y125 (wrap64 (x4_1 + 1))) = some r := by first | (rw [hy125]; with_reducible exact H) | (have H2_ := (Option.bind_some _ _).symm.trans H; rw [hy125]; with_reducible exact H2_) | (have H2_ := (Option.bind_some _ _).symm.trans H; with_reducible exact H2_) | with_reducible exact H | (rw [hy125]; exact H) | exact H
                        have Ny125 := Aside0.mk hy125
                        clear hy125
                        have H' := Aside0.mk H
                        clear H
                        have p8 : 0 ≤ (x4_1 : Int) := of_decide_eq_true (by first | (with_reducible assumption) | assumption)
                        have q8 : x4_1 < (a0.size : Int) := of_decide_eq_true (by first | (with_reducible assumption) | assumption)
                        have hx8 := bt_at a0 x4_1
                        replace p8 := eq_true p8
                        replace q8 := eq_true q8
                        go_wp2_with (first | ((with_reducible refine gate_builtin (b := .append) (xs := #[.tmp 46, .tmp 48]) rfl ?_); (try (refine gate_guard (by rfl) ?_; dsimp only)); at_builtin; refine Kd.R_append (Kd.int .u8) (w0 := w) w.heap.size rfl (.tmp 46) (.tmp 48) 38 5 (.int .u8 0) 1 rfl Tryd.underlying38 info5 rfl (by decide) (by omega) u3 x3_1 (bt a0 x4_1) [.int .u8 (bt a0 x4_1)] (fun _ => True) (fun _ => False) rfl rfl ?aP (fun _ hk => hk.elim) ?aF ?aO ?aB ?aS ?aL ?_; (case aP => exact rfl); (case aB => exact (by repeat (first | (with_reducible first | exact HB.out | apply below_alloc | apply pw_below_drewN | apply below_drew1) | exact HB.out))); (case aF => exact (fun _ _ => trivial)); (case aO => exact (by (with_reducible repeat (first | apply Kd.R_alloc | apply Kd.R_drewN | apply Kd.R_drew)); exact HO_3.out)); (case aS => exact (below_size (by repeat (first | (with_reducible first | exact HB.out | apply below_alloc | apply pw_below_drewN | apply below_drew1) | exact HB.out)))); (case aL => have := LMc39.out; omega); intro v126 w40 ho hb hg hat; rw [← Ny125.out] at ho; have n0_ := Aside0.mk (hb); have n1_ := Aside0.mk (ho); clear HB; clear HO_3; have HB := n0_; have HO127 := n1_; clear n0_ n1_; clear ho hb hg hat))
                        go_roundg kj1
                        case measure => have := HK1.out; have := HJ1.out; omega
                        case rel => exact ⟨(y125), (wrap64 (x4_1 + 1)), (by first | rfl | (simp; done) | (simp [*]; done)), H', ⟨by have := HK1.out; have := HJ1.out; omega⟩, ⟨by (with_reducible repeat (first | apply Kd.R_alloc | apply Kd.R_drewN | apply Kd.R_drew)); exact HO127.out⟩, ⟨by repeat (first | (with_reducible first | exact HB.out | apply below_alloc | apply pw_below_drewN | apply below_drew1) | exact HB.out)⟩⟩
                      · rw [if_neg c39] at H
                        exact absurd H (by simp)
                    · rw [if_neg c38] at H
                      have c38b0 : decide ((bt a0 x4_1) ≤ 90) = false := decide_eq_false c38
                      clear c38
                      by_cases c41 : (bt a0 x4_1) ≥ 48
                      · rw [if_pos c41] at H
                        have c41b0 : decide (48 ≤ (bt a0 x4_1)) = true := decide_eq_true c41
                        clear c41
                        by_cases c42 : (bt a0 x4_1) ≤ 57
                        · rw [if_pos c42] at H
                          have c42b0 : decide ((bt a0 x4_1) ≤ 57) = true := decide_eq_true c42
                          clear c42
                          by_cases c43 : x3_1.length < 140737488355328
                          · rw [if_pos c43] at H
                            have LMc43 := Aside0.mk c43
                            clear c43
                            obtain ⟨y128, hy128⟩ : ∃ y_ : List Int, y_ = (x3_1 ++ [bt a0 x4_1]) := ⟨_, rfl⟩
                            replace H : (laws_kyPlain.l0 kj1 a0 y128 (wrap64 (x4_1 + 1))) = some r := by first | (rw [hy128]; with_reducible exact H) | (have H2_ := (Option.bind_some _ _).symm.trans H; rw [hy128]; with_reducible exact H2_) | (have H2_ := (Option.bind_some _ _).symm.trans H; with_reducible exact H2_) | with_reducible exact H | (rw [hy128]; exact H) | exact H
                            have Ny128 := Aside0.mk hy128
                            clear hy128
                            have H' := Aside0.mk H
                            clear H
                            have p8 : 0 ≤ (x4_1 : Int) := of_decide_eq_true (by first | (with_reducible assumption) | assumption)
                            have q8 : x4_1 < (a0.size : Int) := of_decide_eq_true (by first | (with_reducible assumption) | assumption)
                            have hx8 := bt_at a0 x4_1
                            replace p8 := eq_true p8
                            replace q8 := eq_true q8
                            go_wp2_with (first | ((with_reducible refine gate_builtin (b := .append) (xs := #[.tmp 46, .tmp 48]) rfl ?_); (try (refine gate_guard (by rfl) ?_; dsimp only)); at_builtin; refine Kd.R_append (Kd.int .u8) (w0 := w) w.heap.size rfl (.tmp 46) (.tmp 48) 38 5 (.int .u8 0) 1 rfl Tryd.underlying38 info5 rfl (by decide) (by omega) u3 x3_1 (bt a0 x4_1) [.int .u8 (bt a0 x4_1)] (fun _ => True) (fun _ => False) rfl rfl ?aP (fun _ hk => hk.elim) ?aF ?aO ?aB ?aS ?aL ?_; (case aP => exact rfl); (case aB => exact (by repeat (first | (with_reducible first | exact HB.out | apply below_alloc | apply pw_below_drewN | apply below_drew1) | exact HB.out))); (case aF => exact (fun _ _ => trivial)); (case aO => exact (by (with_reducible repeat (first | apply Kd.R_alloc | apply Kd.R_drewN | apply Kd.R_drew)); exact HO_3.out)); (case aS => exact (below_size (by repeat (first | (with_reducible first | exact HB.out | apply below_alloc | apply pw_below_drewN | apply below_drew1) | exact HB.out)))); (case aL => have := LMc43.out; omega); intro v129 w44 ho hb hg hat; rw [← Ny128.out] at ho; have n0_ := Aside0.mk (hb); have n1_ := Aside0.mk (ho); clear HB; clear HO_3; have HB := n0_; have HO130 := n1_; clear n0_ n1_; clear ho hb hg hat))
                            go_roundg kj1
                            case measure => have := HK1.out; have := HJ1.out; omega
                            case rel => exact ⟨(y128), (wrap64 (x4_1 + 1)), (by first | rfl | (simp; done) | (simp [*]; done)), H', ⟨by have := HK1.out; have := HJ1.out; omega⟩, ⟨by (with_reducible repeat (first | apply Kd.R_alloc | apply Kd.R_drewN | apply Kd.R_drew)); exact HO130.out⟩, ⟨by repeat (first | (with_reducible first | exact HB.out | apply below_alloc | apply pw_below_drewN | apply below_drew1) | exact HB.out)⟩⟩
                          · rw [if_neg c43] at H
                            exact absurd H (by simp)
                        · rw [if_neg c42] at H
                          have c42b0 : decide ((bt a0 x4_1) ≤ 57) = false := decide_eq_false c42
                          clear c42
                          by_cases c45 : (bt a0 x4_1) = 45
                          · rw [if_pos c45] at H
                            have c45b0 : ((bt a0 x4_1) == 45) = true := beq_iff_eq.mpr c45
                            have c45b1 : ((bt a0 x4_1) != 45) = false := bne_eq_false_iff_eq.mpr c45
                            clear c45
                            by_cases c46 : x3_1.length < 140737488355328
                            · rw [if_pos c46] at H
                              have LMc46 := Aside0.mk c46
                              clear c46
                              obtain ⟨y131, hy131⟩ : ∃ y_ : List Int, y_ = (x3_1 ++ [bt a0 x4_1]) := ⟨_, rfl⟩
                              replace H : (laws_kyPlain.l0 kj1 a0 y131 (wrap64 (x4_1 + 1))) = some r := by first | (rw [hy131]; with_reducible exact H) | (have H2_ := (Option.bind_some _ _).symm.trans H; rw [hy131]; with_reducible exact H2_) | (have H2_ := (Option.bind_some _ _).symm.trans H; with_reducible exact H2_) | with_reducible exact H | (rw [hy131]; exact H) | exact H
                              have Ny131 := Aside0.mk hy131
                              clear hy131
                              have H' := Aside0.mk H
                              clear H
                              have p8 : 0 ≤ (x4_1 : Int) := of_decide_eq_true (by first | (with_reducible assumption) | assumption)
                              have q8 : x4_1 < (a0.size : Int) := of_decide_eq_true (by first | (with_reducible assumption) | assumption)
                              have hx8 := bt_at a0 x4_1
                              replace p8 := eq_true p8
                              replace q8 := eq_true q8
                              go_wp2_with (first | ((with_reducible refine gate_builtin (b := .append) (xs := #[.tmp 46, .tmp 48]) rfl ?_); (try (refine gate_guard (by rfl) ?_; dsimp only)); at_builtin; refine Kd.R_append (Kd.int .u8) (w0 := w) w.heap.size rfl (.tmp 46) (.tmp 48) 38 5 (.int .u8 0) 1 rfl Tryd.underlying38 info5 rfl (by decide) (by omega) u3 x3_1 (bt a0 x4_1) [.int .u8 (bt a0 x4_1)] (fun _ => True) (fun _ => False) rfl rfl ?aP (fun _ hk => hk.elim) ?aF ?aO ?aB ?aS ?aL ?_; (case aP => exact rfl); (case aB => exact (by repeat (first | (with_reducible first | exact HB.out | apply below_alloc | apply pw_below_drewN | apply below_drew1) | exact HB.out))); (case aF => exact (fun _ _ => trivial)); (case aO => exact (by (with_reducible repeat (first | apply Kd.R_alloc | apply Kd.R_drewN | apply Kd.R_drew)); exact HO_3.out)); (case aS => exact (below_size (by repeat (first | (with_reducible first | exact HB.out | apply below_alloc | apply pw_below_drewN | apply below_drew1) | exact HB.out)))); (case aL => have := LMc46.out; omega); intro v132 w47 ho hb hg hat; rw [← Ny131.out] at ho; have n0_ := Aside0.mk (hb); have n1_ := Aside0.mk (ho); clear HB; clear HO_3; have HB := n0_; have HO133 := n1_; clear n0_ n1_; clear ho hb hg hat))
                              go_roundg kj1
                              case measure => have := HK1.out; have := HJ1.out; omega
                              case rel => exact ⟨(y131), (wrap64 (x4_1 + 1)), (by first | rfl | (simp; done) | (simp [*]; done)), H', ⟨by have := HK1.out; have := HJ1.out; omega⟩, ⟨by (with_reducible repeat (first | apply Kd.R_alloc | apply Kd.R_drewN | apply Kd.R_drew)); exact HO133.out⟩, ⟨by repeat (first | (with_reducible first | exact HB.out | apply below_alloc | apply pw_below_drewN | apply below_drew1) | exact HB.out)⟩⟩
                            · rw [if_neg c46] at H
                              exact absurd H (by simp)
                          · rw [if_neg c45] at H
                            have c45b0 : ((bt a0 x4_1) == 45) = false := beq_eq_false_iff_ne.mpr c45
                            have c45b1 : ((bt a0 x4_1) != 45) = true := bne_iff_ne.mpr c45
                            have H' := Aside0.mk H
                            clear H
                            have p8 : 0 ≤ (x4_1 : Int) := of_decide_eq_true (by first | (with_reducible assumption) | assumption)
                            have q8 : x4_1 < (a0.size : Int) := of_decide_eq_true (by first | (with_reducible assumption) | assumption)
                            have hx8 := bt_at a0 x4_1
                            replace p8 := eq_true p8
                            replace q8 := eq_true q8
                            go_wp2
                            go_roundg kj1
                            case measure => have := HK1.out; have := HJ1.out; omega
                            case rel => exact ⟨(x3_1), (wrap64 (x4_1 + 1)), (by first | rfl | (simp; done) | (simp [*]; done)), H', ⟨by have := HK1.out; have := HJ1.out; omega⟩, ⟨by (with_reducible repeat (first | apply Kd.R_alloc | apply Kd.R_drewN | apply Kd.R_drew)); exact HO_3.out⟩, ⟨by repeat (first | (with_reducible first | exact HB.out | apply below_alloc | apply pw_below_drewN | apply below_drew1) | exact HB.out)⟩⟩
                      · rw [if_neg c41] at H
                        have c41b0 : decide (48 ≤ (bt a0 x4_1)) = false := decide_eq_false c41
                        clear c41
                        by_cases c48 : (bt a0 x4_1) = 45
                        · rw [if_pos c48] at H
                          have c48b0 : ((bt a0 x4_1) == 45) = true := beq_iff_eq.mpr c48
                          have c48b1 : ((bt a0 x4_1) != 45) = false := bne_eq_false_iff_eq.mpr c48
                          clear c48
                          by_cases c49 : x3_1.length < 140737488355328
                          · rw [if_pos c49] at H
                            have LMc49 := Aside0.mk c49
                            clear c49
                            obtain ⟨y134, hy134⟩ : ∃ y_ : List Int, y_ = (x3_1 ++ [bt a0 x4_1]) := ⟨_, rfl⟩
                            replace H : (laws_kyPlain.l0 kj1 a0 y134 (wrap64 (x4_1 + 1))) = some r := by first | (rw [hy134]; with_reducible exact H) | (have H2_ := (Option.bind_some _ _).symm.trans H; rw [hy134]; with_reducible exact H2_) | (have H2_ := (Option.bind_some _ _).symm.trans H; with_reducible exact H2_) | with_reducible exact H | (rw [hy134]; exact H) | exact H
                            have Ny134 := Aside0.mk hy134
                            clear hy134
                            have H' := Aside0.mk H
                            clear H
                            have p8 : 0 ≤ (x4_1 : Int) := of_decide_eq_true (by first | (with_reducible assumption) | assumption)
                            have q8 : x4_1 < (a0.size : Int) := of_decide_eq_true (by first | (with_reducible assumption) | assumption)
                            have hx8 := bt_at a0 x4_1
                            replace p8 := eq_true p8
                            replace q8 := eq_true q8
                            go_wp2_with (first | ((with_reducible refine gate_builtin (b := .append) (xs := #[.tmp 46, .tmp 48]) rfl ?_); (try (refine gate_guard (by rfl) ?_; dsimp only)); at_builtin; refine Kd.R_append (Kd.int .u8) (w0 := w) w.heap.size rfl (.tmp 46) (.tmp 48) 38 5 (.int .u8 0) 1 rfl Tryd.underlying38 info5 rfl (by decide) (by omega) u3 x3_1 (bt a0 x4_1) [.int .u8 (bt a0 x4_1)] (fun _ => True) (fun _ => False) rfl rfl ?aP (fun _ hk => hk.elim) ?aF ?aO ?aB ?aS ?aL ?_; (case aP => exact rfl); (case aB => exact (by repeat (first | (with_reducible first | exact HB.out | apply below_alloc | apply pw_below_drewN | apply below_drew1) | exact HB.out))); (case aF => exact (fun _ _ => trivial)); (case aO => exact (by (with_reducible repeat (first | apply Kd.R_alloc | apply Kd.R_drewN | apply Kd.R_drew)); exact HO_3.out)); (case aS => exact (below_size (by repeat (first | (with_reducible first | exact HB.out | apply below_alloc | apply pw_below_drewN | apply below_drew1) | exact HB.out)))); (case aL => have := LMc49.out; omega); intro v135 w50 ho hb hg hat; rw [← Ny134.out] at ho; have n0_ := Aside0.mk (hb); have n1_ := Aside0.mk (ho); clear HB; clear HO_3; have HB := n0_; have HO136 := n1_; clear n0_ n1_; clear ho hb hg hat))
                            go_roundg kj1
                            case measure => have := HK1.out; have := HJ1.out; omega
                            case rel => exact ⟨(y134), (wrap64 (x4_1 + 1)), (by first | rfl | (simp; done) | (simp [*]; done)), H', ⟨by have := HK1.out; have := HJ1.out; omega⟩, ⟨by (with_reducible repeat (first | apply Kd.R_alloc | apply Kd.R_drewN | apply Kd.R_drew)); exact HO136.out⟩, ⟨by repeat (first | (with_reducible first | exact HB.out | apply below_alloc | apply pw_below_drewN | apply below_drew1) | exact HB.out)⟩⟩
                          · rw [if_neg c49] at H
                            exact absurd H (by simp)
                        · rw [if_neg c48] at H
                          have c48b0 : ((bt a0 x4_1) == 45) = false := beq_eq_false_iff_ne.mpr c48
                          have c48b1 : ((bt a0 x4_1) != 45) = true := bne_iff_ne.mpr c48
                          have H' := Aside0.mk H
                          clear H
                          have p8 : 0 ≤ (x4_1 : Int) := of_decide_eq_true (by first | (with_reducible assumption) | assumption)
                          have q8 : x4_1 < (a0.size : Int) := of_decide_eq_true (by first | (with_reducible assumption) | assumption)
                          have hx8 := bt_at a0 x4_1
                          replace p8 := eq_true p8
                          replace q8 := eq_true q8
                          go_wp2
                          go_roundg kj1
                          case measure => have := HK1.out; have := HJ1.out; omega
                          case rel => exact ⟨(x3_1), (wrap64 (x4_1 + 1)), (by first | rfl | (simp; done) | (simp [*]; done)), H', ⟨by have := HK1.out; have := HJ1.out; omega⟩, ⟨by (with_reducible repeat (first | apply Kd.R_alloc | apply Kd.R_drewN | apply Kd.R_drew)); exact HO_3.out⟩, ⟨by repeat (first | (with_reducible first | exact HB.out | apply below_alloc | apply pw_below_drewN | apply below_drew1) | exact HB.out)⟩⟩
                  · rw [if_neg c37] at H
                    have c37b0 : decide (65 ≤ (bt a0 x4_1)) = false := decide_eq_false c37
                    clear c37
                    by_cases c51 : (bt a0 x4_1) ≥ 48
                    · rw [if_pos c51] at H
                      have c51b0 : decide (48 ≤ (bt a0 x4_1)) = true := decide_eq_true c51
                      clear c51
                      by_cases c52 : (bt a0 x4_1) ≤ 57
                      · rw [if_pos c52] at H
                        have c52b0 : decide ((bt a0 x4_1) ≤ 57) = true := decide_eq_true c52
                        clear c52
                        by_cases c53 : x3_1.length < 140737488355328
                        · rw [if_pos c53] at H
                          have LMc53 := Aside0.mk c53
                          clear c53
                          obtain ⟨y137, hy137⟩ : ∃ y_ : List Int, y_ = (x3_1 ++ [bt a0 x4_1]) := ⟨_, rfl⟩
                          replace H : (laws_kyPlain.l0 kj1 a0 y137 (wrap64 (x4_1 + 1))) = some r := by first | (rw [hy137]; with_reducible exact H) | (have H2_ := (Option.bind_some _ _).symm.trans H; rw [hy137]; with_reducible exact H2_) | (have H2_ := (Option.bind_some _ _).symm.trans H; with_reducible exact H2_) | with_reducible exact H | (rw [hy137]; exact H) | exact H
                          have Ny137 := Aside0.mk hy137
                          clear hy137
                          have H' := Aside0.mk H
                          clear H
                          have p8 : 0 ≤ (x4_1 : Int) := of_decide_eq_true (by first | (with_reducible assumption) | assumption)
                          have q8 : x4_1 < (a0.size : Int) := of_decide_eq_true (by first | (with_reducible assumption) | assumption)
                          have hx8 := bt_at a0 x4_1
                          replace p8 := eq_true p8
                          replace q8 := eq_true q8
                          go_wp2_with (first | ((with_reducible refine gate_builtin (b := .append) (xs := #[.tmp 46, .tmp 48]) rfl ?_); (try (refine gate_guard (by rfl) ?_; dsimp only)); at_builtin; refine Kd.R_append (Kd.int .u8) (w0 := w) w.heap.size rfl (.tmp 46) (.tmp 48) 38 5 (.int .u8 0) 1 rfl Tryd.underlying38 info5 rfl (by decide) (by omega) u3 x3_1 (bt a0 x4_1) [.int .u8 (bt a0 x4_1)] (fun _ => True) (fun _ => False) rfl rfl ?aP (fun _ hk => hk.elim) ?aF ?aO ?aB ?aS ?aL ?_; (case aP => exact rfl); (case aB => exact (by repeat (first | (with_reducible first | exact HB.out | apply below_alloc | apply pw_below_drewN | apply below_drew1) | exact HB.out))); (case aF => exact (fun _ _ => trivial)); (case aO => exact (by (with_reducible repeat (first | apply Kd.R_alloc | apply Kd.R_drewN | apply Kd.R_drew)); exact HO_3.out)); (case aS => exact (below_size (by repeat (first | (with_reducible first | exact HB.out | apply below_alloc | apply pw_below_drewN | apply below_drew1) | exact HB.out)))); (case aL => have := LMc53.out; omega); intro v138 w54 ho hb hg hat; rw [← Ny137.out] at ho; have n0_ := Aside0.mk (hb); have n1_ := Aside0.mk (ho); clear HB; clear HO_3; have HB := n0_; have HO139 := n1_; clear n0_ n1_; clear ho hb hg hat))
                          go_roundg kj1
                          case measure => have := HK1.out; have := HJ1.out; omega
                          case rel => exact ⟨(y137), (wrap64 (x4_1 + 1)), (by first | rfl | (simp; done) | (simp [*]; done)), H', ⟨by have := HK1.out; have := HJ1.out; omega⟩, ⟨by (with_reducible repeat (first | apply Kd.R_alloc | apply Kd.R_drewN | apply Kd.R_drew)); exact HO139.out⟩, ⟨by repeat (first | (with_reducible first | exact HB.out | apply below_alloc | apply pw_below_drewN | apply below_drew1) | exact HB.out)⟩⟩
                        · rw [if_neg c53] at H
                          exact absurd H (by simp)
                      · rw [if_neg c52] at H
                        have c52b0 : decide ((bt a0 x4_1) ≤ 57) = false := decide_eq_false c52
                        clear c52
                        by_cases c55 : (bt a0 x4_1) = 45
                        · rw [if_pos c55] at H
                          have c55b0 : ((bt a0 x4_1) == 45) = true := beq_iff_eq.mpr c55
                          have c55b1 : ((bt a0 x4_1) != 45) = false := bne_eq_false_iff_eq.mpr c55
                          clear c55
                          by_cases c56 : x3_1.length < 140737488355328
                          · rw [if_pos c56] at H
                            have LMc56 := Aside0.mk c56
                            clear c56
                            obtain ⟨y140, hy140⟩ : ∃ y_ : List Int, y_ = (x3_1 ++ [bt a0 x4_1]) := ⟨_, rfl⟩
                            replace H : (laws_kyPlain.l0 kj1 a0 y140 (wrap64 (x4_1 + 1))) = some r := by first | (rw [hy140]; with_reducible exact H) | (have H2_ := (Option.bind_some _ _).symm.trans H; rw [hy140]; with_reducible exact H2_) | (have H2_ := (Option.bind_some _ _).symm.trans H; with_reducible exact H2_) | with_reducible exact H | (rw [hy140]; exact H) | exact H
                            have Ny140 := Aside0.mk hy140
                            clear hy140
                            have H' := Aside0.mk H
                            clear H
                            have p8 : 0 ≤ (x4_1 : Int) := of_decide_eq_true (by first | (with_reducible assumption) | assumption)
                            have q8 : x4_1 < (a0.size : Int) := of_decide_eq_true (by first | (with_reducible assumption) | assumption)
                            have hx8 := bt_at a0 x4_1
                            replace p8 := eq_true p8
                            replace q8 := eq_true q8
                            go_wp2_with (first | ((with_reducible refine gate_builtin (b := .append) (xs := #[.tmp 46, .tmp 48]) rfl ?_); (try (refine gate_guard (by rfl) ?_; dsimp only)); at_builtin; refine Kd.R_append (Kd.int .u8) (w0 := w) w.heap.size rfl (.tmp 46) (.tmp 48) 38 5 (.int .u8 0) 1 rfl Tryd.underlying38 info5 rfl (by decide) (by omega) u3 x3_1 (bt a0 x4_1) [.int .u8 (bt a0 x4_1)] (fun _ => True) (fun _ => False) rfl rfl ?aP (fun _ hk => hk.elim) ?aF ?aO ?aB ?aS ?aL ?_; (case aP => exact rfl); (case aB => exact (by repeat (first | (with_reducible first | exact HB.out | apply below_alloc | apply pw_below_drewN | apply below_drew1) | exact HB.out))); (case aF => exact (fun _ _ => trivial)); (case aO => exact (by (with_reducible repeat (first | apply Kd.R_alloc | apply Kd.R_drewN | apply Kd.R_drew)); exact HO_3.out)); (case aS => exact (below_size (by repeat (first | (with_reducible first | exact HB.out | apply below_alloc | apply pw_below_drewN | apply below_drew1) | exact HB.out)))); (case aL => have := LMc56.out; omega); intro v141 w57 ho hb hg hat; rw [← Ny140.out] at ho; have n0_ := Aside0.mk (hb); have n1_ := Aside0.mk (ho); clear HB; clear HO_3; have HB := n0_; have HO142 := n1_; clear n0_ n1_; clear ho hb hg hat))
                            go_roundg kj1
                            case measure => have := HK1.out; have := HJ1.out; omega
                            case rel => exact ⟨(y140), (wrap64 (x4_1 + 1)), (by first | rfl | (simp; done) | (simp [*]; done)), H', ⟨by have := HK1.out; have := HJ1.out; omega⟩, ⟨by (with_reducible repeat (first | apply Kd.R_alloc | apply Kd.R_drewN | apply Kd.R_drew)); exact HO142.out⟩, ⟨by repeat (first | (with_reducible first | exact HB.out | apply below_alloc | apply pw_below_drewN | apply below_drew1) | exact HB.out)⟩⟩
                          · rw [if_neg c56] at H
                            exact absurd H (by simp)
                        · rw [if_neg c55] at H
                          have c55b0 : ((bt a0 x4_1) == 45) = false := beq_eq_false_iff_ne.mpr c55
                          have c55b1 : ((bt a0 x4_1) != 45) = true := bne_iff_ne.mpr c55
                          have H' := Aside0.mk H
                          clear H
                          have p8 : 0 ≤ (x4_1 : Int) := of_decide_eq_true (by first | (with_reducible assumption) | assumption)
                          have q8 : x4_1 < (a0.size : Int) := of_decide_eq_true (by first | (with_reducible assumption) | assumption)
                          have hx8 := bt_at a0 x4_1
                          replace p8 := eq_true p8
                          replace q8 := eq_true q8
                          go_wp2
                          go_roundg kj1
                          case measure => have := HK1.out; have := HJ1.out; omega
                          case rel => exact ⟨(x3_1), (wrap64 (x4_1 + 1)), (by first | rfl | (simp; done) | (simp [*]; done)), H', ⟨by have := HK1.out; have := HJ1.out; omega⟩, ⟨by (with_reducible repeat (first | apply Kd.R_alloc | apply Kd.R_drewN | apply Kd.R_drew)); exact HO_3.out⟩, ⟨by repeat (first | (with_reducible first | exact HB.out | apply below_alloc | apply pw_below_drewN | apply below_drew1) | exact HB.out)⟩⟩
                    · rw [if_neg c51] at H
                      have c51b0 : decide (48 ≤ (bt a0 x4_1)) = false := decide_eq_false c51
                      clear c51
                      by_cases c58 : (bt a0 x4_1) = 45
                      · rw [if_pos c58] at H
                        have c58b0 : ((bt a0 x4_1) == 45) = true := beq_iff_eq.mpr c58
                        have c58b1 : ((bt a0 x4_1) != 45) = false := bne_eq_false_iff_eq.mpr c58
                        clear c58
                        by_cases c59 : x3_1.length < 140737488355328
                        · rw [if_pos c59] at H
                          have LMc59 := Aside0.mk c59
                          clear c59
                          obtain ⟨y143, hy143⟩ : ∃ y_ : List Int, y_ = (x3_1 ++ [bt a0 x4_1]) := ⟨_, rfl⟩
                          replace H : (laws_kyPlain.l0 kj1 a0 y143 (wrap64 (x4_1 + 1))) = some r := by first | (rw [hy143]; with_reducible exact H) | (have H2_ := (Option.bind_some _ _).symm.trans H; rw [hy143]; with_reducible exact H2_) | (have H2_ := (Option.bind_some _ _).symm.trans H; with_reducible exact H2_) | with_reducible exact H | (rw [hy143]; exact H) | exact H
                          have Ny143 := Aside0.mk hy143
                          clear hy143
                          have H' := Aside0.mk H
                          clear H
                          have p8 : 0 ≤ (x4_1 : Int) := of_decide_eq_true (by first | (with_reducible assumption) | assumption)
                          have q8 : x4_1 < (a0.size : Int) := of_decide_eq_true (by first | (with_reducible assumption) | assumption)
                          have hx8 := bt_at a0 x4_1
                          replace p8 := eq_true p8
                          replace q8 := eq_true q8
                          go_wp2_with (first | ((with_reducible refine gate_builtin (b := .append) (xs := #[.tmp 46, .tmp 48]) rfl ?_); (try (refine gate_guard (by rfl) ?_; dsimp only)); at_builtin; refine Kd.R_append (Kd.int .u8) (w0 := w) w.heap.size rfl (.tmp 46) (.tmp 48) 38 5 (.int .u8 0) 1 rfl Tryd.underlying38 info5 rfl (by decide) (by omega) u3 x3_1 (bt a0 x4_1) [.int .u8 (bt a0 x4_1)] (fun _ => True) (fun _ => False) rfl rfl ?aP (fun _ hk => hk.elim) ?aF ?aO ?aB ?aS ?aL ?_; (case aP => exact rfl); (case aB => exact (by repeat (first | (with_reducible first | exact HB.out | apply below_alloc | apply pw_below_drewN | apply below_drew1) | exact HB.out))); (case aF => exact (fun _ _ => trivial)); (case aO => exact (by (with_reducible repeat (first | apply Kd.R_alloc | apply Kd.R_drewN | apply Kd.R_drew)); exact HO_3.out)); (case aS => exact (below_size (by repeat (first | (with_reducible first | exact HB.out | apply below_alloc | apply pw_below_drewN | apply below_drew1) | exact HB.out)))); (case aL => have := LMc59.out; omega); intro v144 w60 ho hb hg hat; rw [← Ny143.out] at ho; have n0_ := Aside0.mk (hb); have n1_ := Aside0.mk (ho); clear HB; clear HO_3; have HB := n0_; have HO145 := n1_; clear n0_ n1_; clear ho hb hg hat))
                          go_roundg kj1
                          case measure => have := HK1.out; have := HJ1.out; omega
                          case rel => exact ⟨(y143), (wrap64 (x4_1 + 1)), (by first | rfl | (simp; done) | (simp [*]; done)), H', ⟨by have := HK1.out; have := HJ1.out; omega⟩, ⟨by (with_reducible repeat (first | apply Kd.R_alloc | apply Kd.R_drewN | apply Kd.R_drew)); exact HO145.out⟩, ⟨by repeat (first | (with_reducible first | exact HB.out | apply below_alloc | apply pw_below_drewN | apply below_drew1) | exact HB.out)⟩⟩
                        · rw [if_neg c59] at H
                          exact absurd H (by simp)
                      · rw [if_neg c58] at H
                        have c58b0 : ((bt a0 x4_1) == 45) = false := beq_eq_false_iff_ne.mpr c58
                        have c58b1 : ((bt a0 x4_1) != 45) = true := bne_iff_ne.mpr c58
                        have H' := Aside0.mk H
                        clear H
                        have p8 : 0 ≤ (x4_1 : Int) := of_decide_eq_true (by first | (with_reducible assumption) | assumption)
                        have q8 : x4_1 < (a0.size : Int) := of_decide_eq_true (by first | (with_reducible assumption) | assumption)
                        have hx8 := bt_at a0 x4_1
                        replace p8 := eq_true p8
                        replace q8 := eq_true q8
                        go_wp2
                        go_roundg kj1
                        case measure => have := HK1.out; have := HJ1.out; omega
                        case rel => exact ⟨(x3_1), (wrap64 (x4_1 + 1)), (by first | rfl | (simp; done) | (simp [*]; done)), H', ⟨by have := HK1.out; have := HJ1.out; omega⟩, ⟨by (with_reducible repeat (first | apply Kd.R_alloc | apply Kd.R_drewN | apply Kd.R_drew)); exact HO_3.out⟩, ⟨by repeat (first | (with_reducible first | exact HB.out | apply below_alloc | apply pw_below_drewN | apply below_drew1) | exact HB.out)⟩⟩
              · rw [if_neg c7] at H
                exact absurd H (by simp)
            · rw [if_neg c6] at H
              exact absurd H (by simp)
          · replace c5 := Bool.eq_false_iff.mpr c5
            subst c5
            have H1 : (some (strOfNums x3_1)) = some r := by rw [if_neg (show ¬ (false = true) by decide)] at H; exact H
            clear H
            have H := H1
            clear H1
            obtain rfl := Option.some.inj H
            have hcv61 := own_string (P := Tryd.prog) Tryd.underlying38 Tryd.underlying5 Tryd.underlying9 (Kd.own_of_R HO_3.out)
            go_wp2
            go_ret
            exact ⟨by first | rfl | (simp [errW_none, errW_some] <;> rfl) | (simp [*, errW_none, errW_some] <;> rfl), by repeat (first | (with_reducible first | exact HB.out | apply below_alloc | apply pw_below_drewN | apply below_drew1) | exact HB.out)⟩

end Go.Proofs.YtfdgbgjbncakfaaDoor.PkyId
