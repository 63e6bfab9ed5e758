-- Laid by a program of this session (stub.py)
import Derived.Test.YtmjecafddklbjaaGWantsx0
namespace Go.Proofs.Ytmjecafddklbjaa.GWants
open Go.RowKit Go.Proofs.YtmjecafddklbjaaW.PrintWords Go.Proofs.YtmjecafddklbjaaW.PrintLast Go.Proofs.YtmjecafddklbjaaW.PrintMore
attribute [local go_sem] max2_int min2_int max_two min_two max_three min_three max_four min_four   -- for this text's walks alone
set_option linter.unusedVariables false
set_option linter.unusedSimpArgs false

/-! ### spec_Names: function 16 -/
def spec_Names.l0 : Nat → ByteArray → List ByteArray → Int → Int → Option (List ByteArray)
  | 0, _, _, _, _ => none
  | k + 1, x0, x3, x4, x5 => if x5 ≤ (x0.size : Int) then (if x5 = (x0.size : Int) then (if 0 ≤ x4 then (if x4 ≤ x5 then (if x3.length < 8796093022208 then (spec_Names.l0 k x0 (x3 ++ [x0.extract (x4 : Int).toNat (x5 : Int).toNat]) (wrap64 (x5 + 1)) (wrap64 (x5 + 1))) else (none)) else (none)) else (none)) else (if 0 ≤ x5 then (if x5 < (x0.size : Int) then (if (bt x0 x5) = 46 then (if 0 ≤ x4 then (if x4 ≤ x5 then (if x3.length < 8796093022208 then (spec_Names.l0 k x0 (x3 ++ [x0.extract (x4 : Int).toNat (x5 : Int).toNat]) (wrap64 (x5 + 1)) (wrap64 (x5 + 1))) else (none)) else (none)) else (none)) else (spec_Names.l0 k x0 x3 x4 (wrap64 (x5 + 1)))) else (none)) else (none))) else (some x3)
def spec_Names.f (k : Nat) (a0 : ByteArray) : Option (List ByteArray) := spec_Names.l0 k a0 ([] : List ByteArray) 0 0
theorem spec_Names.mono_l : ∀ k, (∀ y0 y1 y2 y3, LeO (spec_Names.l0 k y0 y1 y2 y3) (spec_Names.l0 (k + 1) y0 y1 y2 y3))
  | 0 => fun _ _ _ _ r h => by simp [spec_Names.l0] at h
  | k + 1 => by
    have ih0 := spec_Names.mono_l k
    · intro y0 y1 y2 y3
      unfold spec_Names.l0
      repeat' first
      | (with_reducible exact ih0 _ _ _ _)
      | (with_reducible exact LeO.refl _)
      | (with_reducible exact LeO.none _)
      | (with_reducible refine LeO.ite ?_ ?_)
      | (with_reducible refine LeO.bind ?_ (fun _ => ?_))
      | exact ih0 _ _ _ _
      | exact LeO.none _
      | refine LeO.ite ?_ ?_
      | refine LeO.bind ?_ (fun _ => ?_)
theorem spec_Names.mono : ∀ a0 k, LeO (spec_Names.f k a0) (spec_Names.f (k + 1) a0) := by
  intro a0 k
  have ih0 := spec_Names.mono_l k
  unfold spec_Names.f
  repeat' first
      | (with_reducible exact ih0 _ _ _ _)
      | (with_reducible exact LeO.refl _)
      | (with_reducible exact LeO.none _)
      | (with_reducible refine LeO.ite ?_ ?_)
      | (with_reducible refine LeO.bind ?_ (fun _ => ?_))
      | exact ih0 _ _ _ _
      | exact LeO.none _
      | refine LeO.ite ?_ ?_
      | refine LeO.bind ?_ (fun _ => ?_)
set_option maxHeartbeats 8000000 in
set_option maxRecDepth 100000 in
theorem spec_Names.calls (k : Nat) (a0 : ByteArray) (r : List ByteArray) (w : World) (h : spec_Names.f k a0 = some r) :
    Calls Try.prog 16 #[.string a0] w fun e w' => ∃ v0_ : Value, e = .returned (v0_) ∧ Kd.R Kd.string 9 w' w.heap.size (fun _ => True) v0_ r ∧ Below w.heap.size w w' := by
  have HB := Aside0.mk (Below.refl w.heap.size w)
  have H : (spec_Names.l0 k a0 ([] : List ByteArray) 0 0) = some r := h
  clear h
  have H' := Aside0.mk H
  clear H
  go_enter Try.func16, Try.ntmps16
  go_wp2
  go_loopg [3, 4, 5] k (fun kq v3 v4 v5 w' => ∃ (x3_1 : List ByteArray) (x4_1 : Int) (x5_1 : Int), v4 = .int .i64 x4_1 ∧ v5 = .int .i64 x5_1 ∧ Aside0 (spec_Names.l0 kq a0 x3_1 x4_1 x5_1 = some r) ∧ Aside0 (kq ≤ k) ∧ Aside0 (Kd.R Kd.string 9 w' w.heap.size (fun _ => True) v3 x3_1) ∧ Aside0 (Below w.heap.size w w'))
  case atStart => exact ⟨(([] : List ByteArray)), (0), (0), (by first | rfl | (simp; done) | (simp [*]; done)), (by first | rfl | (simp; done) | (simp [*]; done)), H', ⟨Nat.le_refl _⟩, ⟨by first | exact Kd.R_nil _ _ _ _ _ | exact Kd.N_nil _ _ _ _ _ | exact Kd.V_nil _ _ _ _ _ | exact Kd.Q_nil _ _ _ _ _ | exact Kd.S_nil _ _ _ _ _⟩, ⟨by repeat (first | (with_reducible first | exact HB.out | apply below_alloc | apply pw_below_drewN | apply below_drew1) | exact HB.out)⟩⟩
  case round =>
    clear H'
    try clear c1
    obtain ⟨x3_1, x4_1, x5_1, rfl, rfl, HA, HK1, HO_3, HB⟩ := hrel
    cases gk with
    | zero => exact absurd HA.out (by simp [spec_Names.l0])
    | succ k1 =>
      have H := HA.out
      clear HA
      simp only [spec_Names.l0] at H
      by_cases c2 : x5_1 ≤ (a0.size : Int)
      · rw [if_pos c2] at H
        have c2b0 : decide (x5_1 ≤ (a0.size : Int)) = true := decide_eq_true c2
        clear c2
        by_cases c3 : x5_1 = (a0.size : Int)
        · rw [if_pos c3] at H
          have c3b0 : (x5_1 == (a0.size : Int)) = true := beq_iff_eq.mpr c3
          have c3b1 : (x5_1 != (a0.size : Int)) = false := bne_eq_false_iff_eq.mpr c3
          clear c3
          by_cases c4 : 0 ≤ x4_1
          · rw [if_pos c4] at H
            have c4b0 := eq_true c4
            have c4b1 : decide (0 ≤ x4_1) = true := decide_eq_true c4
            clear c4
            by_cases c5 : x4_1 ≤ x5_1
            · rw [if_pos c5] at H
              have c5b0 := eq_true c5
              have c5b1 : decide (x4_1 ≤ x5_1) = true := decide_eq_true c5
              clear c5
              have c6b0 := eq_true (of_decide_eq_true (by first | (with_reducible assumption) | assumption) : x5_1 ≤ (a0.size : Int))
              by_cases c7 : x3_1.length < 8796093022208
              · rw [if_pos c7] at H
                have LMc7 := Aside0.mk c7
                clear c7
                obtain ⟨y101, hy101⟩ : ∃ y_ : List ByteArray, y_ = (x3_1 ++ [a0.extract (x4_1 : Int).toNat (x5_1 : Int).toNat]) := ⟨_, rfl⟩
                replace H : (spec_Names.l0 k1 a0 y101 (wrap64 (x5_1 + 1)) (wrap64 (x5_1 + 1))) = some r := by first | (rw [hy101]; with_reducible exact H) | (have H2_ := (Option.bind_some _ _).symm.trans H; rw [hy101]; with_reducible exact H2_) | (have H2_ := (Option.bind_some _ _).symm.trans H; with_reducible exact H2_) | with_reducible exact H | (rw [hy101]; exact H) | exact H
                have Ny101 := Aside0.mk hy101
                clear hy101
                have H' := Aside0.mk H
                clear H
                go_wp2_with (first | ((with_reducible refine gate_builtin (b := .append) (xs := #[.tmp 22, .tmp 27]) rfl ?_); at_builtin; refine Kd.R_append Kd.string (w0 := w) w.heap.size rfl (.tmp 22) (.tmp 27) 22 9 (.string ⟨#[]⟩) 16 rfl Try.underlying22 info9 rfl (by decide) (by omega) u3 x3_1 (a0.extract (x4_1 : Int).toNat (x5_1 : Int).toNat) [.string (a0.extract (x4_1 : Int).toNat (x5_1 : Int).toNat)] (fun _ => True) (fun _ => False) rfl rfl ?aP (fun _ hk => hk.elim) ?aF ?aO ?aB ?aS ?aL ?_; (case aP => exact rfl); (case aB => exact (by repeat (first | (with_reducible first | exact HB.out | apply below_alloc | apply pw_below_drewN | apply below_drew1) | exact HB.out))); (case aF => exact (fun _ _ => trivial)); (case aO => exact (by (with_reducible repeat (first | apply Kd.R_alloc | apply Kd.R_drewN | apply Kd.R_drew)); exact HO_3.out)); (case aS => exact (below_size (by repeat (first | (with_reducible first | exact HB.out | apply below_alloc | apply pw_below_drewN | apply below_drew1) | exact HB.out)))); (case aL => have := LMc7.out; omega); intro v102 w8 ho hb hg hat; rw [← Ny101.out] at ho; have n0_ := Aside0.mk (hb); have n1_ := Aside0.mk (ho); clear HB; clear HO_3; have HB := n0_; have HO103 := n1_; clear n0_ n1_; clear ho hb hg hat))
                go_roundg k1
                case measure => have := HK1.out; omega
                case rel => exact ⟨(y101), (wrap64 (x5_1 + 1)), (wrap64 (x5_1 + 1)), (by first | rfl | (simp; done) | (simp [*]; done)), (by first | rfl | (simp; done) | (simp [*]; done)), H', ⟨by have := HK1.out; omega⟩, ⟨by (with_reducible repeat (first | apply Kd.R_alloc | apply Kd.R_drewN | apply Kd.R_drew)); exact HO103.out⟩, ⟨by repeat (first | (with_reducible first | exact HB.out | apply below_alloc | apply pw_below_drewN | apply below_drew1) | exact HB.out)⟩⟩
              · rw [if_neg c7] at H
                exact absurd H (by simp)
            · rw [if_neg c5] at H
              exact absurd H (by simp)
          · rw [if_neg c4] at H
            exact absurd H (by simp)
        · rw [if_neg c3] at H
          have c3b0 : (x5_1 == (a0.size : Int)) = false := beq_eq_false_iff_ne.mpr c3
          have c3b1 : (x5_1 != (a0.size : Int)) = true := bne_iff_ne.mpr c3
          by_cases c9 : 0 ≤ x5_1
          · rw [if_pos c9] at H
            have c9b0 : decide (0 ≤ x5_1) = true := decide_eq_true c9
            clear c9
            by_cases c10 : x5_1 < (a0.size : Int)
            · rw [if_pos c10] at H
              have c10b0 : decide (x5_1 < (a0.size : Int)) = true := decide_eq_true c10
              clear c10
              by_cases c12 : (bt a0 x5_1) = 46
              · rw [if_pos c12] at H
                have c12b0 : ((bt a0 x5_1) == 46) = true := beq_iff_eq.mpr c12
                have c12b1 : ((bt a0 x5_1) != 46) = false := bne_eq_false_iff_eq.mpr c12
                clear c12
                by_cases c13 : 0 ≤ x4_1
                · rw [if_pos c13] at H
                  have c13b0 := eq_true c13
                  have c13b1 : decide (0 ≤ x4_1) = true := decide_eq_true c13
                  clear c13
                  by_cases c14 : x4_1 ≤ x5_1
                  · rw [if_pos c14] at H
                    have c14b0 := eq_true c14
                    have c14b1 : decide (x4_1 ≤ x5_1) = true := decide_eq_true c14
                    clear c14
                    have c15b0 := eq_true (of_decide_eq_true (by first | (with_reducible assumption) | assumption) : x5_1 ≤ (a0.size : Int))
                    by_cases c16 : x3_1.length < 8796093022208
                    · rw [if_pos c16] at H
                      have LMc16 := Aside0.mk c16
                      clear c16
                      obtain ⟨y104, hy104⟩ : ∃ y_ : List ByteArray, y_ = (x3_1 ++ [a0.extract (x4_1 : Int).toNat (x5_1 : Int).toNat]) := ⟨_, rfl⟩
                      replace H : (spec_Names.l0 k1 a0 y104 (wrap64 (x5_1 + 1)) (wrap64 (x5_1 + 1))) = some r := by first | (rw [hy104]; with_reducible exact H) | (have H2_ := (Option.bind_some _ _).symm.trans H; rw [hy104]; with_reducible exact H2_) | (have H2_ := (Option.bind_some _ _).symm.trans H; with_reducible exact H2_) | with_reducible exact H | (rw [hy104]; exact H) | exact H
                      have Ny104 := Aside0.mk hy104
                      clear hy104
                      have H' := Aside0.mk H
                      clear H
                      have p11 : 0 ≤ (x5_1 : Int) := of_decide_eq_true (by first | (with_reducible assumption) | assumption)
                      have q11 : x5_1 < (a0.size : Int) := of_decide_eq_true (by first | (with_reducible assumption) | assumption)
                      have hx11 := bt_at a0 x5_1
                      replace p11 := eq_true p11
                      replace q11 := eq_true q11
                      go_wp2_with (first | ((with_reducible refine gate_builtin (b := .append) (xs := #[.tmp 22, .tmp 27]) rfl ?_); at_builtin; refine Kd.R_append Kd.string (w0 := w) w.heap.size rfl (.tmp 22) (.tmp 27) 22 9 (.string ⟨#[]⟩) 16 rfl Try.underlying22 info9 rfl (by decide) (by omega) u3 x3_1 (a0.extract (x4_1 : Int).toNat (x5_1 : Int).toNat) [.string (a0.extract (x4_1 : Int).toNat (x5_1 : Int).toNat)] (fun _ => True) (fun _ => False) rfl rfl ?aP (fun _ hk => hk.elim) ?aF ?aO ?aB ?aS ?aL ?_; (case aP => exact rfl); (case aB => exact (by repeat (first | (with_reducible first | exact HB.out | apply below_alloc | apply pw_below_drewN | apply below_drew1) | exact HB.out))); (case aF => exact (fun _ _ => trivial)); (case aO => exact (by (with_reducible repeat (first | apply Kd.R_alloc | apply Kd.R_drewN | apply Kd.R_drew)); exact HO_3.out)); (case aS => exact (below_size (by repeat (first | (with_reducible first | exact HB.out | apply below_alloc | apply pw_below_drewN | apply below_drew1) | exact HB.out)))); (case aL => have := LMc16.out; omega); intro v105 w17 ho hb hg hat; rw [← Ny104.out] at ho; have n0_ := Aside0.mk (hb); have n1_ := Aside0.mk (ho); clear HB; clear HO_3; have HB := n0_; have HO106 := n1_; clear n0_ n1_; clear ho hb hg hat))
                      go_roundg k1
                      case measure => have := HK1.out; omega
                      case rel => exact ⟨(y104), (wrap64 (x5_1 + 1)), (wrap64 (x5_1 + 1)), (by first | rfl | (simp; done) | (simp [*]; done)), (by first | rfl | (simp; done) | (simp [*]; done)), H', ⟨by have := HK1.out; omega⟩, ⟨by (with_reducible repeat (first | apply Kd.R_alloc | apply Kd.R_drewN | apply Kd.R_drew)); exact HO106.out⟩, ⟨by repeat (first | (with_reducible first | exact HB.out | apply below_alloc | apply pw_below_drewN | apply below_drew1) | exact HB.out)⟩⟩
                    · rw [if_neg c16] at H
                      exact absurd H (by simp)
                  · rw [if_neg c14] at H
                    exact absurd H (by simp)
                · rw [if_neg c13] at H
                  exact absurd H (by simp)
              · rw [if_neg c12] at H
                have c12b0 : ((bt a0 x5_1) == 46) = false := beq_eq_false_iff_ne.mpr c12
                have c12b1 : ((bt a0 x5_1) != 46) = true := bne_iff_ne.mpr c12
                have H' := Aside0.mk H
                clear H
                have p11 : 0 ≤ (x5_1 : Int) := of_decide_eq_true (by first | (with_reducible assumption) | assumption)
                have q11 : x5_1 < (a0.size : Int) := of_decide_eq_true (by first | (with_reducible assumption) | assumption)
                have hx11 := bt_at a0 x5_1
                replace p11 := eq_true p11
                replace q11 := eq_true q11
                go_wp2
                go_roundg k1
                case measure => have := HK1.out; omega
                case rel => exact ⟨(x3_1), (x4_1), (wrap64 (x5_1 + 1)), (by first | rfl | (simp; done) | (simp [*]; done)), (by first | rfl | (simp; done) | (simp [*]; done)), H', ⟨by have := HK1.out; omega⟩, ⟨by (with_reducible repeat (first | apply Kd.R_alloc | apply Kd.R_drewN | apply Kd.R_drew)); exact HO_3.out⟩, ⟨by repeat (first | (with_reducible first | exact HB.out | apply below_alloc | apply pw_below_drewN | apply below_drew1) | exact HB.out)⟩⟩
            · rw [if_neg c10] at H
              exact absurd H (by simp)
          · rw [if_neg c9] at H
            exact absurd H (by simp)
      · rw [if_neg c2] at H
        have c2b0 : decide (x5_1 ≤ (a0.size : Int)) = false := decide_eq_false c2
        clear c2
        obtain rfl := Option.some.inj H
        go_wp2
        go_ret
        exact ⟨_, by first | rfl | (simp [errW_none, errW_some] <;> rfl) | (simp [*, errW_none, errW_some] <;> rfl), by (with_reducible repeat (first | apply Kd.R_alloc | apply Kd.R_drewN | apply Kd.R_drew)); exact HO_3.out, by repeat (first | (with_reducible first | exact HB.out | apply below_alloc | apply pw_below_drewN | apply below_drew1) | exact HB.out)⟩

/-! ### spec_Version: function 8 -/
mutual
def spec_Version.l0 : Nat → List ByteArray → List ByteArray → Int → Int → Option (Bool)
  | 0, _, _, _, _ => none
  | k + 1, x3, x9, x10, x11 => if x11 < x10 then (if 0 ≤ x11 then (if x11 < (x9.length : Int) then (spec_Version.l1 k x3 (rdOf ByteArray.empty x9 x11) x9 x10 x11 ((rdOf ByteArray.empty x9 x11).size : Int) 0) else (none)) else (none)) else (some ((x3.length : Int) == 3))
def spec_Version.l1 : Nat → List ByteArray → ByteArray → List ByteArray → Int → Int → Int → Int → Option (Bool)
  | 0, _, _, _, _, _, _, _ => none
  | k + 1, x3, x5, x9, x10, x11, x16, x17 => if x17 < x16 then (if 0 ≤ x17 then (if x17 < (x5.size : Int) then (if (bt x5 x17) < 48 then (some false) else (if (bt x5 x17) > 57 then (some false) else (spec_Version.l1 k x3 x5 x9 x10 x11 x16 (wrap64 (x17 + 1))))) else (none)) else (none)) else (if x5.toList = ([] : List UInt8) then (some false) else (if (x5.size : Int) > 9 then (some false) else (if (x5.size : Int) > 1 then (if 0 < (x5.size : Int) then (if (bt x5 0) = 48 then (some false) else (spec_Version.l0 k x3 x9 x10 (wrap64 (x11 + 1)))) else (none)) else (spec_Version.l0 k x3 x9 x10 (wrap64 (x11 + 1))))))
end
def spec_Version.f (k : Nat) (a0 : ByteArray) : Option (Bool) := (spec_Names.f k a0).bind fun t107 => (spec_Version.l0 k t107 t107 (t107.length : Int) 0)
theorem spec_Version.mono_l : ∀ k, (∀ y0 y1 y2 y3, LeO (spec_Version.l0 k y0 y1 y2 y3) (spec_Version.l0 (k + 1) y0 y1 y2 y3)) ∧ (∀ y0 y1 y2 y3 y4 y5 y6, LeO (spec_Version.l1 k y0 y1 y2 y3 y4 y5 y6) (spec_Version.l1 (k + 1) y0 y1 y2 y3 y4 y5 y6))
  | 0 => ⟨fun _ _ _ _ r h => by simp [spec_Version.l0] at h, fun _ _ _ _ _ _ _ r h => by simp [spec_Version.l1] at h⟩
  | k + 1 => by
    obtain ⟨ih0, ih1⟩ := spec_Version.mono_l k
    refine ⟨?_, ?_⟩
    · intro y0 y1 y2 y3
      unfold spec_Version.l0
      repeat' first
      | (with_reducible exact ih0 _ _ _ _)
      | (with_reducible exact ih1 _ _ _ _ _ _ _)
      | (with_reducible exact spec_Names.mono _ _)
      | (with_reducible exact LeO.refl _)
      | (with_reducible exact LeO.none _)
      | (with_reducible refine LeO.ite ?_ ?_)
      | (with_reducible refine LeO.bind ?_ (fun _ => ?_))
      | exact ih0 _ _ _ _
      | exact ih1 _ _ _ _ _ _ _
      | exact spec_Names.mono _ _
      | exact LeO.none _
      | refine LeO.ite ?_ ?_
      | refine LeO.bind ?_ (fun _ => ?_)
    · intro y0 y1 y2 y3 y4 y5 y6
      unfold spec_Version.l1
      repeat' first
      | (with_reducible exact ih0 _ _ _ _)
      | (with_reducible exact ih1 _ _ _ _ _ _ _)
      | (with_reducible exact spec_Names.mono _ _)
      | (with_reducible exact LeO.refl _)
      | (with_reducible exact LeO.none _)
      | (with_reducible refine LeO.ite ?_ ?_)
      | (with_reducible refine LeO.bind ?_ (fun _ => ?_))
      | exact ih0 _ _ _ _
      | exact ih1 _ _ _ _ _ _ _
      | exact spec_Names.mono _ _
      | exact LeO.none _
      | refine LeO.ite ?_ ?_
      | refine LeO.bind ?_ (fun _ => ?_)
theorem spec_Version.mono : ∀ a0 k, LeO (spec_Version.f k a0) (spec_Version.f (k + 1) a0) := by
  intro a0 k
  obtain ⟨ih0, ih1⟩ := spec_Version.mono_l k
  unfold spec_Version.f
  repeat' first
      | (with_reducible exact ih0 _ _ _ _)
      | (with_reducible exact ih1 _ _ _ _ _ _ _)
      | (with_reducible exact spec_Names.mono _ _)
      | (with_reducible exact LeO.refl _)
      | (with_reducible exact LeO.none _)
      | (with_reducible refine LeO.ite ?_ ?_)
      | (with_reducible refine LeO.bind ?_ (fun _ => ?_))
      | exact ih0 _ _ _ _
      | exact ih1 _ _ _ _ _ _ _
      | exact spec_Names.mono _ _
      | exact LeO.none _
      | refine LeO.ite ?_ ?_
      | refine LeO.bind ?_ (fun _ => ?_)
set_option maxHeartbeats 8000000 in
set_option maxRecDepth 100000 in
theorem spec_Version.calls (k : Nat) (a0 : ByteArray) (r : Bool) (w : World) (h : spec_Version.f k a0 = some r) :
    Calls Try.prog 8 #[.string a0] w fun e w' => e = .returned (.bool r) ∧ Below w.heap.size w w' := by
  have HB := Aside0.mk (Below.refl w.heap.size w)
  have H : ((spec_Names.f k a0).bind fun t107 => (spec_Version.l0 k t107 t107 (t107.length : Int) 0)) = some r := h
  clear h
  replace H := Option.bind_eq_some_iff.mp H
  obtain ⟨t107, A20, H⟩ := H
  replace H : (spec_Version.l0 k t107 t107 (t107.length : Int) 0) = some r := H
  have A2 := Aside0.mk A20
  clear A20
  have H' := Aside0.mk H
  clear H
  go_enter Try.func8, Try.ntmps8
  go_wp2_with (first | ((with_reducible refine gate_callee (f := 16) rfl ?_); refine goesL_ (some 8) rfl rfl Try.func16 (by kernel_rfl) rfl #[.string a0] rfl (by (try simp only [List.map_toArray, List.map_cons, List.map_nil]); first | done | rfl | (simp only [List.length_drop, List.length_take]; rfl)) ?_; (with_reducible refine (spec_Names.calls k a0 t107 _ A2.out).mono ?_); rintro e w3 ⟨v108, rfl, ho0, hb⟩; refine ⟨_, rfl, ?_⟩; have n0_ := Aside0.mk (Kd.R_lower ho0 (below_size (by repeat (first | (with_reducible first | exact HB.out | apply below_alloc | apply pw_below_drewN | apply below_drew1) | exact HB.out)))); have n1_ := Aside0.mk (below_step (by repeat (first | (with_reducible first | exact HB.out | apply below_alloc | apply pw_below_drewN | apply below_drew1) | exact HB.out)) hb); clear HB; have HO109 := n0_; have HB := n1_; clear n0_ n1_; (try clear hb); (try clear hb2); (try clear hk); (try clear hi); (try clear ho0); obtain ⟨Ao4, co4, eo4⟩ := Kd.R_slice HO109.out; subst eo4))
  go_loopg [11] k (fun kq v11 w' => ∃ (x11_1 : Int), v11 = .int .i64 x11_1 ∧ Aside0 (spec_Version.l0 kq t107 t107 (t107.length : Int) x11_1 = some r) ∧ Aside0 (kq ≤ k) ∧ Aside0 (Kd.R Kd.string 9 w' w.heap.size (fun _ => True) (.slice Ao4 t107.length co4) t107) ∧ Aside0 (Kd.R Kd.string 9 w' w.heap.size (fun _ => True) (.slice Ao4 t107.length co4) t107) ∧ Aside0 (Below w.heap.size w w'))
  case atStart => exact ⟨(0), (by first | rfl | (simp; done) | (simp [*]; done)), H', ⟨Nat.le_refl _⟩, ⟨by (with_reducible repeat (first | apply Kd.R_alloc | apply Kd.R_drewN | apply Kd.R_drew)); exact HO109.out⟩, ⟨by (with_reducible repeat (first | apply Kd.R_alloc | apply Kd.R_drewN | apply Kd.R_drew)); exact HO109.out⟩, ⟨by repeat (first | (with_reducible first | exact HB.out | apply below_alloc | apply pw_below_drewN | apply below_drew1) | exact HB.out)⟩⟩
  case round =>
    clear H'
    try clear c1
    try clear p2
    obtain ⟨x11_1, rfl, HA, HK1, HO_3, HO_9, HB⟩ := hrel
    cases gk with
    | zero => exact absurd HA.out (by simp [spec_Version.l0])
    | succ k1 =>
      have H := HA.out
      clear HA
      simp only [spec_Version.l0] at H
      by_cases c5 : x11_1 < (t107.length : Int)
      · rw [if_pos c5] at H
        have c5b0 : decide (x11_1 < (t107.length : Int)) = true := decide_eq_true c5
        clear c5
        by_cases c6 : 0 ≤ x11_1
        · rw [if_pos c6] at H
          have c6b0 : decide (0 ≤ x11_1) = true := decide_eq_true c6
          clear c6
          by_cases c7 : x11_1 < (t107.length : Int)
          · rw [if_pos c7] at H
            have c7b0 : decide (x11_1 < (t107.length : Int)) = true := decide_eq_true c7
            clear c7
            have H' := Aside0.mk H
            clear H
            have p110 : 0 ≤ (x11_1 : Int) := of_decide_eq_true (by first | (with_reducible assumption) | assumption)
            have q110 : x11_1 < (t107.length : Int) := of_decide_eq_true (by first | (with_reducible assumption) | assumption)
            obtain ⟨ad110, e110, hx110_0⟩ := Kd.at_string (Kd.R_reads' HO_9.out).2.2 x11_1 p110 q110
            cases e110
            replace p110 := eq_true p110
            replace q110 := eq_true q110
            go_wp2
            go_loopg [17] k1 (fun kq v17 w' => ∃ (x17_2 : Int), v17 = .int .i64 x17_2 ∧ Aside0 (spec_Version.l1 kq t107 (rdOf ByteArray.empty t107 x11_1) t107 (t107.length : Int) x11_1 ((rdOf ByteArray.empty t107 x11_1).size : Int) x17_2 = some r) ∧ Aside0 (kq ≤ k1) ∧ Aside0 (Kd.R Kd.string 9 w' w.heap.size (fun _ => True) (.slice (some ad110) t107.length co4) t107) ∧ Aside0 (Kd.R Kd.string 9 w' w.heap.size (fun _ => True) (.slice (some ad110) t107.length co4) t107) ∧ Aside0 (Below w.heap.size w w'))
            case atStart => exact ⟨(0), (by first | rfl | (simp; done) | (simp [*]; done)), H', ⟨Nat.le_refl _⟩, ⟨by (with_reducible repeat (first | apply Kd.R_alloc | apply Kd.R_drewN | apply Kd.R_drew)); exact HO_3.out⟩, ⟨by (with_reducible repeat (first | apply Kd.R_alloc | apply Kd.R_drewN | apply Kd.R_drew)); exact HO_9.out⟩, ⟨by repeat (first | (with_reducible first | exact HB.out | apply below_alloc | apply pw_below_drewN | apply below_drew1) | exact HB.out)⟩⟩
            case round =>
              clear H'
              try clear c1
              try clear p1
              try clear q1
              try clear hx1
              try clear p2
              try clear c5
              try clear c5b0
              try clear c6
              try clear c6b0
              try clear c7
              try clear c7b0
              try clear hx110_0
              try clear p110
              try clear p2
              try clear q110
              obtain ⟨x17_2, rfl, HA, HK2, HO_3, HO_9, HB⟩ := hrel
              cases gk with
              | zero => exact absurd HA.out (by simp [spec_Version.l1])
              | succ k2 =>
                have H := HA.out
                clear HA
                simp only [spec_Version.l1] at H
                by_cases c8 : x17_2 < ((rdOf ByteArray.empty t107 x11_1).size : Int)
                · rw [if_pos c8] at H
                  have c8b0 : decide (x17_2 < ((rdOf ByteArray.empty t107 x11_1).size : Int)) = true := decide_eq_true c8
                  clear c8
                  by_cases c9 : 0 ≤ x17_2
                  · rw [if_pos c9] at H
                    have c9b0 : decide (0 ≤ x17_2) = true := decide_eq_true c9
                    clear c9
                    by_cases c10 : x17_2 < ((rdOf ByteArray.empty t107 x11_1).size : Int)
                    · rw [if_pos c10] at H
                      have c10b0 : decide (x17_2 < ((rdOf ByteArray.empty t107 x11_1).size : Int)) = true := decide_eq_true c10
                      clear c10
                      by_cases c12 : (bt (rdOf ByteArray.empty t107 x11_1) x17_2) < 48
                      · rw [if_pos c12] at H
                        have c12b0 : decide ((bt (rdOf ByteArray.empty t107 x11_1) x17_2) < 48) = true := decide_eq_true c12
                        clear c12
                        obtain rfl := Option.some.inj H
                        have p11 : 0 ≤ (x17_2 : Int) := of_decide_eq_true (by first | (with_reducible assumption) | assumption)
                        have q11 : x17_2 < ((rdOf ByteArray.empty t107 x11_1).size : Int) := of_decide_eq_true (by first | (with_reducible assumption) | assumption)
                        have hx11 := bt_at (rdOf ByteArray.empty t107 x11_1) x17_2
                        replace p11 := eq_true p11
                        replace q11 := eq_true q11
                        go_wp2
                        go_ret
                        exact ⟨by first | rfl | (simp [errW_none, errW_some] <;> rfl) | (simp [*, errW_none, errW_some] <;> rfl), by repeat (first | (with_reducible first | exact HB.out | apply below_alloc | apply pw_below_drewN | apply below_drew1) | exact HB.out)⟩
                      · rw [if_neg c12] at H
                        have c12b0 : decide ((bt (rdOf ByteArray.empty t107 x11_1) x17_2) < 48) = false := decide_eq_false c12
                        clear c12
                        by_cases c14 : (bt (rdOf ByteArray.empty t107 x11_1) x17_2) > 57
                        · rw [if_pos c14] at H
                          have c14b0 : decide (57 < (bt (rdOf ByteArray.empty t107 x11_1) x17_2)) = true := decide_eq_true c14
                          clear c14
                          obtain rfl := Option.some.inj H
                          have p11 : 0 ≤ (x17_2 : Int) := of_decide_eq_true (by first | (with_reducible assumption) | assumption)
                          have q11 : x17_2 < ((rdOf ByteArray.empty t107 x11_1).size : Int) := of_decide_eq_true (by first | (with_reducible assumption) | assumption)
                          have hx11 := bt_at (rdOf ByteArray.empty t107 x11_1) x17_2
                          replace p11 := eq_true p11
                          replace q11 := eq_true q11
                          have p13 : 0 ≤ (x17_2 : Int) := of_decide_eq_true (by first | (with_reducible assumption) | assumption)
                          have q13 : x17_2 < ((rdOf ByteArray.empty t107 x11_1).size : Int) := of_decide_eq_true (by first | (with_reducible assumption) | assumption)
                          have hx13 := bt_at (rdOf ByteArray.empty t107 x11_1) x17_2
                          replace p13 := eq_true p13
                          replace q13 := eq_true q13
                          go_wp2
                          go_ret
                          exact ⟨by first | rfl | (simp [errW_none, errW_some] <;> rfl) | (simp [*, errW_none, errW_some] <;> rfl), by repeat (first | (with_reducible first | exact HB.out | apply below_alloc | apply pw_below_drewN | apply below_drew1) | exact HB.out)⟩
                        · rw [if_neg c14] at H
                          have c14b0 : decide (57 < (bt (rdOf ByteArray.empty t107 x11_1) x17_2)) = false := decide_eq_false c14
                          clear c14
                          have H' := Aside0.mk H
                          clear H
                          have p11 : 0 ≤ (x17_2 : Int) := of_decide_eq_true (by first | (with_reducible assumption) | assumption)
                          have q11 : x17_2 < ((rdOf ByteArray.empty t107 x11_1).size : Int) := of_decide_eq_true (by first | (with_reducible assumption) | assumption)
                          have hx11 := bt_at (rdOf ByteArray.empty t107 x11_1) x17_2
                          replace p11 := eq_true p11
                          replace q11 := eq_true q11
                          have p13 : 0 ≤ (x17_2 : Int) := of_decide_eq_true (by first | (with_reducible assumption) | assumption)
                          have q13 : x17_2 < ((rdOf ByteArray.empty t107 x11_1).size : Int) := of_decide_eq_true (by first | (with_reducible assumption) | assumption)
                          have hx13 := bt_at (rdOf ByteArray.empty t107 x11_1) x17_2
                          replace p13 := eq_true p13
                          replace q13 := eq_true q13
                          go_wp2
                          go_roundg k2
                          case measure => have := HK1.out; have := HK2.out; omega
                          case rel => exact ⟨(wrap64 (x17_2 + 1)), (by first | rfl | (simp; done) | (simp [*]; done)), H', ⟨by have := HK1.out; have := HK2.out; omega⟩, ⟨by (with_reducible repeat (first | apply Kd.R_alloc | apply Kd.R_drewN | apply Kd.R_drew)); exact HO_3.out⟩, ⟨by (with_reducible repeat (first | apply Kd.R_alloc | apply Kd.R_drewN | apply Kd.R_drew)); exact HO_9.out⟩, ⟨by repeat (first | (with_reducible first | exact HB.out | apply below_alloc | apply pw_below_drewN | apply below_drew1) | exact HB.out)⟩⟩
                    · rw [if_neg c10] at H
                      exact absurd H (by simp)
                  · rw [if_neg c9] at H
                    exact absurd H (by simp)
                · rw [if_neg c8] at H
                  have c8b0 : decide (x17_2 < ((rdOf ByteArray.empty t107 x11_1).size : Int)) = false := decide_eq_false c8
                  clear c8
                  by_cases c15 : (rdOf ByteArray.empty t107 x11_1).toList = ([] : List UInt8)
                  · rw [if_pos c15] at H
                    have c15b0 : ((rdOf ByteArray.empty t107 x11_1).toList == ([] : List UInt8)) = true := beq_iff_eq.mpr c15
                    have c15b1 : ((rdOf ByteArray.empty t107 x11_1).toList != ([] : List UInt8)) = false := bne_eq_false_iff_eq.mpr c15
                    clear c15
                    obtain rfl := Option.some.inj H
                    go_wp2
                    go_ret
                    exact ⟨by first | rfl | (simp [errW_none, errW_some] <;> rfl) | (simp [*, errW_none, errW_some] <;> rfl), by repeat (first | (with_reducible first | exact HB.out | apply below_alloc | apply pw_below_drewN | apply below_drew1) | exact HB.out)⟩
                  · rw [if_neg c15] at H
                    have c15b0 : ((rdOf ByteArray.empty t107 x11_1).toList == ([] : List UInt8)) = false := beq_eq_false_iff_ne.mpr c15
                    have c15b1 : ((rdOf ByteArray.empty t107 x11_1).toList != ([] : List UInt8)) = true := bne_iff_ne.mpr c15
                    by_cases c16 : ((rdOf ByteArray.empty t107 x11_1).size : Int) > 9
                    · rw [if_pos c16] at H
                      have c16b0 : decide (9 < ((rdOf ByteArray.empty t107 x11_1).size : Int)) = true := decide_eq_true c16
                      have c16b1 : decide (9 < (rdOf ByteArray.empty t107 x11_1).size) = true := decide_eq_true (by omega)
                      clear c16
                      obtain rfl := Option.some.inj H
                      go_wp2
                      go_ret
                      exact ⟨by first | rfl | (simp [errW_none, errW_some] <;> rfl) | (simp [*, errW_none, errW_some] <;> rfl), by repeat (first | (with_reducible first | exact HB.out | apply below_alloc | apply pw_below_drewN | apply below_drew1) | exact HB.out)⟩
                    · rw [if_neg c16] at H
                      have c16b0 : decide (9 < ((rdOf ByteArray.empty t107 x11_1).size : Int)) = false := decide_eq_false c16
                      have c16b1 : decide (9 < (rdOf ByteArray.empty t107 x11_1).size) = false := decide_eq_false (by omega)
                      clear c16
                      by_cases c17 : ((rdOf ByteArray.empty t107 x11_1).size : Int) > 1
                      · rw [if_pos c17] at H
                        have c17b0 : decide (1 < ((rdOf ByteArray.empty t107 x11_1).size : Int)) = true := decide_eq_true c17
                        have c17b1 : decide (1 < (rdOf ByteArray.empty t107 x11_1).size) = true := decide_eq_true (by omega)
                        clear c17
                        by_cases c18 : 0 < ((rdOf ByteArray.empty t107 x11_1).size : Int)
                        · rw [if_pos c18] at H
                          have c18b0 : decide (0 < ((rdOf ByteArray.empty t107 x11_1).size : Int)) = true := decide_eq_true c18
                          have c18b1 : decide (0 < (rdOf ByteArray.empty t107 x11_1).size) = true := decide_eq_true (by omega)
                          clear c18
                          by_cases c20 : (bt (rdOf ByteArray.empty t107 x11_1) 0) = 48
                          · rw [if_pos c20] at H
                            have c20b0 : ((bt (rdOf ByteArray.empty t107 x11_1) 0) == 48) = true := beq_iff_eq.mpr c20
                            have c20b1 : ((bt (rdOf ByteArray.empty t107 x11_1) 0) != 48) = false := bne_eq_false_iff_eq.mpr c20
                            clear c20
                            obtain rfl := Option.some.inj H
                            have p19 : 0 ≤ (0 : Int) := (by omega)
                            have q19 : 0 < (rdOf ByteArray.empty t107 x11_1).size := (by have : (0 : Int) < ((rdOf ByteArray.empty t107 x11_1).size : Int) := of_decide_eq_true (by first | (with_reducible assumption) | assumption); omega)
                            have hx19 : ∀ h : 0 < (rdOf ByteArray.empty t107 x11_1).size, (((rdOf ByteArray.empty t107 x11_1)[0]'h).toNat : Int) = bt (rdOf ByteArray.empty t107 x11_1) 0 := bt_at (rdOf ByteArray.empty t107 x11_1) 0
                            clear p19
                            have qi19 : (0 < ((rdOf ByteArray.empty t107 x11_1).size : Int)) = True := eq_true (of_decide_eq_true (by first | (with_reducible assumption) | assumption))
                            replace q19 := eq_true q19
                            go_wp2
                            go_ret
                            exact ⟨by first | rfl | (simp [errW_none, errW_some] <;> rfl) | (simp [*, errW_none, errW_some] <;> rfl), by repeat (first | (with_reducible first | exact HB.out | apply below_alloc | apply pw_below_drewN | apply below_drew1) | exact HB.out)⟩
                          · rw [if_neg c20] at H
                            have c20b0 : ((bt (rdOf ByteArray.empty t107 x11_1) 0) == 48) = false := beq_eq_false_iff_ne.mpr c20
                            have c20b1 : ((bt (rdOf ByteArray.empty t107 x11_1) 0) != 48) = true := bne_iff_ne.mpr c20
                            have H' := Aside0.mk H
                            clear H
                            have p19 : 0 ≤ (0 : Int) := (by omega)
                            have q19 : 0 < (rdOf ByteArray.empty t107 x11_1).size := (by have : (0 : Int) < ((rdOf ByteArray.empty t107 x11_1).size : Int) := of_decide_eq_true (by first | (with_reducible assumption) | assumption); omega)
                            have hx19 : ∀ h : 0 < (rdOf ByteArray.empty t107 x11_1).size, (((rdOf ByteArray.empty t107 x11_1)[0]'h).toNat : Int) = bt (rdOf ByteArray.empty t107 x11_1) 0 := bt_at (rdOf ByteArray.empty t107 x11_1) 0
                            clear p19
                            have qi19 : (0 < ((rdOf ByteArray.empty t107 x11_1).size : Int)) = True := eq_true (of_decide_eq_true (by first | (with_reducible assumption) | assumption))
                            replace q19 := eq_true q19
                            go_wp2
                            go_roundg k2
                            case measure => have := HK1.out; have := HK2.out; omega
                            case rel => exact ⟨(wrap64 (x11_1 + 1)), (by first | rfl | (simp; done) | (simp [*]; done)), H', ⟨by have := HK1.out; have := HK2.out; omega⟩, ⟨by (with_reducible repeat (first | apply Kd.R_alloc | apply Kd.R_drewN | apply Kd.R_drew)); exact HO_3.out⟩, ⟨by (with_reducible repeat (first | apply Kd.R_alloc | apply Kd.R_drewN | apply Kd.R_drew)); exact HO_9.out⟩, ⟨by repeat (first | (with_reducible first | exact HB.out | apply below_alloc | apply pw_below_drewN | apply below_drew1) | exact HB.out)⟩⟩
                        · rw [if_neg c18] at H
                          exact absurd H (by simp)
                      · rw [if_neg c17] at H
                        have c17b0 : decide (1 < ((rdOf ByteArray.empty t107 x11_1).size : Int)) = false := decide_eq_false c17
                        have c17b1 : decide (1 < (rdOf ByteArray.empty t107 x11_1).size) = false := decide_eq_false (by omega)
                        clear c17
                        have H' := Aside0.mk H
                        clear H
                        go_wp2
                        go_roundg k2
                        case measure => have := HK1.out; have := HK2.out; omega
                        case rel => exact ⟨(wrap64 (x11_1 + 1)), (by first | rfl | (simp; done) | (simp [*]; done)), H', ⟨by have := HK1.out; have := HK2.out; omega⟩, ⟨by (with_reducible repeat (first | apply Kd.R_alloc | apply Kd.R_drewN | apply Kd.R_drew)); exact HO_3.out⟩, ⟨by (with_reducible repeat (first | apply Kd.R_alloc | apply Kd.R_drewN | apply Kd.R_drew)); exact HO_9.out⟩, ⟨by repeat (first | (with_reducible first | exact HB.out | apply below_alloc | apply pw_below_drewN | apply below_drew1) | exact HB.out)⟩⟩
          · rw [if_neg c7] at H
            exact absurd H (by simp)
        · rw [if_neg c6] at H
          exact absurd H (by simp)
      · rw [if_neg c5] at H
        have c5b0 : decide (x11_1 < (t107.length : Int)) = false := decide_eq_false c5
        clear c5
        obtain rfl := Option.some.inj H
        go_wp2
        go_ret
        exact ⟨by first | rfl | (simp [errW_none, errW_some] <;> rfl) | (simp [*, errW_none, errW_some] <;> rfl), by repeat (first | (with_reducible first | exact HB.out | apply below_alloc | apply pw_below_drewN | apply below_drew1) | exact HB.out)⟩

/-- THE ONE PURE STATEMENT of spec_Version: yours. -/
def spec_Version.Pure : Prop := ∀ (a0 : ByteArray), a0.size ≤ 140737488351232 → ∃ k, spec_Version.f k a0 = some true
theorem spec_Version.walk (P : spec_Version.Pure) (a0 : ByteArray) (w : World) (w0 : a0.size ≤ 140737488351232) :
    Calls Try.prog 8 #[.string a0] w fun e w' => e = .returned (.bool true) ∧ Below w.heap.size w w' := by
  obtain ⟨k, h⟩ := P a0 w0
  refine (spec_Version.calls k a0 true w h).mono ?_
  rintro e w' ⟨rfl, hd⟩
  exact ⟨rfl, hd⟩

end Go.Proofs.Ytmjecafddklbjaa.GWants
