-- PRINTED BY print.sh 35421559b90ae4d0a3588c463048766b98c2df88dd9212a6774a882060cdf62d: not written by this session
import Derived.Test.YtgdffbjkafbkcaaPkySplitx0
namespace Go.Proofs.Ytgdffbjkafbkcaa.PkySplit
open Go.RowKit Go.Proofs.YtgdffbjkafbkcaaW.PrintWords Go.Proofs.YtgdffbjkafbkcaaW.PrintLast Go.Proofs.YtgdffbjkafbkcaaW.PrintMore
attribute [local go_sem] max2_int min2_int max_two min_two max_three min_three max_four min_four   -- for this text's walks alone
set_option linter.unusedVariables false
set_option linter.unusedSimpArgs false

/-! ### spec_kyIndex: function 24 -/
def spec_kyIndex.l0 : Nat → ByteArray → ByteArray → Int → Option (Int)
  | 0, _, _, _ => none
  | k + 1, x0, x1, x5 => if (wrap64 (x5 + (x1.size : Int))) ≤ (x0.size : Int) then (if 0 ≤ x5 then (if x5 ≤ (wrap64 (x5 + (x1.size : Int))) then (if (x0.extract (x5 : Int).toNat ((wrap64 (x5 + (x1.size : Int))) : Int).toNat).toList = x1.toList then (some x5) else (spec_kyIndex.l0 k x0 x1 (wrap64 (x5 + 1)))) else (none)) else (none)) else (some (-1))
def spec_kyIndex.f (k : Nat) (a0 : ByteArray) (a1 : ByteArray) : Option (Int) := spec_kyIndex.l0 k a0 a1 0
theorem spec_kyIndex.mono_l : ∀ k, (∀ y0 y1 y2, LeO (spec_kyIndex.l0 k y0 y1 y2) (spec_kyIndex.l0 (k + 1) y0 y1 y2))
  | 0 => fun _ _ _ r h => by simp [spec_kyIndex.l0] at h
  | k + 1 => by
    have ih0 := spec_kyIndex.mono_l k
    · intro y0 y1 y2
      unfold spec_kyIndex.l0
      repeat' first
      | (with_reducible exact ih0 _ _ _)
      | (with_reducible exact LeO.refl _)
      | (with_reducible exact LeO.none _)
      | (with_reducible refine LeO.ite ?_ ?_)
      | (with_reducible refine LeO.bind ?_ (fun _ => ?_))
      | exact ih0 _ _ _
      | exact LeO.none _
      | refine LeO.ite ?_ ?_
      | refine LeO.bind ?_ (fun _ => ?_)
theorem spec_kyIndex.mono : ∀ a0 a1 k, LeO (spec_kyIndex.f k a0 a1) (spec_kyIndex.f (k + 1) a0 a1) := by
  intro a0 a1 k
  have ih0 := spec_kyIndex.mono_l k
  unfold spec_kyIndex.f
  repeat' first
      | (with_reducible exact ih0 _ _ _)
      | (with_reducible exact LeO.refl _)
      | (with_reducible exact LeO.none _)
      | (with_reducible refine LeO.ite ?_ ?_)
      | (with_reducible refine LeO.bind ?_ (fun _ => ?_))
      | exact ih0 _ _ _
      | exact LeO.none _
      | refine LeO.ite ?_ ?_
      | refine LeO.bind ?_ (fun _ => ?_)
set_option maxHeartbeats 8000000 in
set_option maxRecDepth 100000 in
theorem spec_kyIndex.calls (k : Nat) (a0 : ByteArray) (a1 : ByteArray) (r : Int) (w : World) (h : spec_kyIndex.f k a0 a1 = some r) :
    Calls Try.prog 24 #[.string a0, .string a1] w fun e w' => e = .returned (.int .i64 r) ∧ Drawn0 w w' := by
  have H : (spec_kyIndex.l0 k a0 a1 0) = some r := h
  clear h
  have H' := Aside0.mk H
  clear H
  go_enter Try.func24, Try.ntmps24
  go_wp2
  go_loopg [5] k (fun kq v5 w' => ∃ (x5_1 : Int), v5 = .int .i64 x5_1 ∧ Aside0 (spec_kyIndex.l0 kq a0 a1 x5_1 = some r) ∧ Aside0 (kq ≤ k) ∧ Drawn0 w w')
  case atStart => exact ⟨(0), (by first | rfl | (simp; done) | (simp [*]; done)), H', ⟨Nat.le_refl _⟩, by repeat (first | exact Drawn0.refl _ | apply Drawn0.step)⟩
  case round =>
    clear H'
    try clear c2
    try clear p2
    obtain ⟨x5_1, rfl, HA, HK1, ⟨m1, rfl⟩⟩ := hrel
    cases gk with
    | zero => exact absurd HA.out (by simp [spec_kyIndex.l0])
    | succ k1 =>
      have H := HA.out
      clear HA
      simp only [spec_kyIndex.l0] at H
      by_cases c3 : (wrap64 (x5_1 + (a1.size : Int))) ≤ (a0.size : Int)
      · rw [if_pos c3] at H
        have c3b0 : decide ((wrap64 (x5_1 + (a1.size : Int))) ≤ (a0.size : Int)) = true := decide_eq_true c3
        clear c3
        by_cases c4 : 0 ≤ x5_1
        · rw [if_pos c4] at H
          have c4b0 := eq_true c4
          have c4b1 : decide (0 ≤ x5_1) = true := decide_eq_true c4
          clear c4
          by_cases c5 : x5_1 ≤ (wrap64 (x5_1 + (a1.size : Int)))
          · rw [if_pos c5] at H
            have c5b0 := eq_true c5
            have c5b1 : decide (x5_1 ≤ (wrap64 (x5_1 + (a1.size : Int)))) = true := decide_eq_true c5
            have c6b0 := eq_true (of_decide_eq_true (by first | (with_reducible assumption) | assumption) : (wrap64 (x5_1 + (a1.size : Int))) ≤ (a0.size : Int))
            by_cases c7 : (a0.extract (x5_1 : Int).toNat ((wrap64 (x5_1 + (a1.size : Int))) : Int).toNat).toList = a1.toList
            · rw [if_pos c7] at H
              have c7b0 : ((a0.extract (x5_1 : Int).toNat ((wrap64 (x5_1 + (a1.size : Int))) : Int).toNat).toList == a1.toList) = true := beq_iff_eq.mpr c7
              have c7b1 : ((a0.extract (x5_1 : Int).toNat ((wrap64 (x5_1 + (a1.size : Int))) : Int).toNat).toList != a1.toList) = false := bne_eq_false_iff_eq.mpr c7
              clear c7
              obtain rfl := Option.some.inj H
              go_wp2
              go_ret
              exact ⟨by first | rfl | (simp; done) | (simp [*]; done), by repeat (first | exact Drawn0.refl _ | apply Drawn0.step)⟩
            · rw [if_neg c7] at H
              have c7b0 : ((a0.extract (x5_1 : Int).toNat ((wrap64 (x5_1 + (a1.size : Int))) : Int).toNat).toList == a1.toList) = false := beq_eq_false_iff_ne.mpr c7
              have c7b1 : ((a0.extract (x5_1 : Int).toNat ((wrap64 (x5_1 + (a1.size : Int))) : Int).toNat).toList != a1.toList) = true := bne_iff_ne.mpr c7
              have H' := Aside0.mk H
              clear H
              go_wp2
              go_roundg k1
              case measure => have := HK1.out; omega
              case rel => exact ⟨(wrap64 (x5_1 + 1)), (by first | rfl | (simp; done) | (simp [*]; done)), H', ⟨by have := HK1.out; omega⟩, by repeat (first | exact Drawn0.refl _ | apply Drawn0.step)⟩
          · rw [if_neg c5] at H
            exact absurd H (by simp)
        · rw [if_neg c4] at H
          exact absurd H (by simp)
      · rw [if_neg c3] at H
        have c3b0 : decide ((wrap64 (x5_1 + (a1.size : Int))) ≤ (a0.size : Int)) = false := decide_eq_false c3
        clear c3
        obtain rfl := Option.some.inj H
        go_wp2
        go_ret
        exact ⟨by first | rfl | (simp; done) | (simp [*]; done), by repeat (first | exact Drawn0.refl _ | apply Drawn0.step)⟩

/-! ### spec_kySplit: function 18 -/
def spec_kySplit.l0 : Nat → ByteArray → ByteArray → List ByteArray → Option (List ByteArray)
  | 0, _, _, _ => none
  | k + 1, x0, x1, x5 => (spec_kyIndex.f k x0 x1).bind fun t101 => (if t101 < 0 then (if x5.length < 8796093022208 then (some (x5 ++ [x0])) else (none)) else (if 0 ≤ t101 then (if t101 ≤ (x0.size : Int) then (if x5.length < 8796093022208 then (if 0 ≤ (wrap64 (t101 + (x1.size : Int))) then (if (wrap64 (t101 + (x1.size : Int))) ≤ (x0.size : Int) then (spec_kySplit.l0 k (x0.extract ((wrap64 (t101 + (x1.size : Int))) : Int).toNat x0.size) x1 (x5 ++ [x0.extract 0 (t101 : Int).toNat])) else (none)) else (none)) else (none)) else (none)) else (none)))
def spec_kySplit.f (k : Nat) (a0 : ByteArray) (a1 : ByteArray) : Option (List ByteArray) := spec_kySplit.l0 k a0 a1 ([] : List ByteArray)
theorem spec_kySplit.mono_l : ∀ k, (∀ y0 y1 y2, LeO (spec_kySplit.l0 k y0 y1 y2) (spec_kySplit.l0 (k + 1) y0 y1 y2))
  | 0 => fun _ _ _ r h => by simp [spec_kySplit.l0] at h
  | k + 1 => by
    have ih0 := spec_kySplit.mono_l k
    · intro y0 y1 y2
      unfold spec_kySplit.l0
      repeat' first
      | (with_reducible exact ih0 _ _ _)
      | (with_reducible exact spec_kyIndex.mono _ _ _)
      | (with_reducible exact LeO.refl _)
      | (with_reducible exact LeO.none _)
      | (with_reducible refine LeO.ite ?_ ?_)
      | (with_reducible refine LeO.bind ?_ (fun _ => ?_))
      | exact ih0 _ _ _
      | exact spec_kyIndex.mono _ _ _
      | exact LeO.none _
      | refine LeO.ite ?_ ?_
      | refine LeO.bind ?_ (fun _ => ?_)
theorem spec_kySplit.mono : ∀ a0 a1 k, LeO (spec_kySplit.f k a0 a1) (spec_kySplit.f (k + 1) a0 a1) := by
  intro a0 a1 k
  have ih0 := spec_kySplit.mono_l k
  unfold spec_kySplit.f
  repeat' first
      | (with_reducible exact ih0 _ _ _)
      | (with_reducible exact spec_kyIndex.mono _ _ _)
      | (with_reducible exact LeO.refl _)
      | (with_reducible exact LeO.none _)
      | (with_reducible refine LeO.ite ?_ ?_)
      | (with_reducible refine LeO.bind ?_ (fun _ => ?_))
      | exact ih0 _ _ _
      | exact spec_kyIndex.mono _ _ _
      | exact LeO.none _
      | refine LeO.ite ?_ ?_
      | refine LeO.bind ?_ (fun _ => ?_)
def spec_kySplit.T5 : Bool × List (List Nat × List Nat) := (true, [([], []), ([], []), ([], []), ([1, 2], [1, 2]), ([3], [3]), ([0, 4], [0, 4]), ([], []), ([], []), ([], []), ([8], [8]), ([7, 9], [7, 9]), ([6, 10], [6, 10]), ([5, 5, 0, 1, 2, 3, 4, 5], [0, 5]), ([11, 12, 0, 1, 2, 3, 4, 5, 6, 7, 8, 9, 10, 11, 12], [1, 6, 11])])
def spec_kySplit.B5 : List Nat := [0, 0, 0, 6, 14, 31, 0, 0, 0, 256, 896, 1984, 63, 8191]
theorem spec_kySplit.tab5 : rtab .any (opsOf Try.f18 5) = spec_kySplit.T5 := by kernel_rfl
theorem spec_kySplit.bits5 : waitsOk spec_kySplit.T5.2 spec_kySplit.B5 = true := by kernel_rfl
set_option maxHeartbeats 8000000 in
set_option maxRecDepth 100000 in
theorem spec_kySplit.calls (k : Nat) (a0 : ByteArray) (a1 : ByteArray) (r : List ByteArray) (w : World) (h : spec_kySplit.f k a0 a1 = some r) :
    Calls Try.prog 18 #[.string a0, .string a1] w fun e w' => ∃ v0_ : Value, e = .returned (v0_) ∧ Kd.R Kd.string 9 w' w.heap.size (fun _ => True) v0_ r ∧ Below w.heap.size w w' := by
  have HB := Aside0.mk (Below.refl w.heap.size w)
  have H : (spec_kySplit.l0 k a0 a1 ([] : List ByteArray)) = some r := h
  clear h
  have H' := Aside0.mk H
  clear H
  go_enter Try.func18, Try.ntmps18
  go_wp2
  go_loopg [0, 5] k (fun kq v0 v5 w' => ∃ (x0_1 : ByteArray) (x5_1 : List ByteArray), v0 = .string x0_1 ∧ Aside0 (spec_kySplit.l0 kq x0_1 a1 x5_1 = some r) ∧ Aside0 (kq ≤ k) ∧ Aside0 (Kd.R Kd.string 9 w' w.heap.size (fun _ => True) v5 x5_1) ∧ Aside0 (Below w.heap.size w w'))
  case atStart => exact ⟨(a0), (([] : List ByteArray)), (by first | rfl | (simp; done) | (simp [*]; done)), H', ⟨Nat.le_refl _⟩, ⟨by first | exact Kd.R_nil _ _ _ _ _ | exact Kd.N_nil _ _ _ _ _ | exact Kd.V_nil _ _ _ _ _ | exact Kd.Q_nil _ _ _ _ _ | exact Kd.S_nil _ _ _ _ _⟩, ⟨by repeat (first | (with_reducible first | exact HB.out | apply below_alloc | apply pw_below_drewN | apply below_drew1) | exact HB.out)⟩⟩
  case round =>
    clear H'
    try clear c1
    try clear p2
    obtain ⟨x0_1, x5_1, rfl, HA, HK1, HO_5, HB⟩ := hrel
    cases gk with
    | zero => exact absurd HA.out (by simp [spec_kySplit.l0])
    | succ k1 =>
      have H := HA.out
      clear HA
      simp only [spec_kySplit.l0] at H
      replace H := Option.bind_eq_some_iff.mp H
      obtain ⟨t101, A30, H⟩ := H
      replace H : (if t101 < 0 then (if x5_1.length < 8796093022208 then (some (x5_1 ++ [x0_1])) else (none)) else (if 0 ≤ t101 then (if t101 ≤ (x0_1.size : Int) then (if x5_1.length < 8796093022208 then (if 0 ≤ (wrap64 (t101 + (a1.size : Int))) then (if (wrap64 (t101 + (a1.size : Int))) ≤ (x0_1.size : Int) then (spec_kySplit.l0 k1 (x0_1.extract ((wrap64 (t101 + (a1.size : Int))) : Int).toNat x0_1.size) a1 (x5_1 ++ [x0_1.extract 0 (t101 : Int).toNat])) else (none)) else (none)) else (none)) else (none)) else (none))) = some r := H
      have A3 := Aside0.mk A30
      clear A30
      by_cases c4 : t101 < 0
      · rw [if_pos c4] at H
        have c4b0 : decide (t101 < 0) = true := decide_eq_true c4
        clear c4
        by_cases c5 : x5_1.length < 8796093022208
        · rw [if_pos c5] at H
          have LMc5 := Aside0.mk c5
          clear c5
          obtain ⟨y102, hy102⟩ : ∃ y_ : List ByteArray, y_ = (x5_1 ++ [x0_1]) := ⟨_, rfl⟩
          replace H : (some y102) = some r := by first | (rw [hy102]; with_reducible exact H) | (have H2_ := (Option.bind_some _ _).symm.trans H; rw [hy102]; with_reducible exact H2_) | (have H2_ := (Option.bind_some _ _).symm.trans H; with_reducible exact H2_) | with_reducible exact H | (rw [hy102]; exact H) | exact H
          have Ny102 := Aside0.mk hy102
          clear hy102
          obtain rfl := Option.some.inj H
          go_wp2_with (first | ((with_reducible refine gate_callee (f := 24) rfl ?_); refine goesL_ (some 9) rfl rfl Try.func24 (by kernel_rfl) rfl #[.string x0_1, .string a1] rfl (by (try simp only [List.map_toArray, List.map_cons, List.map_nil]); first | done | rfl | (simp only [List.length_drop, List.length_take]; rfl)) ?_; (with_reducible refine (spec_kyIndex.calls k1 x0_1 a1 t101 _ A3.out).mono ?_); rintro e w' ⟨rfl, ⟨nd, rfl⟩⟩; refine ⟨_, rfl, ?_⟩) | ((with_reducible refine gate_builtin (b := .append) (xs := #[.tmp 12, .tmp 14]) rfl ?_); at_builtin; refine Kd.R_append Kd.string (w0 := w) w.heap.size rfl (.tmp 12) (.tmp 14) 22 9 (.string ⟨#[]⟩) 16 rfl Try.underlying22 info9 rfl (by decide) (by omega) u5 x5_1 x0_1 [.string x0_1] (fun _ => True) (fun _ => False) rfl rfl ?aP (fun _ hk => hk.elim) ?aF ?aO ?aB ?aS ?aL ?_; (case aP => exact rfl); (case aB => exact (by repeat (first | (with_reducible first | exact HB.out | apply below_alloc | apply pw_below_drewN | apply below_drew1) | exact HB.out))); (case aF => exact (fun _ _ => trivial)); (case aO => exact (by (with_reducible repeat (first | apply Kd.R_alloc | apply Kd.R_drewN | apply Kd.R_drew)); exact HO_5.out)); (case aS => exact (below_size (by repeat (first | (with_reducible first | exact HB.out | apply below_alloc | apply pw_below_drewN | apply below_drew1) | exact HB.out)))); (case aL => have := LMc5.out; omega); intro v103 w6 ho hb hg hat; rw [← Ny102.out] at ho; have n0_ := Aside0.mk (hb); have n1_ := Aside0.mk (ho); clear HB; clear HO_5; have HB := n0_; have HO104 := n1_; clear n0_ n1_; clear ho hb hg hat))
          go_ret
          exact ⟨_, by first | rfl | (simp [errW_none, errW_some] <;> rfl) | (simp [*, errW_none, errW_some] <;> rfl), by (with_reducible repeat (first | apply Kd.R_alloc | apply Kd.R_drewN | apply Kd.R_drew)); exact HO104.out, by repeat (first | (with_reducible first | exact HB.out | apply below_alloc | apply pw_below_drewN | apply below_drew1) | exact HB.out)⟩
        · rw [if_neg c5] at H
          exact absurd H (by simp)
      · rw [if_neg c4] at H
        have c4b0 : decide (t101 < 0) = false := decide_eq_false c4
        clear c4
        by_cases c7 : 0 ≤ t101
        · rw [if_pos c7] at H
          have c7b0 := eq_true c7
          have c7b1 : decide (0 ≤ t101) = true := decide_eq_true c7
          clear c7
          by_cases c8 : t101 ≤ (x0_1.size : Int)
          · rw [if_pos c8] at H
            have c8b0 := eq_true c8
            have c8b1 : decide (t101 ≤ (x0_1.size : Int)) = true := decide_eq_true c8
            clear c8
            by_cases c9 : x5_1.length < 8796093022208
            · rw [if_pos c9] at H
              have LMc9 := Aside0.mk c9
              clear c9
              obtain ⟨y105, hy105⟩ : ∃ y_ : List ByteArray, y_ = (x5_1 ++ [x0_1.extract 0 (t101 : Int).toNat]) := ⟨_, rfl⟩
              replace H : (if 0 ≤ (wrap64 (t101 + (a1.size : Int))) then (if (wrap64 (t101 + (a1.size : Int))) ≤ (x0_1.size : Int) then (spec_kySplit.l0 k1 (x0_1.extract ((wrap64 (t101 + (a1.size : Int))) : Int).toNat x0_1.size) a1 y105) else (none)) else (none)) = some r := by first | (rw [hy105]; with_reducible exact H) | (have H2_ := (Option.bind_some _ _).symm.trans H; rw [hy105]; with_reducible exact H2_) | (have H2_ := (Option.bind_some _ _).symm.trans H; with_reducible exact H2_) | with_reducible exact H | (rw [hy105]; exact H) | exact H
              have Ny105 := Aside0.mk hy105
              clear hy105
              obtain ⟨ji10, hji10⟩ : ∃ j_ : Int, (wrap64 (t101 + (a1.size : Int))) = j_ := ⟨_, rfl⟩
              replace H : (if 0 ≤ (ji10) then (if (ji10) ≤ (x0_1.size : Int) then (spec_kySplit.l0 k1 (x0_1.extract ((ji10) : Int).toNat x0_1.size) a1 y105) else (none)) else (none)) = some r := by first | (rw [hji10] at H; exact H) | (simp only [hji10] at H ⊢; exact H)
              (try rw [hji10] at A3)
              have hji10w : (IntKind.i64.wrap (t101 + (a1.size : Int))) = ji10 := (i64_w _).trans hji10
              by_cases c11 : 0 ≤ (ji10)
              · rw [if_pos c11] at H
                have c11b0 := eq_true c11
                have c11b1 : decide (0 ≤ (ji10)) = true := decide_eq_true c11
                clear c11
                by_cases c12 : (ji10) ≤ (x0_1.size : Int)
                · rw [if_pos c12] at H
                  have c12b0 := eq_true c12
                  have c12b1 : decide ((ji10) ≤ (x0_1.size : Int)) = true := decide_eq_true c12
                  clear c12
                  have H' := Aside0.mk H
                  clear H
                  try go_wp2_with (first | ((with_reducible refine gate_callee (f := 24) rfl ?_); refine goesL_ (some 9) rfl rfl Try.func24 (by kernel_rfl) rfl #[.string x0_1, .string a1] rfl (by (try simp only [List.map_toArray, List.map_cons, List.map_nil]); first | done | rfl | (simp only [List.length_drop, List.length_take]; rfl)) ?_; (with_reducible refine (spec_kyIndex.calls k1 x0_1 a1 t101 _ A3.out).mono ?_); rintro e w' ⟨rfl, ⟨nd, rfl⟩⟩; refine ⟨_, rfl, ?_⟩))
                  (try (rw [drewN_self wr]; generalize hq_ : World.drewN wr _ = wr; have n0_ : Aside0 (Kd.R Kd.string 9 wr w.heap.size (fun _ => True) u5 x5_1) := ⟨by rw [← hq_]; exact (by (with_reducible repeat (first | apply Kd.R_alloc | apply Kd.R_drewN | apply Kd.R_drew)); exact HO_5.out)⟩; have n1_ : Aside0 (Below w.heap.size w wr) := ⟨by rw [← hq_]; exact (by repeat (first | (with_reducible first | exact HB.out | apply below_alloc | apply pw_below_drewN | apply below_drew1) | exact HB.out))⟩; clear HO_5 HB hq_; have HO_5 := n0_; have HB := n1_; clear n0_ n1_))
                  have n0_ := Aside0.mk (Kd.R_drew HO_5.out)
                  have n1_ := Aside0.mk (below_drew1 HB.out)
                  clear HO_5
                  clear HB
                  have HO_5 := n0_
                  have HB := n1_
                  clear n0_ n1_
                  refine start_ (n := 14) (S := fun w' => True) (ds := []) #[false, false, false, false, false, false, false, false, false, false, false, false, false, false] (by kernel_rfl) rfl rfl trivial (fun hHeld => ?_); refine with_tabW spec_kySplit.tab5 spec_kySplit.bits5 (fun HT_ HW_ => ?_)
                  generalize wr.drew = w13 at HO_5 HB hHeld ⊢
                  refine pure_ (i := 0) (N := some 16) (v := ?_) (a' := ?_) #[true, false, false, false, false, false, false, false, false, false, false, false, false, false] rfl rfl (any_of HT_.out (by kernel_rfl)) (fun _ _ _ h => h) (Or.inl ⟨by rfl, ?_⟩) ?_ ?_
                  rotate_left
                  · intro w'
                    go_simp
                    with_reducible rfl
                  rotate_left
                  · simp only [Act.put, List.setIfInBounds_toArray, List.set_cons_zero, List.set_cons_succ, i64_w, i32_w]
                    rfl
                  refine pure_ (i := 1) (N := some 17) (v := ?_) (a' := ?_) #[true, true, false, false, false, false, false, false, false, false, false, false, false, false] rfl rfl (any_of HT_.out (by kernel_rfl)) (fun _ _ _ h => h) (Or.inl ⟨by rfl, ?_⟩) ?_ ?_
                  rotate_left
                  · intro w'
                    go_simp
                    with_reducible rfl
                  rotate_left
                  · simp only [Act.put, List.setIfInBounds_toArray, List.set_cons_zero, List.set_cons_succ, i64_w, i32_w]
                    rfl
                  refine pure_ (i := 2) (N := some 18) (v := ?_) (a' := ?_) #[true, true, true, false, false, false, false, false, false, false, false, false, false, false] rfl rfl (any_of HT_.out (by kernel_rfl)) (fun _ _ _ h => h) (Or.inl ⟨by rfl, ?_⟩) ?_ ?_
                  rotate_left
                  · intro w'
                    go_simp
                    with_reducible rfl
                  rotate_left
                  · simp only [Act.put, List.setIfInBounds_toArray, List.set_cons_zero, List.set_cons_succ, i64_w, i32_w]
                    rfl
                  refine pure_ (i := 3) (N := some 19) (v := ?_) (a' := ?_) #[true, true, true, true, false, false, false, false, false, false, false, false, false, false] rfl rfl (any_of HT_.out (by kernel_rfl)) (fun _ _ _ h => h) (Or.inl ⟨by rfl, ?_⟩) ?_ ?_
                  rotate_left
                  · intro w'
                    go_simp
                    with_reducible rfl
                  rotate_left
                  · simp only [Act.put, List.setIfInBounds_toArray, List.set_cons_zero, List.set_cons_succ, i64_w, i32_w]
                    rfl
                  refine pure_ (i := 6) (N := some 22) (v := ?_) (a' := ?_) #[true, true, true, true, false, false, true, false, false, false, false, false, false, false] rfl rfl (any_of HT_.out (by kernel_rfl)) (fun _ _ _ h => h) (Or.inl ⟨by rfl, ?_⟩) ?_ ?_
                  rotate_left
                  · intro w'
                    go_simp
                    with_reducible rfl
                  rotate_left
                  · simp only [Act.put, List.setIfInBounds_toArray, List.set_cons_zero, List.set_cons_succ, i64_w, i32_w]
                    rfl
                  refine pure_ (i := 7) (N := some 23) (v := ?_) (a' := ?_) #[true, true, true, true, false, false, true, true, false, false, false, false, false, false] rfl rfl (any_of HT_.out (by kernel_rfl)) (fun _ _ _ h => h) (Or.inl ⟨by rfl, ?_⟩) ?_ ?_
                  rotate_left
                  · intro w'
                    go_simp
                    with_reducible rfl
                  rotate_left
                  · simp only [Act.put, List.setIfInBounds_toArray, List.set_cons_zero, List.set_cons_succ, i64_w, i32_w]
                    rfl
                  refine pure_ (i := 8) (N := some 24) (v := ?_) (a' := ?_) #[true, true, true, true, false, false, true, true, true, false, false, false, false, false] rfl rfl (any_of HT_.out (by kernel_rfl)) (fun _ _ _ h => h) (Or.inl ⟨by rfl, ?_⟩) ?_ ?_
                  rotate_left
                  · intro w'
                    go_simp
                    with_reducible rfl
                  rotate_left
                  · simp only [Act.put, List.setIfInBounds_toArray, List.set_cons_zero, List.set_cons_succ, i64_w, i32_w]
                    rfl
                  refine pure_ (i := 9) (N := some 25) (v := ?_) (a' := ?_) #[true, true, true, true, false, false, true, true, true, true, false, false, false, false] rfl rfl (any_of HT_.out (by kernel_rfl)) (fun _ _ _ h => h) (Or.inl ⟨by rfl, ?_⟩) ?_ ?_
                  rotate_left
                  · intro w'
                    go_simp
                    with_reducible rfl
                  rotate_left
                  · simp only [Act.put, List.setIfInBounds_toArray, List.set_cons_zero, List.set_cons_succ, i64_w, i32_w]
                    rfl
                  refine pure_ (i := 10) (N := some 26) (v := ?_) (a' := ?_) #[true, true, true, true, false, false, true, true, true, true, true, false, false, false] rfl rfl (any_of HT_.out (by kernel_rfl)) (fun _ _ _ h => h) (Or.inl ⟨by rfl, ?_⟩) ?_ ?_
                  rotate_left
                  · intro w'
                    go_simp
                    with_reducible rfl
                  rotate_left
                  · simp only [Act.put, List.setIfInBounds_toArray, List.set_cons_zero, List.set_cons_succ, i64_w, i32_w]
                    rfl
                  refine pure_ (i := 11) (N := some 27) (v := ?_) (a' := ?_) #[true, true, true, true, false, false, true, true, true, true, true, true, false, false] rfl rfl (any_of HT_.out (by kernel_rfl)) (fun _ _ _ h => h) (Or.inl ⟨by rfl, ?_⟩) ?_ ?_
                  rotate_left
                  · intro w'
                    go_simp
                    with_reducible rfl
                  rotate_left
                  · simp only [Act.put, List.setIfInBounds_toArray, List.set_cons_zero, List.set_cons_succ, i64_w, i32_w]
                    rfl
                  refine one_ (i := 4) (N := some 20) #[true, true, true, true, true, false, true, true, true, true, true, true, false, false] rfl rfl (one_of HT_.out (by kernel_rfl)) (by decide) (fun K hK => ?_)
                  refine value_ (w1 := ?_) (v := ?_) (by rfl) rfl ?_ ?_
                  rotate_left 2
                  · go_simp
                    constructor
                    · rfl
                    · rfl
                  refine hK.out _ _ trivial (fun hHeld => ?_)
                  clear hK K
                  refine norm_ (a' := ?_) ?_ ?_
                  rotate_left
                  · show Act.put _ (some 20) _ = _
                    simp only [Act.put, List.setIfInBounds_toArray, List.set_cons_zero, List.set_cons_succ, i64_w, i32_w]
                    rfl
                  refine one_ (i := 5) (N := some 21) #[true, true, true, true, true, true, true, true, true, true, true, true, false, false] rfl rfl (one_of HT_.out (by kernel_rfl)) (by decide) (fun K hK => ?_)
                  refine Kd.R_append_step Kd.string (w0 := w) w.heap.size (by rfl) (.tmp 16) (.tmp 20) 22 9 (.string ⟨#[]⟩) 16 rfl Try.underlying22 info9 rfl (by decide) (by omega) u5 x5_1 (x0_1.extract 0 (t101 : Int).toNat) [.string (x0_1.extract 0 (t101 : Int).toNat)] (fun _ => True) (fun _ => False) rfl rfl ?aP (fun _ hk => hk.elim) ?aF ?aO ?aB ?aS ?aL ?_
                  (case aP => exact rfl)
                  (case aB => exact (by repeat (first | (with_reducible first | exact HB.out | apply below_alloc | apply pw_below_drewN | apply below_drew1) | exact HB.out)))
                  (case aF => exact (fun _ _ => trivial))
                  (case aO => exact (by (with_reducible repeat (first | apply Kd.R_alloc | apply Kd.R_drewN | apply Kd.R_drew)); exact HO_5.out))
                  (case aS => exact (below_size (by repeat (first | (with_reducible first | exact HB.out | apply below_alloc | apply pw_below_drewN | apply below_drew1) | exact HB.out))))
                  (case aL => have := LMc9.out; omega)
                  intro v106 w14 ho hb hg hat
                  rw [← Ny105.out] at ho
                  have n0_ := Aside0.mk (hb)
                  have n1_ := Aside0.mk (ho)
                  clear HB
                  clear HO_5
                  have HB := n0_
                  have HO107 := n1_
                  clear n0_ n1_
                  clear ho hb hg hat
                  refine hK.out _ _ trivial (fun hHeld => ?_)
                  clear hK K
                  refine norm_ (a' := ?_) ?_ ?_
                  rotate_left
                  · show Act.put _ (some 21) _ = _
                    simp only [Act.put, List.setIfInBounds_toArray, List.set_cons_zero, List.set_cons_succ, i64_w, i32_w]
                    rfl
                  refine pure_ (i := 12) (N := some 5) (v := ?_) (a' := ?_) #[true, true, true, true, true, true, true, true, true, true, true, true, true, false] rfl rfl (any_of HT_.out (by kernel_rfl)) (fun _ _ _ h => h) (Or.inl ⟨by rfl, ?_⟩) ?_ ?_
                  rotate_left
                  · intro w'
                    go_simp
                    with_reducible rfl
                  rotate_left
                  · simp only [Act.put, List.setIfInBounds_toArray, List.set_cons_zero, List.set_cons_succ, i64_w, i32_w]
                    rfl
                  refine pure_ (i := 13) (N := some 0) (v := ?_) (a' := ?_) #[true, true, true, true, true, true, true, true, true, true, true, true, true, true] rfl rfl (any_of HT_.out (by kernel_rfl)) (fun _ _ _ h => h) (Or.inl ⟨by rfl, ?_⟩) ?_ ?_
                  rotate_left
                  · intro w'
                    go_simp
                    with_reducible rfl
                  rotate_left
                  · simp only [Act.put, List.setIfInBounds_toArray, List.set_cons_zero, List.set_cons_succ, i64_w, i32_w]
                    rfl
                  refine done_ (done_of HT_.out (by kernel_rfl)) ?_
                  try go_wp2
                  go_roundg k1
                  case measure => have := HK1.out; omega
                  case rel => exact ⟨(x0_1.extract ((ji10) : Int).toNat x0_1.size), (y105), (by first | rfl | (simp; done) | (simp only [← hji10] <;> (first | rfl | simp)) | (simp [*]; done)), H', ⟨by have := HK1.out; omega⟩, ⟨by (with_reducible repeat (first | apply Kd.R_alloc | apply Kd.R_drewN | apply Kd.R_drew)); exact HO107.out⟩, ⟨by repeat (first | (with_reducible first | exact HB.out | apply below_alloc | apply pw_below_drewN | apply below_drew1) | exact HB.out)⟩⟩
                · rw [if_neg c12] at H
                  exact absurd H (by simp)
              · rw [if_neg c11] at H
                exact absurd H (by simp)
            · rw [if_neg c9] at H
              exact absurd H (by simp)
          · rw [if_neg c8] at H
            exact absurd H (by simp)
        · rw [if_neg c7] at H
          exact absurd H (by simp)

end Go.Proofs.Ytgdffbjkafbkcaa.PkySplit
