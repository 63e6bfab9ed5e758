-- Laid by a program of this session (stub.py)
import Derived.Test.YtgdffbjkafbkcaaGSmartx0
import Derived.Test.YtgdffbjkafbkcaaGSmartx1
import Derived.Test.YtgdffbjkafbkcaaGSmartx2
namespace Go.Proofs.Ytgdffbjkafbkcaa.GSmart
open Go.RowKit Go.Proofs.YtgdffbjkafbkcaaW.PrintWords Go.Proofs.YtgdffbjkafbkcaaW.PrintLast Go.Proofs.YtgdffbjkafbkcaaW.PrintMore
attribute [local go_sem] max2_int min2_int max_two min_two max_three min_three max_four min_four   -- for this text's walks alone
set_option linter.unusedVariables false
set_option linter.unusedSimpArgs false

/-! ### utils_SmarterPathSplitter: function 19 -/
mutual
def utils_SmarterPathSplitter.l0 : Nat → ByteArray → List ByteArray → List ByteArray → Int → Option (List ByteArray)
  | 0, _, _, _, _ => none
  | k + 1, x1, x5, x6, x7 => if x7 < (x6.length : Int) then (if 0 ≤ x7 then ((strings_HasPrefix.f (rdOf ByteArray.empty x6 x7) (⟨#[91]⟩ : ByteArray)).bind fun t113 => (if t113 = true then ((strings_HasSuffix.f (rdOf ByteArray.empty x6 x7) (⟨#[93]⟩ : ByteArray)).bind fun t114 => (utils_SmarterPathSplitter.j1 k x1 x5 x6 x7 (rdOf ByteArray.empty x6 x7) (!t114))) else (utils_SmarterPathSplitter.j1 k x1 x5 x6 x7 (rdOf ByteArray.empty x6 x7) false))) else (none)) else (some x5)
def utils_SmarterPathSplitter.j1 : Nat → ByteArray → List ByteArray → List ByteArray → Int → ByteArray → Bool → Option (List ByteArray)
  | 0, _, _, _, _, _, _ => none
  | k + 1, x1, x5, x6, x7, x8, x30 => if x30 = true then (utils_SmarterPathSplitter.l1 k x1 x5 x6 x7 (([x8] : List ByteArray))) else (if x5.length < 8796093022208 then (utils_SmarterPathSplitter.l0 k x1 (x5 ++ [x8]) x6 (wrap64 (x7 + 1))) else (none))
def utils_SmarterPathSplitter.j3 : Nat → ByteArray → List ByteArray → List ByteArray → Int → List ByteArray → Option (List ByteArray)
  | 0, _, _, _, _, _ => none
  | k + 1, x1, x5, x6, x7, x9 => (strings_Join.f x9 x1).bind fun t124 => ((utils_zzIndex.f k t124 (⟨#[61]⟩ : ByteArray)).bind fun t125 => (if t125 ≥ 0 then (if x5.length < 8796093022208 then (utils_SmarterPathSplitter.l0 k x1 (x5 ++ [t124]) x6 (wrap64 (x7 + 1))) else (none)) else ((utils_zzTrimBrackets.f k t124).bind fun t129 => (if x5.length < 8796093022208 then (utils_SmarterPathSplitter.l0 k x1 (x5 ++ [t129]) x6 (wrap64 (x7 + 1))) else (none)))))
def utils_SmarterPathSplitter.l1 : Nat → ByteArray → List ByteArray → List ByteArray → Int → List ByteArray → Option (List ByteArray)
  | 0, _, _, _, _, _ => none
  | k + 1, x1, x5, x6, x7, x9 => if x7 < (wrap64 ((x6.length : Int) - 1)) then (if 0 ≤ (wrap64 (x7 + 1)) then (if (wrap64 (x7 + 1)) < (x6.length : Int) then (if x9.length < 8796093022208 then ((some (x9 ++ [rdOf ByteArray.empty x6 (wrap64 (x7 + 1))] : List ByteArray)).bind fun y119 => ((strings_HasSuffix.f (rdOf ByteArray.empty x6 (wrap64 (x7 + 1))) (⟨#[93]⟩ : ByteArray)).bind fun t123 => (if t123 = true then (utils_SmarterPathSplitter.j3 k x1 x5 x6 (wrap64 (x7 + 1)) y119) else (utils_SmarterPathSplitter.l1 k x1 x5 x6 (wrap64 (x7 + 1)) y119)))) else (none)) else (none)) else (none)) else (utils_SmarterPathSplitter.j3 k x1 x5 x6 x7 x9)
end
def utils_SmarterPathSplitter.f (k : Nat) (a0 : ByteArray) (a1 : ByteArray) : Option (List ByteArray) := (utils_PathSplitter.f k a0 a1).bind fun t109 => (utils_SmarterPathSplitter.l0 k a1 ([] : List ByteArray) t109 0)
theorem utils_SmarterPathSplitter.mono_l : ∀ k, (∀ y0 y1 y2 y3, LeO (utils_SmarterPathSplitter.l0 k y0 y1 y2 y3) (utils_SmarterPathSplitter.l0 (k + 1) y0 y1 y2 y3)) ∧ (∀ y0 y1 y2 y3 y4 y5, LeO (utils_SmarterPathSplitter.j1 k y0 y1 y2 y3 y4 y5) (utils_SmarterPathSplitter.j1 (k + 1) y0 y1 y2 y3 y4 y5)) ∧ (∀ y0 y1 y2 y3 y4, LeO (utils_SmarterPathSplitter.j3 k y0 y1 y2 y3 y4) (utils_SmarterPathSplitter.j3 (k + 1) y0 y1 y2 y3 y4)) ∧ (∀ y0 y1 y2 y3 y4, LeO (utils_SmarterPathSplitter.l1 k y0 y1 y2 y3 y4) (utils_SmarterPathSplitter.l1 (k + 1) y0 y1 y2 y3 y4))
  | 0 => ⟨fun _ _ _ _ r h => by simp [utils_SmarterPathSplitter.l0] at h, fun _ _ _ _ _ _ r h => by simp [utils_SmarterPathSplitter.j1] at h, fun _ _ _ _ _ r h => by simp [utils_SmarterPathSplitter.j3] at h, fun _ _ _ _ _ r h => by simp [utils_SmarterPathSplitter.l1] at h⟩
  | k + 1 => by
    obtain ⟨ih0, ih1, ih2, ih3⟩ := utils_SmarterPathSplitter.mono_l k
    refine ⟨?_, ?_, ?_, ?_⟩
    · intro y0 y1 y2 y3
      unfold utils_SmarterPathSplitter.l0
      repeat' first
      | (with_reducible exact ih0 _ _ _ _)
      | (with_reducible exact ih1 _ _ _ _ _ _)
      | (with_reducible exact ih2 _ _ _ _ _)
      | (with_reducible exact ih3 _ _ _ _ _)
      | (with_reducible exact utils_PathSplitter.mono _ _ _)
      | (with_reducible exact utils_zzIndex.mono _ _ _)
      | (with_reducible exact utils_zzTrimBrackets.mono _ _)
      | (with_reducible exact LeO.refl _)
      | (with_reducible exact LeO.none _)
      | (with_reducible refine LeO.ite ?_ ?_)
      | (with_reducible refine LeO.bind ?_ (fun _ => ?_))
      | exact ih0 _ _ _ _
      | exact ih1 _ _ _ _ _ _
      | exact ih2 _ _ _ _ _
      | exact ih3 _ _ _ _ _
      | exact utils_PathSplitter.mono _ _ _
      | exact utils_zzIndex.mono _ _ _
      | exact utils_zzTrimBrackets.mono _ _
      | exact LeO.none _
      | refine LeO.ite ?_ ?_
      | refine LeO.bind ?_ (fun _ => ?_)
    · intro y0 y1 y2 y3 y4 y5
      unfold utils_SmarterPathSplitter.j1
      repeat' first
      | (with_reducible exact ih0 _ _ _ _)
      | (with_reducible exact ih1 _ _ _ _ _ _)
      | (with_reducible exact ih2 _ _ _ _ _)
      | (with_reducible exact ih3 _ _ _ _ _)
      | (with_reducible exact utils_PathSplitter.mono _ _ _)
      | (with_reducible exact utils_zzIndex.mono _ _ _)
      | (with_reducible exact utils_zzTrimBrackets.mono _ _)
      | (with_reducible exact LeO.refl _)
      | (with_reducible exact LeO.none _)
      | (with_reducible refine LeO.ite ?_ ?_)
      | (with_reducible refine LeO.bind ?_ (fun _ => ?_))
      | exact ih0 _ _ _ _
      | exact ih1 _ _ _ _ _ _
      | exact ih2 _ _ _ _ _
      | exact ih3 _ _ _ _ _
      | exact utils_PathSplitter.mono _ _ _
      | exact utils_zzIndex.mono _ _ _
      | exact utils_zzTrimBrackets.mono _ _
      | exact LeO.none _
      | refine LeO.ite ?_ ?_
      | refine LeO.bind ?_ (fun _ => ?_)
    · intro y0 y1 y2 y3 y4
      unfold utils_SmarterPathSplitter.j3
      repeat' first
      | (with_reducible exact ih0 _ _ _ _)
      | (with_reducible exact ih1 _ _ _ _ _ _)
      | (with_reducible exact ih2 _ _ _ _ _)
      | (with_reducible exact ih3 _ _ _ _ _)
      | (with_reducible exact utils_PathSplitter.mono _ _ _)
      | (with_reducible exact utils_zzIndex.mono _ _ _)
      | (with_reducible exact utils_zzTrimBrackets.mono _ _)
      | (with_reducible exact LeO.refl _)
      | (with_reducible exact LeO.none _)
      | (with_reducible refine LeO.ite ?_ ?_)
      | (with_reducible refine LeO.bind ?_ (fun _ => ?_))
      | exact ih0 _ _ _ _
      | exact ih1 _ _ _ _ _ _
      | exact ih2 _ _ _ _ _
      | exact ih3 _ _ _ _ _
      | exact utils_PathSplitter.mono _ _ _
      | exact utils_zzIndex.mono _ _ _
      | exact utils_zzTrimBrackets.mono _ _
      | exact LeO.none _
      | refine LeO.ite ?_ ?_
      | refine LeO.bind ?_ (fun _ => ?_)
    · intro y0 y1 y2 y3 y4
      unfold utils_SmarterPathSplitter.l1
      repeat' first
      | (with_reducible exact ih0 _ _ _ _)
      | (with_reducible exact ih1 _ _ _ _ _ _)
      | (with_reducible exact ih2 _ _ _ _ _)
      | (with_reducible exact ih3 _ _ _ _ _)
      | (with_reducible exact utils_PathSplitter.mono _ _ _)
      | (with_reducible exact utils_zzIndex.mono _ _ _)
      | (with_reducible exact utils_zzTrimBrackets.mono _ _)
      | (with_reducible exact LeO.refl _)
      | (with_reducible exact LeO.none _)
      | (with_reducible refine LeO.ite ?_ ?_)
      | (with_reducible refine LeO.bind ?_ (fun _ => ?_))
      | exact ih0 _ _ _ _
      | exact ih1 _ _ _ _ _ _
      | exact ih2 _ _ _ _ _
      | exact ih3 _ _ _ _ _
      | exact utils_PathSplitter.mono _ _ _
      | exact utils_zzIndex.mono _ _ _
      | exact utils_zzTrimBrackets.mono _ _
      | exact LeO.none _
      | refine LeO.ite ?_ ?_
      | refine LeO.bind ?_ (fun _ => ?_)
theorem utils_SmarterPathSplitter.mono : ∀ a0 a1 k, LeO (utils_SmarterPathSplitter.f k a0 a1) (utils_SmarterPathSplitter.f (k + 1) a0 a1) := by
  intro a0 a1 k
  obtain ⟨ih0, ih1, ih2, ih3⟩ := utils_SmarterPathSplitter.mono_l k
  unfold utils_SmarterPathSplitter.f
  repeat' first
      | (with_reducible exact ih0 _ _ _ _)
      | (with_reducible exact ih1 _ _ _ _ _ _)
      | (with_reducible exact ih2 _ _ _ _ _)
      | (with_reducible exact ih3 _ _ _ _ _)
      | (with_reducible exact utils_PathSplitter.mono _ _ _)
      | (with_reducible exact utils_zzIndex.mono _ _ _)
      | (with_reducible exact utils_zzTrimBrackets.mono _ _)
      | (with_reducible exact LeO.refl _)
      | (with_reducible exact LeO.none _)
      | (with_reducible refine LeO.ite ?_ ?_)
      | (with_reducible refine LeO.bind ?_ (fun _ => ?_))
      | exact ih0 _ _ _ _
      | exact ih1 _ _ _ _ _ _
      | exact ih2 _ _ _ _ _
      | exact ih3 _ _ _ _ _
      | exact utils_PathSplitter.mono _ _ _
      | exact utils_zzIndex.mono _ _ _
      | exact utils_zzTrimBrackets.mono _ _
      | exact LeO.none _
      | refine LeO.ite ?_ ?_
      | refine LeO.bind ?_ (fun _ => ?_)
set_option maxHeartbeats 8000000 in
set_option maxRecDepth 100000 in
theorem utils_SmarterPathSplitter.calls (k : Nat) (a0 : ByteArray) (a1 : ByteArray) (r : List ByteArray) (w : World) (h : utils_SmarterPathSplitter.f k a0 a1 = some r) :
    Calls Try.prog 19 #[.string a0, .string a1] w fun e w' => ∃ v0_ : Value, e = .returned (v0_) ∧ Kd.R Kd.string 9 w' w.heap.size (fun _ => True) v0_ r ∧ Below w.heap.size w w' := by
  have HB := Aside0.mk (Below.refl w.heap.size w)
  have H : ((utils_PathSplitter.f k a0 a1).bind fun t109 => (utils_SmarterPathSplitter.l0 k a1 ([] : List ByteArray) t109 0)) = some r := h
  clear h
  replace H := Option.bind_eq_some_iff.mp H
  obtain ⟨t109, A30, H⟩ := H
  replace H : (utils_SmarterPathSplitter.l0 k a1 ([] : List ByteArray) t109 0) = some r := H
  have A3 := Aside0.mk A30
  clear A30
  have H' := Aside0.mk H
  clear H
  go_enter Try.func19, Try.ntmps19
  go_wp2_with (first | ((with_reducible refine gate_callee (f := 15) rfl ?_); refine goesL_ (some 13) rfl rfl Try.func15 (by kernel_rfl) rfl #[.string a0, .string a1] rfl (by (try simp only [List.map_toArray, List.map_cons, List.map_nil]); first | done | rfl | (simp only [List.length_drop, List.length_take]; rfl)) ?_; (with_reducible refine (utils_PathSplitter.calls k a0 a1 t109 _ A3.out).mono ?_); rintro e w4 ⟨v110, rfl, ho0, hb⟩; refine ⟨_, rfl, ?_⟩; have n0_ := Aside0.mk (Kd.R_lower ho0 (below_size (by repeat (first | (with_reducible first | exact HB.out | apply below_alloc | apply pw_below_drewN | apply below_drew1) | exact HB.out)))); have n1_ := Aside0.mk (below_step (by repeat (first | (with_reducible first | exact HB.out | apply below_alloc | apply pw_below_drewN | apply below_drew1) | exact HB.out)) hb); clear HB; have HO111 := n0_; have HB := n1_; clear n0_ n1_; (try clear hb); (try clear hb2); (try clear hk); (try clear hi); (try clear ho0)))
  go_loopg [5, 7] k (fun kq v5 v7 w' => ∃ (x5_1 : List ByteArray) (x7_1 : Int), v7 = .int .i64 x7_1 ∧ Aside0 (utils_SmarterPathSplitter.l0 kq a1 x5_1 t109 x7_1 = some r) ∧ Aside0 (kq ≤ k) ∧ Aside0 (Kd.R Kd.string 9 w' w.heap.size (fun k_ => some k_ ≠ (v110 : Value).ownBlock) v5 x5_1) ∧ Aside0 (Kd.R Kd.string 9 w' w.heap.size (fun k_ => some k_ ≠ (v5 : Value).ownBlock) v110 t109) ∧ Aside0 (Below w.heap.size w w'))
  case atStart => exact ⟨(([] : List ByteArray)), (0), (by first | rfl | (simp; done) | (simp [*]; done)), H', ⟨Nat.le_refl _⟩, ⟨by first | exact Kd.R_nil _ _ _ _ _ | exact Kd.N_nil _ _ _ _ _ | exact Kd.V_nil _ _ _ _ _ | exact Kd.Q_nil _ _ _ _ _ | exact Kd.S_nil _ _ _ _ _⟩, ⟨by (with_reducible repeat (first | apply Kd.R_alloc | apply Kd.R_drewN | apply Kd.R_drew)); exact Kd.R_mono HO111.out (fun _ hk => (by simp [Value.ownBlock]))⟩, ⟨by repeat (first | (with_reducible first | exact HB.out | apply below_alloc | apply pw_below_drewN | apply below_drew1) | exact HB.out)⟩⟩
  case round =>
    clear H'
    try clear c1
    try clear p2
    obtain ⟨x5_1, x7_1, rfl, HA, HK1, HO_5, HO_6, HB⟩ := hrel
    cases gk with
    | zero => exact absurd HA.out (by simp [utils_SmarterPathSplitter.l0])
    | succ k1 =>
      have H := HA.out
      clear HA
      simp only [utils_SmarterPathSplitter.l0] at H
      by_cases c5 : x7_1 < (t109.length : Int)
      · rw [if_pos c5] at H
        have c5b0 : decide (x7_1 < (t109.length : Int)) = true := decide_eq_true c5
        clear c5
        by_cases c6 : 0 ≤ x7_1
        · rw [if_pos c6] at H
          have c6b0 : decide (0 ≤ x7_1) = true := decide_eq_true c6
          clear c6
          have HC7 := Aside0.mk H
          clear H
          obtain ⟨Ao8, co8, eo8⟩ := Kd.R_slice HO_6.out
          subst eo8
          have p112 : 0 ≤ (x7_1 : Int) := of_decide_eq_true (by first | (with_reducible assumption) | assumption)
          have q112 : x7_1 < (t109.length : Int) := of_decide_eq_true (by first | (with_reducible assumption) | assumption)
          obtain ⟨ad112, e112, hx112_0⟩ := Kd.at_string (Kd.R_reads' HO_6.out).2.2 x7_1 p112 q112
          cases e112
          replace p112 := eq_true p112
          replace q112 := eq_true q112
          go_upto_region 7 with (fail)
          go_cut [30] (fun v30 wc => ∃ (kq : Nat) (x30_6 : Bool), v30 = .bool x30_6 ∧ Aside0 (utils_SmarterPathSplitter.j1 kq a1 x5_1 t109 x7_1 (rdOf ByteArray.empty t109 x7_1) x30_6 = some r) ∧ Aside0 (kq ≤ k1) ∧ Aside0 (Kd.R Kd.string 9 wc w.heap.size (fun k_ => some k_ ≠ ((.slice (some ad112) t109.length co8) : Value).ownBlock) u5 x5_1) ∧ Aside0 (Kd.R Kd.string 9 wc w.heap.size (fun k_ => some k_ ≠ (u5 : Value).ownBlock) (.slice (some ad112) t109.length co8) t109) ∧ Aside0 (Below w.heap.size w wc))
          case first =>
            have H := HC7.out
            clear HC7
            replace H := Option.bind_eq_some_iff.mp H
            obtain ⟨t113, A90, H⟩ := H
            replace H : (if t113 = true then ((strings_HasSuffix.f (rdOf ByteArray.empty t109 x7_1) (⟨#[93]⟩ : ByteArray)).bind fun t114 => (utils_SmarterPathSplitter.j1 k1 a1 x5_1 t109 x7_1 (rdOf ByteArray.empty t109 x7_1) (!t114))) else (utils_SmarterPathSplitter.j1 k1 a1 x5_1 t109 x7_1 (rdOf ByteArray.empty t109 x7_1) false)) = some r := H
            have A9 := Aside0.mk A90
            clear A90
            by_cases c10 : t113 = true
            · subst c10
              have H1 : ((strings_HasSuffix.f (rdOf ByteArray.empty t109 x7_1) (⟨#[93]⟩ : ByteArray)).bind fun t114 => (utils_SmarterPathSplitter.j1 k1 a1 x5_1 t109 x7_1 (rdOf ByteArray.empty t109 x7_1) (!t114))) = some r := by rw [if_pos rfl] at H; exact H
              clear H
              have H := H1
              clear H1
              replace H := Option.bind_eq_some_iff.mp H
              obtain ⟨t114, A110, H⟩ := H
              replace H : (utils_SmarterPathSplitter.j1 k1 a1 x5_1 t109 x7_1 (rdOf ByteArray.empty t109 x7_1) (!t114)) = some r := H
              have A11 := Aside0.mk A110
              clear A110
              have H' := Aside0.mk H
              clear H
              go_wp2_with (first | ((with_reducible refine gate_callee (f := 25) rfl ?_); refine goesL_ (some 25) rfl rfl Try.func25 (by kernel_rfl) rfl #[.string (rdOf ByteArray.empty t109 x7_1), .string (⟨#[91]⟩ : ByteArray)] rfl (by (try simp only [List.map_toArray, List.map_cons, List.map_nil]); first | done | rfl | (simp only [List.length_drop, List.length_take]; rfl)) ?_; (with_reducible refine (strings_HasPrefix.calls (rdOf ByteArray.empty t109 x7_1) (⟨#[91]⟩ : ByteArray) true _ A9.out).mono ?_); rintro e w' ⟨rfl, ⟨nd, rfl⟩⟩; refine ⟨_, rfl, ?_⟩) | (go_at_call 21; (with_reducible refine (strings_HasSuffix.calls (rdOf ByteArray.empty t109 x7_1) (⟨#[93]⟩ : ByteArray) t114 _ A11.out).mono ?_); rintro e w' ⟨rfl, ⟨nd, rfl⟩⟩))
              go_meet
              case rel => exact ⟨_, (!t114), (by first | rfl | (simp; done) | (simp [*]; done)), H', ⟨by have := HK1.out; first | omega | exact Nat.le_refl _⟩, ⟨by (with_reducible repeat (first | apply Kd.R_alloc | apply Kd.R_drewN | apply Kd.R_drew)); exact HO_5.out⟩, ⟨by (with_reducible repeat (first | apply Kd.R_alloc | apply Kd.R_drewN | apply Kd.R_drew)); exact HO_6.out⟩, ⟨by repeat (first | (with_reducible first | exact HB.out | apply below_alloc | apply pw_below_drewN | apply below_drew1) | exact HB.out)⟩⟩
            · replace c10 := Bool.eq_false_iff.mpr c10
              subst c10
              have H1 : (utils_SmarterPathSplitter.j1 k1 a1 x5_1 t109 x7_1 (rdOf ByteArray.empty t109 x7_1) false) = some r := by rw [if_neg (show ¬ (false = true) by decide)] at H; exact H
              clear H
              have H := H1
              clear H1
              have H' := Aside0.mk H
              clear H
              go_wp2_with (first | ((with_reducible refine gate_callee (f := 25) rfl ?_); refine goesL_ (some 25) rfl rfl Try.func25 (by kernel_rfl) rfl #[.string (rdOf ByteArray.empty t109 x7_1), .string (⟨#[91]⟩ : ByteArray)] rfl (by (try simp only [List.map_toArray, List.map_cons, List.map_nil]); first | done | rfl | (simp only [List.length_drop, List.length_take]; rfl)) ?_; (with_reducible refine (strings_HasPrefix.calls (rdOf ByteArray.empty t109 x7_1) (⟨#[91]⟩ : ByteArray) false _ A9.out).mono ?_); rintro e w' ⟨rfl, ⟨nd, rfl⟩⟩; refine ⟨_, rfl, ?_⟩))
              go_meet
              case rel => exact ⟨_, (false), (by first | rfl | (simp; done) | (simp [*]; done)), H', ⟨by have := HK1.out; first | omega | exact Nat.le_refl _⟩, ⟨by (with_reducible repeat (first | apply Kd.R_alloc | apply Kd.R_drewN | apply Kd.R_drew)); exact HO_5.out⟩, ⟨by (with_reducible repeat (first | apply Kd.R_alloc | apply Kd.R_drewN | apply Kd.R_drew)); exact HO_6.out⟩, ⟨by repeat (first | (with_reducible first | exact HB.out | apply below_alloc | apply pw_below_drewN | apply below_drew1) | exact HB.out)⟩⟩
          case rest =>
            clear HC7
            try clear c1
            try clear p1
            try clear q1
            try clear hx1
            try clear c2
            try clear p2
            try clear c5
            try clear c5b0
            try clear c6
            try clear c6b0
            try clear c10
            try clear p11
            try clear q11
            try clear hx11
            try clear hx112_0
            try clear p112
            try clear p2
            try clear q112
            obtain ⟨kq, x30_6, rfl, HA, HJ6, HO_5, HO_6, HB⟩ := hcut
            cases kq with
            | zero => exact absurd HA.out (by simp [utils_SmarterPathSplitter.j1])
            | succ kj6 =>
              have H := HA.out
              clear HA
              simp only [utils_SmarterPathSplitter.j1] at H
              by_cases c12 : x30_6 = true
              · subst c12
                have H1 : (utils_SmarterPathSplitter.l1 kj6 a1 x5_1 t109 x7_1 (([(rdOf ByteArray.empty t109 x7_1)] : List ByteArray))) = some r := by rw [if_pos rfl] at H; exact H
                clear H
                have H := H1
                clear H1
                obtain ⟨y115, hy115⟩ : ∃ y_ : List ByteArray, y_ = (([(rdOf ByteArray.empty t109 x7_1)] : List ByteArray)) := ⟨_, rfl⟩
                replace H : (utils_SmarterPathSplitter.l1 kj6 a1 x5_1 t109 x7_1 y115) = some r := by first | (rw [hy115]; with_reducible exact H) | (have H2_ := (Option.bind_some _ _).symm.trans H; rw [hy115]; with_reducible exact H2_) | (have H2_ := (Option.bind_some _ _).symm.trans H; with_reducible exact H2_) | with_reducible exact H | (rw [hy115]; exact H) | exact H
                have Ny115 := Aside0.mk hy115
                clear hy115
                have HC13 := Aside0.mk H
                clear H
                go_upto_block 2 with (first | ((with_reducible refine gate_dst (N := 32) rfl ?_); refine Kd.R_lit Kd.string _ 9 ?hg (N := 32) ?hd (xs := ([(rdOf ByteArray.empty t109 x7_1)] : List ByteArray)) (inner := [.string (rdOf ByteArray.empty t109 x7_1)]) (ok := fun _ => True) (okp := fun _ => True) ?hr ?hp (fun _ hk => hk) trivial (Below.refl _ _) (Nat.le_refl _) (by simp) ?_; (case hd => rfl); (case hg => rfl); (case hr => first | (go_simp; done) | (go_simp; rfl)); (case hp => exact (Reps.one (show Kd.M Kd.string _ _ _ (rdOf ByteArray.empty t109 x7_1) [.string (rdOf ByteArray.empty t109 x7_1)] from rfl) (Reps.none _ _))); intro v116 w14 ho15 hb hg_ hnew_; clear hg_ hnew_; (first | rw [← Ny115.out] at ho15 | (simp only [Int.reduceToNat] at ho15; rw [← Ny115.out] at ho15)); have n0_ := Aside0.mk (Kd.R_elder' (by (with_reducible repeat (first | apply Kd.R_alloc | apply Kd.R_drewN | apply Kd.R_drew)); exact HO_5.out) (Kd.R_base ho15) hb); have n1_ := Aside0.mk (Kd.R_elder' (by (with_reducible repeat (first | apply Kd.R_alloc | apply Kd.R_drewN | apply Kd.R_drew)); exact HO_6.out) (Kd.R_base ho15) hb); have n2_ := Aside0.mk (Kd.R_lower (Kd.R_new' (Kd.R_new' ho15 (Kd.R_lt (by (with_reducible repeat (first | apply Kd.R_alloc | apply Kd.R_drewN | apply Kd.R_drew)); exact HO_5.out))) (Kd.R_lt (by (with_reducible repeat (first | apply Kd.R_alloc | apply Kd.R_drewN | apply Kd.R_drew)); exact HO_6.out))) (below_size (by repeat (first | (with_reducible first | exact HB.out | apply below_alloc | apply pw_below_drewN | apply below_drew1) | exact HB.out)))); have n3_ := Aside0.mk (below_step (by repeat (first | (with_reducible first | exact HB.out | apply below_alloc | apply pw_below_drewN | apply below_drew1) | exact HB.out)) hb); clear HO_5; clear HO_6; clear HB; have HO_5 := n0_; have HO_6 := n1_; have HO117 := n2_; have HB := n3_; clear n0_ n1_ n2_ n3_; clear hb ho15))
                (try simp only [Act.put, List.setIfInBounds_toArray, List.set_cons_zero, List.set_cons_succ])
                go_cut [7, 9] (fun v7 v9 wc => ∃ (kq : Nat) (x7_12 : Int) (x9_12 : List ByteArray), v7 = .int .i64 x7_12 ∧ Aside0 (utils_SmarterPathSplitter.j3 kq a1 x5_1 t109 x7_12 x9_12 = some r) ∧ Aside0 (kq ≤ kj6) ∧ Aside0 (Kd.R Kd.string 9 wc w.heap.size (fun k_ => some k_ ≠ ((.slice (some ad112) t109.length co8) : Value).ownBlock ∧ some k_ ≠ (v9 : Value).ownBlock) u5 x5_1) ∧ Aside0 (Kd.R Kd.string 9 wc w.heap.size (fun k_ => some k_ ≠ (u5 : Value).ownBlock ∧ some k_ ≠ (v9 : Value).ownBlock) (.slice (some ad112) t109.length co8) t109) ∧ Aside0 (Kd.R Kd.string 9 wc w.heap.size (fun k_ => some k_ ≠ (u5 : Value).ownBlock ∧ some k_ ≠ ((.slice (some ad112) t109.length co8) : Value).ownBlock) v9 x9_12) ∧ Aside0 (Below w.heap.size w wc))
                case first =>
                  have H := HC13.out
                  clear HC13
                  have H' := Aside0.mk H
                  clear H
                  go_wp2
                  go_loopg [7, 9] kj6 (fun kq v7 v9 w' => ∃ (x7_3 : Int) (x9_3 : List ByteArray), v7 = .int .i64 x7_3 ∧ Aside0 (utils_SmarterPathSplitter.l1 kq a1 x5_1 t109 x7_3 x9_3 = some r) ∧ Aside0 (kq ≤ kj6) ∧ Aside0 (Kd.R Kd.string 9 w' w.heap.size (fun k_ => some k_ ≠ ((.slice (some ad112) t109.length co8) : Value).ownBlock ∧ some k_ ≠ (v9 : Value).ownBlock) u5 x5_1) ∧ Aside0 (Kd.R Kd.string 9 w' w.heap.size (fun k_ => some k_ ≠ (u5 : Value).ownBlock ∧ some k_ ≠ (v9 : Value).ownBlock) (.slice (some ad112) t109.length co8) t109) ∧ Aside0 (Kd.R Kd.string 9 w' w.heap.size (fun k_ => some k_ ≠ (u5 : Value).ownBlock ∧ some k_ ≠ ((.slice (some ad112) t109.length co8) : Value).ownBlock) v9 x9_3) ∧ Aside0 (Below w.heap.size w w'))
                  case atStart => exact ⟨(x7_1), (y115), (by first | rfl | (simp; done) | (simp [*]; done)), H', ⟨Nat.le_refl _⟩, ⟨by (with_reducible repeat (first | apply Kd.R_alloc | apply Kd.R_drewN | apply Kd.R_drew)); exact HO_5.out⟩, ⟨by (with_reducible repeat (first | apply Kd.R_alloc | apply Kd.R_drewN | apply Kd.R_drew)); exact HO_6.out⟩, ⟨by (with_reducible repeat (first | apply Kd.R_alloc | apply Kd.R_drewN | apply Kd.R_drew)); exact Kd.R_mono HO117.out (fun _ hk => ⟨hk.1.2, hk.2⟩)⟩, ⟨by repeat (first | (with_reducible first | exact HB.out | apply below_alloc | apply pw_below_drewN | apply below_drew1) | exact HB.out)⟩⟩
                  case round =>
                    clear H'
                    try clear c1
                    try clear p1
                    try clear q1
                    try clear hx1
                    try clear c2
                    try clear p2
                    try clear c5
                    try clear c5b0
                    try clear c6
                    try clear c6b0
                    try clear c10
                    try clear p11
                    try clear q11
                    try clear hx11
                    try clear c12
                    try clear c15
                    try clear hx112_0
                    try clear p1
                    try clear p11
                    try clear p112
                    try clear p2
                    try clear q1
                    try clear q11
                    try clear q112
                    obtain ⟨x7_3, x9_3, rfl, HA, HK3, HO_5, HO_6, HO_9, HB⟩ := hrel
                    cases gk with
                    | zero => exact absurd HA.out (by simp [utils_SmarterPathSplitter.l1])
                    | succ k3 =>
                      have H := HA.out
                      clear HA
                      simp only [utils_SmarterPathSplitter.l1] at H
                      by_cases c16 : x7_3 < (wrap64 ((t109.length : Int) - 1))
                      · rw [if_pos c16] at H
                        have c16b0 : decide (x7_3 < (wrap64 ((t109.length : Int) - 1))) = true := decide_eq_true c16
                        clear c16
                        (first | rw [c16b0] | (simp only [i64_w, i32_w]; rw [c16b0]) | skip)
                        obtain ⟨ji17, hji17⟩ : ∃ j_ : Int, (wrap64 (x7_3 + 1)) = j_ := ⟨_, rfl⟩
                        replace H : (if 0 ≤ (ji17) then (if (ji17) < (t109.length : Int) then (if x9_3.length < 8796093022208 then ((some (x9_3 ++ [rdOf ByteArray.empty t109 (ji17)] : List ByteArray)).bind fun y119 => ((strings_HasSuffix.f (rdOf ByteArray.empty t109 (ji17)) (⟨#[93]⟩ : ByteArray)).bind fun t123 => (if t123 = true then (utils_SmarterPathSplitter.j3 k3 a1 x5_1 t109 ji17 y119) else (utils_SmarterPathSplitter.l1 k3 a1 x5_1 t109 ji17 y119)))) else (none)) else (none)) else (none)) = some r := by first | (rw [hji17] at H; exact H) | (simp only [hji17] at H ⊢; exact H)
                        have hji17w : (IntKind.i64.wrap (x7_3 + 1)) = ji17 := (i64_w _).trans hji17
                        by_cases c18 : 0 ≤ (ji17)
                        · rw [if_pos c18] at H
                          have c18b0 : decide (0 ≤ (ji17)) = true := decide_eq_true c18
                          clear c18
                          by_cases c19 : (ji17) < (t109.length : Int)
                          · rw [if_pos c19] at H
                            have c19b0 : decide ((ji17) < (t109.length : Int)) = true := decide_eq_true c19
                            clear c19
                            by_cases c20 : x9_3.length < 8796093022208
                            · rw [if_pos c20] at H
                              have LMc20 := Aside0.mk c20
                              clear c20
                              obtain ⟨y119, hy119⟩ : ∃ y_ : List ByteArray, y_ = (x9_3 ++ [rdOf ByteArray.empty t109 (ji17)]) := ⟨_, rfl⟩
                              replace H : ((strings_HasSuffix.f (rdOf ByteArray.empty t109 (ji17)) (⟨#[93]⟩ : ByteArray)).bind fun t123 => (if t123 = true then (utils_SmarterPathSplitter.j3 k3 a1 x5_1 t109 ji17 y119) else (utils_SmarterPathSplitter.l1 k3 a1 x5_1 t109 ji17 y119))) = some r := by first | (rw [hy119]; with_reducible exact H) | (have H2_ := (Option.bind_some _ _).symm.trans H; rw [hy119]; with_reducible exact H2_) | (have H2_ := (Option.bind_some _ _).symm.trans H; with_reducible exact H2_) | with_reducible exact H | (rw [hy119]; exact H) | exact H
                              have Ny119 := Aside0.mk hy119
                              clear hy119
                              replace H := Option.bind_eq_some_iff.mp H
                              obtain ⟨t123, A210, H⟩ := H
                              replace H : (if t123 = true then (utils_SmarterPathSplitter.j3 k3 a1 x5_1 t109 ji17 y119) else (utils_SmarterPathSplitter.l1 k3 a1 x5_1 t109 ji17 y119)) = some r := H
                              have A21 := Aside0.mk A210
                              clear A210
                              by_cases c22 : t123 = true
                              · subst c22
                                have H1 : (utils_SmarterPathSplitter.j3 k3 a1 x5_1 t109 ji17 y119) = some r := by rw [if_pos rfl] at H; exact H
                                clear H
                                have H := H1
                                clear H1
                                have H' := Aside0.mk H
                                clear H
                                have p118 : 0 ≤ ((ji17) : Int) := of_decide_eq_true (by first | (with_reducible assumption) | assumption)
                                have q118 : (ji17) < (t109.length : Int) := of_decide_eq_true (by first | (with_reducible assumption) | assumption)
                                obtain ⟨ad118, e118, hx118_0⟩ := Kd.at_string (Kd.R_reads' HO_6.out).2.2 (ji17) p118 q118
                                obtain rfl : ad112 = ad118 := (by injection e118)
                                replace p118 := eq_true p118
                                replace q118 := eq_true q118
                                go_wp2_with (first | ((with_reducible refine gate_builtin (b := .append) (xs := #[.tmp 40, .tmp 45]) rfl ?_); at_builtin; refine Kd.R_append Kd.string (w0 := w) w.heap.size rfl (.tmp 40) (.tmp 45) 22 9 (.string ⟨#[]⟩) 16 rfl Try.underlying22 info9 rfl (by decide) (by omega) u9 x9_3 (rdOf ByteArray.empty t109 (ji17)) [.string (rdOf ByteArray.empty t109 (ji17))] (fun k_ => some k_ ≠ (u5 : Value).ownBlock ∧ some k_ ≠ (.slice (some ad112) t109.length co8 : Value).ownBlock) (fun _ => False) rfl rfl ?aP (fun _ hk => hk.elim) ?aF ?aO ?aB ?aS ?aL ?_; (case aP => exact rfl); (case aB => exact (by repeat (first | (with_reducible first | exact HB.out | apply below_alloc | apply pw_below_drewN | apply below_drew1) | exact HB.out))); (case aF => exact (fun k_ hk => ⟨Kd.fresh' (Kd.R_lt (by (with_reducible repeat (first | apply Kd.R_alloc | apply Kd.R_drewN | apply Kd.R_drew)); exact HO_5.out)) k_ hk, Kd.fresh' (Kd.R_lt (by (with_reducible repeat (first | apply Kd.R_alloc | apply Kd.R_drewN | apply Kd.R_drew)); exact HO_6.out)) k_ hk⟩)); (case aO => exact (by (with_reducible repeat (first | apply Kd.R_alloc | apply Kd.R_drewN | apply Kd.R_drew)); exact HO_9.out)); (case aS => exact (below_size (by repeat (first | (with_reducible first | exact HB.out | apply below_alloc | apply pw_below_drewN | apply below_drew1) | exact HB.out)))); (case aL => have := LMc20.out; omega); intro v120 w23 ho hb hg hat; rw [← Ny119.out] at ho; have n0_ := Aside0.mk (Kd.R_after (ok := (fun k_ => some k_ ≠ (.slice (some ad112) t109.length co8 : Value).ownBlock)) (by (with_reducible repeat (first | apply Kd.R_alloc | apply Kd.R_drewN | apply Kd.R_drew)); exact HO_5.out) hg hat); have n1_ := Aside0.mk (Kd.R_after (ok := (fun k_ => some k_ ≠ (u5 : Value).ownBlock)) (by (with_reducible repeat (first | apply Kd.R_alloc | apply Kd.R_drewN | apply Kd.R_drew)); exact HO_6.out) hg hat); have n2_ := Aside0.mk (hb); have n3_ := Aside0.mk (ho); clear HO_5; clear HO_6; clear HB; clear HO_9; have HO_5 := n0_; have HO_6 := n1_; have HB := n2_; have HO121 := n3_; clear n0_ n1_ n2_ n3_; clear ho hb hg hat; have p122 : 0 ≤ ((ji17) : Int) := of_decide_eq_true (by first | (with_reducible assumption) | assumption); have q122 : (ji17) < (t109.length : Int) := of_decide_eq_true (by first | (with_reducible assumption) | assumption); obtain ⟨ad122, e122, hx122_0⟩ := Kd.at_string (Kd.R_reads' HO_6.out).2.2 (ji17) p122 q122; obtain rfl : ad112 = ad122 := (by injection e122); replace p122 := eq_true p122; replace q122 := eq_true q122) | ((with_reducible refine gate_callee (f := 21) rfl ?_); refine goesL_ (some 51) rfl rfl Try.func21 (by kernel_rfl) rfl #[.string (rdOf ByteArray.empty t109 (ji17)), .string (⟨#[93]⟩ : ByteArray)] rfl (by (try simp only [List.map_toArray, List.map_cons, List.map_nil]); first | done | (simp only [hji17]; rfl) | rfl | (simp only [List.length_drop, List.length_take]; rfl)) ?_; (with_reducible refine (strings_HasSuffix.calls (rdOf ByteArray.empty t109 (ji17)) (⟨#[93]⟩ : ByteArray) true _ A21.out).mono ?_); rintro e w' ⟨rfl, ⟨nd, rfl⟩⟩; refine ⟨_, rfl, ?_⟩))
                                go_meet
                                case rel => exact ⟨_, (ji17), (y119), (by first | rfl | (simp; done) | (simp only [← hji17] <;> (first | rfl | simp)) | (simp [*]; done)), H', ⟨by have := HK1.out; have := HJ6.out; have := HK3.out; first | omega | exact Nat.le_refl _⟩, ⟨by (with_reducible repeat (first | apply Kd.R_alloc | apply Kd.R_drewN | apply Kd.R_drew)); exact HO_5.out⟩, ⟨by (with_reducible repeat (first | apply Kd.R_alloc | apply Kd.R_drewN | apply Kd.R_drew)); exact HO_6.out⟩, ⟨by (with_reducible repeat (first | apply Kd.R_alloc | apply Kd.R_drewN | apply Kd.R_drew)); exact HO121.out⟩, ⟨by repeat (first | (with_reducible first | exact HB.out | apply below_alloc | apply pw_below_drewN | apply below_drew1) | exact HB.out)⟩⟩
                              · replace c22 := Bool.eq_false_iff.mpr c22
                                subst c22
                                have H1 : (utils_SmarterPathSplitter.l1 k3 a1 x5_1 t109 ji17 y119) = some r := by rw [if_neg (show ¬ (false = true) by decide)] at H; exact H
                                clear H
                                have H := H1
                                clear H1
                                have H' := Aside0.mk H
                                clear H
                                have p118 : 0 ≤ ((ji17) : Int) := of_decide_eq_true (by first | (with_reducible assumption) | assumption)
                                have q118 : (ji17) < (t109.length : Int) := of_decide_eq_true (by first | (with_reducible assumption) | assumption)
                                obtain ⟨ad118, e118, hx118_0⟩ := Kd.at_string (Kd.R_reads' HO_6.out).2.2 (ji17) p118 q118
                                obtain rfl : ad112 = ad118 := (by injection e118)
                                replace p118 := eq_true p118
                                replace q118 := eq_true q118
                                go_wp2_with (first | ((with_reducible refine gate_builtin (b := .append) (xs := #[.tmp 40, .tmp 45]) rfl ?_); at_builtin; refine Kd.R_append Kd.string (w0 := w) w.heap.size rfl (.tmp 40) (.tmp 45) 22 9 (.string ⟨#[]⟩) 16 rfl Try.underlying22 info9 rfl (by decide) (by omega) u9 x9_3 (rdOf ByteArray.empty t109 (ji17)) [.string (rdOf ByteArray.empty t109 (ji17))] (fun k_ => some k_ ≠ (u5 : Value).ownBlock ∧ some k_ ≠ (.slice (some ad112) t109.length co8 : Value).ownBlock) (fun _ => False) rfl rfl ?aP (fun _ hk => hk.elim) ?aF ?aO ?aB ?aS ?aL ?_; (case aP => exact rfl); (case aB => exact (by repeat (first | (with_reducible first | exact HB.out | apply below_alloc | apply pw_below_drewN | apply below_drew1) | exact HB.out))); (case aF => exact (fun k_ hk => ⟨Kd.fresh' (Kd.R_lt (by (with_reducible repeat (first | apply Kd.R_alloc | apply Kd.R_drewN | apply Kd.R_drew)); exact HO_5.out)) k_ hk, Kd.fresh' (Kd.R_lt (by (with_reducible repeat (first | apply Kd.R_alloc | apply Kd.R_drewN | apply Kd.R_drew)); exact HO_6.out)) k_ hk⟩)); (case aO => exact (by (with_reducible repeat (first | apply Kd.R_alloc | apply Kd.R_drewN | apply Kd.R_drew)); exact HO_9.out)); (case aS => exact (below_size (by repeat (first | (with_reducible first | exact HB.out | apply below_alloc | apply pw_below_drewN | apply below_drew1) | exact HB.out)))); (case aL => have := LMc20.out; omega); intro v120 w24 ho hb hg hat; rw [← Ny119.out] at ho; have n0_ := Aside0.mk (Kd.R_after (ok := (fun k_ => some k_ ≠ (.slice (some ad112) t109.length co8 : Value).ownBlock)) (by (with_reducible repeat (first | apply Kd.R_alloc | apply Kd.R_drewN | apply Kd.R_drew)); exact HO_5.out) hg hat); have n1_ := Aside0.mk (Kd.R_after (ok := (fun k_ => some k_ ≠ (u5 : Value).ownBlock)) (by (with_reducible repeat (first | apply Kd.R_alloc | apply Kd.R_drewN | apply Kd.R_drew)); exact HO_6.out) hg hat); have n2_ := Aside0.mk (hb); have n3_ := Aside0.mk (ho); clear HO_5; clear HO_6; clear HB; clear HO_9; have HO_5 := n0_; have HO_6 := n1_; have HB := n2_; have HO121 := n3_; clear n0_ n1_ n2_ n3_; clear ho hb hg hat; have p122 : 0 ≤ ((ji17) : Int) := of_decide_eq_true (by first | (with_reducible assumption) | assumption); have q122 : (ji17) < (t109.length : Int) := of_decide_eq_true (by first | (with_reducible assumption) | assumption); obtain ⟨ad122, e122, hx122_0⟩ := Kd.at_string (Kd.R_reads' HO_6.out).2.2 (ji17) p122 q122; obtain rfl : ad112 = ad122 := (by injection e122); replace p122 := eq_true p122; replace q122 := eq_true q122) | ((with_reducible refine gate_callee (f := 21) rfl ?_); refine goesL_ (some 51) rfl rfl Try.func21 (by kernel_rfl) rfl #[.string (rdOf ByteArray.empty t109 (ji17)), .string (⟨#[93]⟩ : ByteArray)] rfl (by (try simp only [List.map_toArray, List.map_cons, List.map_nil]); first | done | (simp only [hji17]; rfl) | rfl | (simp only [List.length_drop, List.length_take]; rfl)) ?_; (with_reducible refine (strings_HasSuffix.calls (rdOf ByteArray.empty t109 (ji17)) (⟨#[93]⟩ : ByteArray) false _ A21.out).mono ?_); rintro e w' ⟨rfl, ⟨nd, rfl⟩⟩; refine ⟨_, rfl, ?_⟩))
                                go_roundg k3
                                case measure => have := HK1.out; have := HJ6.out; have := HK3.out; omega
                                case rel => exact ⟨(ji17), (y119), (by first | rfl | (simp; done) | (simp only [← hji17] <;> (first | rfl | simp)) | (simp [*]; done)), H', ⟨by have := HK1.out; have := HJ6.out; have := HK3.out; omega⟩, ⟨by (with_reducible repeat (first | apply Kd.R_alloc | apply Kd.R_drewN | apply Kd.R_drew)); exact HO_5.out⟩, ⟨by (with_reducible repeat (first | apply Kd.R_alloc | apply Kd.R_drewN | apply Kd.R_drew)); exact HO_6.out⟩, ⟨by (with_reducible repeat (first | apply Kd.R_alloc | apply Kd.R_drewN | apply Kd.R_drew)); exact HO121.out⟩, ⟨by repeat (first | (with_reducible first | exact HB.out | apply below_alloc | apply pw_below_drewN | apply below_drew1) | exact HB.out)⟩⟩
                            · rw [if_neg c20] at H
                              exact absurd H (by simp)
                          · rw [if_neg c19] at H
                            exact absurd H (by simp)
                        · rw [if_neg c18] at H
                          exact absurd H (by simp)
                      · rw [if_neg c16] at H
                        have c16b0 : decide (x7_3 < (wrap64 ((t109.length : Int) - 1))) = false := decide_eq_false c16
                        clear c16
                        (first | rw [c16b0] | (simp only [i64_w, i32_w]; rw [c16b0]) | skip)
                        have H' := Aside0.mk H
                        clear H
                        go_wp2
                        go_meet
                        case rel => exact ⟨_, (x7_3), (x9_3), (by first | rfl | (simp; done) | (simp [*]; done)), H', ⟨by have := HK1.out; have := HJ6.out; have := HK3.out; first | omega | exact Nat.le_refl _⟩, ⟨by (with_reducible repeat (first | apply Kd.R_alloc | apply Kd.R_drewN | apply Kd.R_drew)); exact HO_5.out⟩, ⟨by (with_reducible repeat (first | apply Kd.R_alloc | apply Kd.R_drewN | apply Kd.R_drew)); exact HO_6.out⟩, ⟨by (with_reducible repeat (first | apply Kd.R_alloc | apply Kd.R_drewN | apply Kd.R_drew)); exact HO_9.out⟩, ⟨by repeat (first | (with_reducible first | exact HB.out | apply below_alloc | apply pw_below_drewN | apply below_drew1) | exact HB.out)⟩⟩
                case rest =>
                  clear HC13
                  try clear c1
                  try clear p1
                  try clear q1
                  try clear hx1
                  try clear c2
                  try clear p2
                  try clear c5
                  try clear c5b0
                  try clear c6
                  try clear c6b0
                  try clear p6
                  try clear c10
                  try clear p11
                  try clear q11
                  try clear hx11
                  try clear c12
                  try clear p12
                  try clear q12
                  try clear hx12
                  try clear c15
                  try clear c16
                  try clear c16b0
                  try clear c18
                  try clear c18b0
                  try clear c19
                  try clear c19b0
                  try clear c20
                  try clear c21
                  try clear c22
                  try clear hx112_0
                  try clear hx118_0
                  try clear hx122_0
                  try clear p1
                  try clear p11
                  try clear p112
                  try clear p118
                  try clear p122
                  try clear p2
                  try clear q1
                  try clear q11
                  try clear q112
                  try clear q118
                  try clear q122
                  obtain ⟨kq, x7_12, x9_12, rfl, HA, HJ12, HO_5, HO_6, HO_9, HB⟩ := hcut
                  cases kq with
                  | zero => exact absurd HA.out (by simp [utils_SmarterPathSplitter.j3])
                  | succ kj12 =>
                    have H := HA.out
                    clear HA
                    simp only [utils_SmarterPathSplitter.j3] at H
                    replace H := Option.bind_eq_some_iff.mp H
                    obtain ⟨t124, A250, H⟩ := H
                    replace H : ((utils_zzIndex.f kj12 t124 (⟨#[61]⟩ : ByteArray)).bind fun t125 => (if t125 ≥ 0 then (if x5_1.length < 8796093022208 then (utils_SmarterPathSplitter.l0 kj12 a1 (x5_1 ++ [t124]) t109 (wrap64 (x7_12 + 1))) else (none)) else ((utils_zzTrimBrackets.f kj12 t124).bind fun t129 => (if x5_1.length < 8796093022208 then (utils_SmarterPathSplitter.l0 kj12 a1 (x5_1 ++ [t129]) t109 (wrap64 (x7_12 + 1))) else (none))))) = some r := H
                    have A25 := Aside0.mk A250
                    clear A250
                    replace H := Option.bind_eq_some_iff.mp H
                    obtain ⟨t125, A260, H⟩ := H
                    replace H : (if t125 ≥ 0 then (if x5_1.length < 8796093022208 then (utils_SmarterPathSplitter.l0 kj12 a1 (x5_1 ++ [t124]) t109 (wrap64 (x7_12 + 1))) else (none)) else ((utils_zzTrimBrackets.f kj12 t124).bind fun t129 => (if x5_1.length < 8796093022208 then (utils_SmarterPathSplitter.l0 kj12 a1 (x5_1 ++ [t129]) t109 (wrap64 (x7_12 + 1))) else (none)))) = some r := H
                    have A26 := Aside0.mk A260
                    clear A260
                    by_cases c27 : t125 ≥ 0
                    · rw [if_pos c27] at H
                      have c27b0 : decide (0 ≤ t125) = true := decide_eq_true c27
                      clear c27
                      by_cases c28 : x5_1.length < 8796093022208
                      · rw [if_pos c28] at H
                        have LMc28 := Aside0.mk c28
                        clear c28
                        obtain ⟨y126, hy126⟩ : ∃ y_ : List ByteArray, y_ = (x5_1 ++ [t124]) := ⟨_, rfl⟩
                        replace H : (utils_SmarterPathSplitter.l0 kj12 a1 y126 t109 (wrap64 (x7_12 + 1))) = some r := by first | (rw [hy126]; with_reducible exact H) | (have H2_ := (Option.bind_some _ _).symm.trans H; rw [hy126]; with_reducible exact H2_) | (have H2_ := (Option.bind_some _ _).symm.trans H; with_reducible exact H2_) | with_reducible exact H | (rw [hy126]; exact H) | exact H
                        have Ny126 := Aside0.mk hy126
                        clear hy126
                        have H' := Aside0.mk H
                        clear H
                        obtain ⟨Ao29, co29, eo29⟩ := Kd.R_slice HO_9.out
                        subst eo29
                        go_wp2_with (first | ((with_reducible refine gate_callee (f := 26) rfl ?_); refine goesL_ (some 54) rfl rfl Try.func26 (by kernel_rfl) rfl #[.slice Ao29 x9_12.length co29, .string a1] rfl (by (try simp only [List.map_toArray, List.map_cons, List.map_nil]); first | done | rfl | (simp only [List.length_drop, List.length_take]; rfl)) ?_; (with_reducible refine (strings_Join.calls _ _ x9_12 a1 t124 _ ?side1 ?side2 A25.out).mono ?_); (case side1 => repeat (first | exact (Kd.R_reads' HO_9.out).2.2 | (with_reducible refine Kd.C_alloc ?_ _) | (with_reducible refine Kd.C_drewN ?_ _) | (with_reducible refine Kd.C_drew ?_))); (case side2 => exact (Kd.R_reads' HO_9.out).2.1); rintro e w30 ⟨rfl, hb⟩; refine ⟨_, rfl, ?_⟩; have n0_ := Aside0.mk (Kd.R_below (by (with_reducible repeat (first | apply Kd.R_alloc | apply Kd.R_drewN | apply Kd.R_drew)); exact HO_5.out) hb); have n1_ := Aside0.mk (Kd.R_below (by (with_reducible repeat (first | apply Kd.R_alloc | apply Kd.R_drewN | apply Kd.R_drew)); exact HO_6.out) hb); have n2_ := Aside0.mk (Kd.R_below (by (with_reducible repeat (first | apply Kd.R_alloc | apply Kd.R_drewN | apply Kd.R_drew)); exact HO_9.out) hb); have n3_ := Aside0.mk (below_step (by repeat (first | (with_reducible first | exact HB.out | apply below_alloc | apply pw_below_drewN | apply below_drew1) | exact HB.out)) hb); clear HO_5; clear HO_6; clear HO_9; clear HB; have HO_5 := n0_; have HO_6 := n1_; have HO_9 := n2_; have HB := n3_; clear n0_ n1_ n2_ n3_; (try clear hb); (try clear hb2); (try clear hk); (try clear hi)) | ((with_reducible refine gate_callee (f := 27) rfl ?_); refine goesL_ (some 56) rfl rfl Try.func27 (by kernel_rfl) rfl #[.string t124, .string (⟨#[61]⟩ : ByteArray)] rfl (by (try simp only [List.map_toArray, List.map_cons, List.map_nil]); first | done | rfl | (simp only [List.length_drop, List.length_take]; rfl)) ?_; (with_reducible refine (utils_zzIndex.calls kj12 t124 (⟨#[61]⟩ : ByteArray) t125 _ A26.out).mono ?_); rintro e w' ⟨rfl, ⟨nd, rfl⟩⟩; refine ⟨_, rfl, ?_⟩) | ((with_reducible refine gate_builtin (b := .append) (xs := #[.tmp 58, .tmp 60]) rfl ?_); at_builtin; refine Kd.R_append Kd.string (w0 := w) w.heap.size rfl (.tmp 58) (.tmp 60) 22 9 (.string ⟨#[]⟩) 16 rfl Try.underlying22 info9 rfl (by decide) (by omega) u5 x5_1 t124 [.string t124] (fun k_ => some k_ ≠ (.slice (some ad112) t109.length co8 : Value).ownBlock ∧ some k_ ≠ (.slice Ao29 x9_12.length co29 : Value).ownBlock) (fun _ => False) rfl rfl ?aP (fun _ hk => hk.elim) ?aF ?aO ?aB ?aS ?aL ?_; (case aP => exact rfl); (case aB => exact (by repeat (first | (with_reducible first | exact HB.out | apply below_alloc | apply pw_below_drewN | apply below_drew1) | exact HB.out))); (case aF => exact (fun k_ hk => ⟨Kd.fresh' (Kd.R_lt (by (with_reducible repeat (first | apply Kd.R_alloc | apply Kd.R_drewN | apply Kd.R_drew)); exact HO_6.out)) k_ hk, Kd.fresh' (Kd.R_lt (by (with_reducible repeat (first | apply Kd.R_alloc | apply Kd.R_drewN | apply Kd.R_drew)); exact HO_9.out)) k_ hk⟩)); (case aO => exact (by (with_reducible repeat (first | apply Kd.R_alloc | apply Kd.R_drewN | apply Kd.R_drew)); exact HO_5.out)); (case aS => exact (below_size (by repeat (first | (with_reducible first | exact HB.out | apply below_alloc | apply pw_below_drewN | apply below_drew1) | exact HB.out)))); (case aL => have := LMc28.out; omega); intro v127 w31 ho hb hg hat; rw [← Ny126.out] at ho; have n0_ := Aside0.mk (Kd.R_after (ok := (fun k_ => some k_ ≠ (.slice Ao29 x9_12.length co29 : Value).ownBlock)) (by (with_reducible repeat (first | apply Kd.R_alloc | apply Kd.R_drewN | apply Kd.R_drew)); exact Kd.R_mono HO_6.out (fun _ hk => ⟨hk.2, hk.1⟩)) hg hat); have n1_ := Aside0.mk (Kd.R_after (ok := (fun k_ => some k_ ≠ (.slice (some ad112) t109.length co8 : Value).ownBlock)) (by (with_reducible repeat (first | apply Kd.R_alloc | apply Kd.R_drewN | apply Kd.R_drew)); exact Kd.R_mono HO_9.out (fun _ hk => ⟨hk.2, hk.1⟩)) hg hat); have n2_ := Aside0.mk (hb); have n3_ := Aside0.mk (ho); clear HO_6; clear HO_9; clear HB; clear HO_5; have HO_6 := n0_; have HO_9 := n1_; have HB := n2_; have HO128 := n3_; clear n0_ n1_ n2_ n3_; clear ho hb hg hat))
                        go_roundg kj12
                        case measure => have := HK1.out; have := HJ6.out; have := HJ12.out; omega
                        case rel => exact ⟨(y126), (wrap64 (x7_12 + 1)), (by first | rfl | (simp; done) | (simp [*]; done)), H', ⟨by have := HK1.out; have := HJ6.out; have := HJ12.out; omega⟩, ⟨by (with_reducible repeat (first | apply Kd.R_alloc | apply Kd.R_drewN | apply Kd.R_drew)); exact Kd.R_mono HO128.out (fun _ hk => hk.1)⟩, ⟨by (with_reducible repeat (first | apply Kd.R_alloc | apply Kd.R_drewN | apply Kd.R_drew)); exact Kd.R_mono HO_6.out (fun _ hk => hk.2)⟩, ⟨by repeat (first | (with_reducible first | exact HB.out | apply below_alloc | apply pw_below_drewN | apply below_drew1) | exact HB.out)⟩⟩
                      · rw [if_neg c28] at H
                        exact absurd H (by simp)
                    · rw [if_neg c27] at H
                      have c27b0 : decide (0 ≤ t125) = false := decide_eq_false c27
                      clear c27
                      replace H := Option.bind_eq_some_iff.mp H
                      obtain ⟨t129, A320, H⟩ := H
                      replace H : (if x5_1.length < 8796093022208 then (utils_SmarterPathSplitter.l0 kj12 a1 (x5_1 ++ [t129]) t109 (wrap64 (x7_12 + 1))) else (none)) = some r := H
                      have A32 := Aside0.mk A320
                      clear A320
                      by_cases c33 : x5_1.length < 8796093022208
                      · rw [if_pos c33] at H
                        have LMc33 := Aside0.mk c33
                        clear c33
                        obtain ⟨y130, hy130⟩ : ∃ y_ : List ByteArray, y_ = (x5_1 ++ [t129]) := ⟨_, rfl⟩
                        replace H : (utils_SmarterPathSplitter.l0 kj12 a1 y130 t109 (wrap64 (x7_12 + 1))) = some r := by first | (rw [hy130]; with_reducible exact H) | (have H2_ := (Option.bind_some _ _).symm.trans H; rw [hy130]; with_reducible exact H2_) | (have H2_ := (Option.bind_some _ _).symm.trans H; with_reducible exact H2_) | with_reducible exact H | (rw [hy130]; exact H) | exact H
                        have Ny130 := Aside0.mk hy130
                        clear hy130
                        have H' := Aside0.mk H
                        clear H
                        obtain ⟨Ao34, co34, eo34⟩ := Kd.R_slice HO_9.out
                        subst eo34
                        go_wp2_with (first | ((with_reducible refine gate_callee (f := 26) rfl ?_); refine goesL_ (some 54) rfl rfl Try.func26 (by kernel_rfl) rfl #[.slice Ao34 x9_12.length co34, .string a1] rfl (by (try simp only [List.map_toArray, List.map_cons, List.map_nil]); first | done | rfl | (simp only [List.length_drop, List.length_take]; rfl)) ?_; (with_reducible refine (strings_Join.calls _ _ x9_12 a1 t124 _ ?side1 ?side2 A25.out).mono ?_); (case side1 => repeat (first | exact (Kd.R_reads' HO_9.out).2.2 | (with_reducible refine Kd.C_alloc ?_ _) | (with_reducible refine Kd.C_drewN ?_ _) | (with_reducible refine Kd.C_drew ?_))); (case side2 => exact (Kd.R_reads' HO_9.out).2.1); rintro e w35 ⟨rfl, hb⟩; refine ⟨_, rfl, ?_⟩; have n0_ := Aside0.mk (Kd.R_below (by (with_reducible repeat (first | apply Kd.R_alloc | apply Kd.R_drewN | apply Kd.R_drew)); exact HO_5.out) hb); have n1_ := Aside0.mk (Kd.R_below (by (with_reducible repeat (first | apply Kd.R_alloc | apply Kd.R_drewN | apply Kd.R_drew)); exact HO_6.out) hb); have n2_ := Aside0.mk (Kd.R_below (by (with_reducible repeat (first | apply Kd.R_alloc | apply Kd.R_drewN | apply Kd.R_drew)); exact HO_9.out) hb); have n3_ := Aside0.mk (below_step (by repeat (first | (with_reducible first | exact HB.out | apply below_alloc | apply pw_below_drewN | apply below_drew1) | exact HB.out)) hb); clear HO_5; clear HO_6; clear HO_9; clear HB; have HO_5 := n0_; have HO_6 := n1_; have HO_9 := n2_; have HB := n3_; clear n0_ n1_ n2_ n3_; (try clear hb); (try clear hb2); (try clear hk); (try clear hi)) | ((with_reducible refine gate_callee (f := 27) rfl ?_); refine goesL_ (some 56) rfl rfl Try.func27 (by kernel_rfl) rfl #[.string t124, .string (⟨#[61]⟩ : ByteArray)] rfl (by (try simp only [List.map_toArray, List.map_cons, List.map_nil]); first | done | rfl | (simp only [List.length_drop, List.length_take]; rfl)) ?_; (with_reducible refine (utils_zzIndex.calls kj12 t124 (⟨#[61]⟩ : ByteArray) t125 _ A26.out).mono ?_); rintro e w' ⟨rfl, ⟨nd, rfl⟩⟩; refine ⟨_, rfl, ?_⟩) | ((with_reducible refine gate_callee (f := 28) rfl ?_); refine goesL_ (some 64) rfl rfl Try.func28 (by kernel_rfl) rfl #[.string t124] rfl (by (try simp only [List.map_toArray, List.map_cons, List.map_nil]); first | done | rfl | (simp only [List.length_drop, List.length_take]; rfl)) ?_; (with_reducible refine (utils_zzTrimBrackets.calls kj12 t124 t129 _ A32.out).mono ?_); rintro e w' ⟨rfl, ⟨nd, rfl⟩⟩; refine ⟨_, rfl, ?_⟩) | ((with_reducible refine gate_builtin (b := .append) (xs := #[.tmp 62, .tmp 65]) rfl ?_); at_builtin; refine Kd.R_append Kd.string (w0 := w) w.heap.size rfl (.tmp 62) (.tmp 65) 22 9 (.string ⟨#[]⟩) 16 rfl Try.underlying22 info9 rfl (by decide) (by omega) u5 x5_1 t129 [.string t129] (fun k_ => some k_ ≠ (.slice (some ad112) t109.length co8 : Value).ownBlock ∧ some k_ ≠ (.slice Ao34 x9_12.length co34 : Value).ownBlock) (fun _ => False) rfl rfl ?aP (fun _ hk => hk.elim) ?aF ?aO ?aB ?aS ?aL ?_; (case aP => exact rfl); (case aB => exact (by repeat (first | (with_reducible first | exact HB.out | apply below_alloc | apply pw_below_drewN | apply below_drew1) | exact HB.out))); (case aF => exact (fun k_ hk => ⟨Kd.fresh' (Kd.R_lt (by (with_reducible repeat (first | apply Kd.R_alloc | apply Kd.R_drewN | apply Kd.R_drew)); exact HO_6.out)) k_ hk, Kd.fresh' (Kd.R_lt (by (with_reducible repeat (first | apply Kd.R_alloc | apply Kd.R_drewN | apply Kd.R_drew)); exact HO_9.out)) k_ hk⟩)); (case aO => exact (by (with_reducible repeat (first | apply Kd.R_alloc | apply Kd.R_drewN | apply Kd.R_drew)); exact HO_5.out)); (case aS => exact (below_size (by repeat (first | (with_reducible first | exact HB.out | apply below_alloc | apply pw_below_drewN | apply below_drew1) | exact HB.out)))); (case aL => have := LMc33.out; omega); intro v131 w36 ho hb hg hat; rw [← Ny130.out] at ho; have n0_ := Aside0.mk (Kd.R_after (ok := (fun k_ => some k_ ≠ (.slice Ao34 x9_12.length co34 : Value).ownBlock)) (by (with_reducible repeat (first | apply Kd.R_alloc | apply Kd.R_drewN | apply Kd.R_drew)); exact Kd.R_mono HO_6.out (fun _ hk => ⟨hk.2, hk.1⟩)) hg hat); have n1_ := Aside0.mk (Kd.R_after (ok := (fun k_ => some k_ ≠ (.slice (some ad112) t109.length co8 : Value).ownBlock)) (by (with_reducible repeat (first | apply Kd.R_alloc | apply Kd.R_drewN | apply Kd.R_drew)); exact Kd.R_mono HO_9.out (fun _ hk => ⟨hk.2, hk.1⟩)) hg hat); have n2_ := Aside0.mk (hb); have n3_ := Aside0.mk (ho); clear HO_6; clear HO_9; clear HB; clear HO_5; have HO_6 := n0_; have HO_9 := n1_; have HB := n2_; have HO132 := n3_; clear n0_ n1_ n2_ n3_; clear ho hb hg hat))
                        go_roundg kj12
                        case measure => have := HK1.out; have := HJ6.out; have := HJ12.out; omega
                        case rel => exact ⟨(y130), (wrap64 (x7_12 + 1)), (by first | rfl | (simp; done) | (simp [*]; done)), H', ⟨by have := HK1.out; have := HJ6.out; have := HJ12.out; omega⟩, ⟨by (with_reducible repeat (first | apply Kd.R_alloc | apply Kd.R_drewN | apply Kd.R_drew)); exact Kd.R_mono HO132.out (fun _ hk => hk.1)⟩, ⟨by (with_reducible repeat (first | apply Kd.R_alloc | apply Kd.R_drewN | apply Kd.R_drew)); exact Kd.R_mono HO_6.out (fun _ hk => hk.2)⟩, ⟨by repeat (first | (with_reducible first | exact HB.out | apply below_alloc | apply pw_below_drewN | apply below_drew1) | exact HB.out)⟩⟩
                      · rw [if_neg c33] at H
                        exact absurd H (by simp)
              · replace c12 := Bool.eq_false_iff.mpr c12
                subst c12
                have H1 : (if x5_1.length < 8796093022208 then (utils_SmarterPathSplitter.l0 kj6 a1 (x5_1 ++ [(rdOf ByteArray.empty t109 x7_1)]) t109 (wrap64 (x7_1 + 1))) else (none)) = some r := by rw [if_neg (show ¬ (false = true) by decide)] at H; exact H
                clear H
                have H := H1
                clear H1
                by_cases c37 : x5_1.length < 8796093022208
                · rw [if_pos c37] at H
                  have LMc37 := Aside0.mk c37
                  clear c37
                  obtain ⟨y133, hy133⟩ : ∃ y_ : List ByteArray, y_ = (x5_1 ++ [(rdOf ByteArray.empty t109 x7_1)]) := ⟨_, rfl⟩
                  replace H : (utils_SmarterPathSplitter.l0 kj6 a1 y133 t109 (wrap64 (x7_1 + 1))) = some r := by first | (rw [hy133]; with_reducible exact H) | (have H2_ := (Option.bind_some _ _).symm.trans H; rw [hy133]; with_reducible exact H2_) | (have H2_ := (Option.bind_some _ _).symm.trans H; with_reducible exact H2_) | with_reducible exact H | (rw [hy133]; exact H) | exact H
                  have Ny133 := Aside0.mk hy133
                  clear hy133
                  have H' := Aside0.mk H
                  clear H
                  go_wp2_with (first | ((with_reducible refine gate_builtin (b := .append) (xs := #[.tmp 67, .tmp 69]) rfl ?_); at_builtin; refine Kd.R_append Kd.string (w0 := w) w.heap.size rfl (.tmp 67) (.tmp 69) 22 9 (.string ⟨#[]⟩) 16 rfl Try.underlying22 info9 rfl (by decide) (by omega) u5 x5_1 (rdOf ByteArray.empty t109 x7_1) [.string (rdOf ByteArray.empty t109 x7_1)] (fun k_ => some k_ ≠ (.slice (some ad112) t109.length co8 : Value).ownBlock) (fun _ => False) rfl rfl ?aP (fun _ hk => hk.elim) ?aF ?aO ?aB ?aS ?aL ?_; (case aP => exact rfl); (case aB => exact (by repeat (first | (with_reducible first | exact HB.out | apply below_alloc | apply pw_below_drewN | apply below_drew1) | exact HB.out))); (case aF => exact (fun k_ hk => Kd.fresh' (Kd.R_lt (by (with_reducible repeat (first | apply Kd.R_alloc | apply Kd.R_drewN | apply Kd.R_drew)); exact HO_6.out)) k_ hk)); (case aO => exact (by (with_reducible repeat (first | apply Kd.R_alloc | apply Kd.R_drewN | apply Kd.R_drew)); exact HO_5.out)); (case aS => exact (below_size (by repeat (first | (with_reducible first | exact HB.out | apply below_alloc | apply pw_below_drewN | apply below_drew1) | exact HB.out)))); (case aL => have := LMc37.out; omega); intro v134 w38 ho hb hg hat; rw [← Ny133.out] at ho; have n0_ := Aside0.mk (Kd.R_after (ok := (fun _ => True)) (by (with_reducible repeat (first | apply Kd.R_alloc | apply Kd.R_drewN | apply Kd.R_drew)); exact Kd.R_mono HO_6.out (fun _ hk => ⟨trivial, hk⟩)) hg hat); have n1_ := Aside0.mk (hb); have n2_ := Aside0.mk (ho); clear HO_6; clear HB; clear HO_5; have HO_6 := n0_; have HB := n1_; have HO135 := n2_; clear n0_ n1_ n2_; clear ho hb hg hat))
                  go_roundg kj6
                  case measure => have := HK1.out; have := HJ6.out; omega
                  case rel => exact ⟨(y133), (wrap64 (x7_1 + 1)), (by first | rfl | (simp; done) | (simp [*]; done)), H', ⟨by have := HK1.out; have := HJ6.out; omega⟩, ⟨by (with_reducible repeat (first | apply Kd.R_alloc | apply Kd.R_drewN | apply Kd.R_drew)); exact HO135.out⟩, ⟨by (with_reducible repeat (first | apply Kd.R_alloc | apply Kd.R_drewN | apply Kd.R_drew)); exact Kd.R_mono HO_6.out (fun _ hk => hk.2)⟩, ⟨by repeat (first | (with_reducible first | exact HB.out | apply below_alloc | apply pw_below_drewN | apply below_drew1) | exact HB.out)⟩⟩
                · rw [if_neg c37] at H
                  exact absurd H (by simp)
        · rw [if_neg c6] at H
          exact absurd H (by simp)
      · rw [if_neg c5] at H
        have c5b0 : decide (x7_1 < (t109.length : Int)) = false := decide_eq_false c5
        clear c5
        obtain rfl := Option.some.inj H
        obtain ⟨Ao39, co39, eo39⟩ := Kd.R_slice HO_6.out
        subst eo39
        go_wp2
        go_ret
        exact ⟨_, by first | rfl | (simp [errW_none, errW_some] <;> rfl) | (simp [*, errW_none, errW_some] <;> rfl), by (with_reducible repeat (first | apply Kd.R_alloc | apply Kd.R_drewN | apply Kd.R_drew)); exact Kd.R_mono HO_5.out (fun _ hk => trivial), by repeat (first | (with_reducible first | exact HB.out | apply below_alloc | apply pw_below_drewN | apply below_drew1) | exact HB.out)⟩

/-! ### impl_SplitPathSmart: function 14 -/
def impl_SplitPathSmart.f (k : Nat) (a0 : ByteArray) (a1 : ByteArray) : Option (List ByteArray) := if a1.toList = ([] : List UInt8) then ((utils_SmarterPathSplitter.f k a0 (⟨#[46]⟩ : ByteArray)).bind fun t136 => (some t136)) else ((utils_SmarterPathSplitter.f k a0 a1).bind fun t139 => (some t139))
theorem impl_SplitPathSmart.mono : ∀ a0 a1 k, LeO (impl_SplitPathSmart.f k a0 a1) (impl_SplitPathSmart.f (k + 1) a0 a1) := by
  intro a0 a1 k
  unfold impl_SplitPathSmart.f
  repeat' first
      | (with_reducible exact utils_SmarterPathSplitter.mono _ _ _)
      | (with_reducible exact LeO.refl _)
      | (with_reducible exact LeO.none _)
      | (with_reducible refine LeO.ite ?_ ?_)
      | (with_reducible refine LeO.bind ?_ (fun _ => ?_))
      | exact utils_SmarterPathSplitter.mono _ _ _
      | exact LeO.none _
      | refine LeO.ite ?_ ?_
      | refine LeO.bind ?_ (fun _ => ?_)
set_option maxHeartbeats 8000000 in
set_option maxRecDepth 100000 in
theorem impl_SplitPathSmart.calls (k : Nat) (a0 : ByteArray) (a1 : ByteArray) (r : List ByteArray) (w : World) (h : impl_SplitPathSmart.f k a0 a1 = some r) :
    Calls Try.prog 14 #[.string a0, .string a1] w fun e w' => ∃ v0_ : Value, e = .returned (v0_) ∧ Kd.R Kd.string 9 w' w.heap.size (fun _ => True) v0_ r ∧ Below w.heap.size w w' := by
  have HB := Aside0.mk (Below.refl w.heap.size w)
  have H : (if a1.toList = ([] : List UInt8) then ((utils_SmarterPathSplitter.f k a0 (⟨#[46]⟩ : ByteArray)).bind fun t136 => (some t136)) else ((utils_SmarterPathSplitter.f k a0 a1).bind fun t139 => (some t139))) = some r := h
  clear h
  by_cases c3 : a1.toList = ([] : List UInt8)
  · rw [if_pos c3] at H
    have c3b0 : (a1.toList == ([] : List UInt8)) = true := beq_iff_eq.mpr c3
    have c3b1 : (a1.toList != ([] : List UInt8)) = false := bne_eq_false_iff_eq.mpr c3
    clear c3
    replace H := Option.bind_eq_some_iff.mp H
    obtain ⟨t136, A40, H⟩ := H
    replace H : (some t136) = some r := H
    have A4 := Aside0.mk A40
    clear A40
    obtain rfl := Option.some.inj H
    go_enter Try.func14, Try.ntmps14
    go_wp2_with (first | ((with_reducible refine gate_callee (f := 19) rfl ?_); refine goesL_ (some 9) rfl rfl Try.func19 (by kernel_rfl) rfl #[.string a0, .string (⟨#[46]⟩ : ByteArray)] rfl (by (try simp only [List.map_toArray, List.map_cons, List.map_nil]); first | done | rfl | (simp only [List.length_drop, List.length_take]; rfl)) ?_; (with_reducible refine (utils_SmarterPathSplitter.calls k a0 (⟨#[46]⟩ : ByteArray) t136 _ A4.out).mono ?_); rintro e w5 ⟨v137, rfl, ho0, hb⟩; refine ⟨_, rfl, ?_⟩; have n0_ := Aside0.mk (Kd.R_lower ho0 (below_size (by repeat (first | (with_reducible first | exact HB.out | apply below_alloc | apply pw_below_drewN | apply below_drew1) | exact HB.out)))); have n1_ := Aside0.mk (below_step (by repeat (first | (with_reducible first | exact HB.out | apply below_alloc | apply pw_below_drewN | apply below_drew1) | exact HB.out)) hb); clear HB; have HO138 := n0_; have HB := n1_; clear n0_ n1_; (try clear hb); (try clear hb2); (try clear hk); (try clear hi); (try clear ho0)))
    go_ret
    exact ⟨_, by first | rfl | (simp [errW_none, errW_some] <;> rfl) | (simp [*, errW_none, errW_some] <;> rfl), by (with_reducible repeat (first | apply Kd.R_alloc | apply Kd.R_drewN | apply Kd.R_drew)); exact HO138.out, by repeat (first | (with_reducible first | exact HB.out | apply below_alloc | apply pw_below_drewN | apply below_drew1) | exact HB.out)⟩
  · rw [if_neg c3] at H
    have c3b0 : (a1.toList == ([] : List UInt8)) = false := beq_eq_false_iff_ne.mpr c3
    have c3b1 : (a1.toList != ([] : List UInt8)) = true := bne_iff_ne.mpr c3
    replace H := Option.bind_eq_some_iff.mp H
    obtain ⟨t139, A60, H⟩ := H
    replace H : (some t139) = some r := H
    have A6 := Aside0.mk A60
    clear A60
    obtain rfl := Option.some.inj H
    go_enter Try.func14, Try.ntmps14
    go_wp2_with (first | ((with_reducible refine gate_callee (f := 19) rfl ?_); refine goesL_ (some 9) rfl rfl Try.func19 (by kernel_rfl) rfl #[.string a0, .string a1] rfl (by (try simp only [List.map_toArray, List.map_cons, List.map_nil]); first | done | rfl | (simp only [List.length_drop, List.length_take]; rfl)) ?_; (with_reducible refine (utils_SmarterPathSplitter.calls k a0 a1 t139 _ A6.out).mono ?_); rintro e w7 ⟨v140, rfl, ho0, hb⟩; refine ⟨_, rfl, ?_⟩; have n0_ := Aside0.mk (Kd.R_lower ho0 (below_size (by repeat (first | (with_reducible first | exact HB.out | apply below_alloc | apply pw_below_drewN | apply below_drew1) | exact HB.out)))); have n1_ := Aside0.mk (below_step (by repeat (first | (with_reducible first | exact HB.out | apply below_alloc | apply pw_below_drewN | apply below_drew1) | exact HB.out)) hb); clear HB; have HO141 := n0_; have HB := n1_; clear n0_ n1_; (try clear hb); (try clear hb2); (try clear hk); (try clear hi); (try clear ho0)))
    go_ret
    exact ⟨_, by first | rfl | (simp [errW_none, errW_some] <;> rfl) | (simp [*, errW_none, errW_some] <;> rfl), by (with_reducible repeat (first | apply Kd.R_alloc | apply Kd.R_drewN | apply Kd.R_drew)); exact HO141.out, by repeat (first | (with_reducible first | exact HB.out | apply below_alloc | apply pw_below_drewN | apply below_drew1) | exact HB.out)⟩

end Go.Proofs.Ytgdffbjkafbkcaa.GSmart
