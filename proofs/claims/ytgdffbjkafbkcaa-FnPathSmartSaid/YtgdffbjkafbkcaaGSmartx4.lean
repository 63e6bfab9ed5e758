-- Laid by a program of this session (stub.py)
import Derived.Test.YtgdffbjkafbkcaaGSmartx0
import Derived.Test.YtgdffbjkafbkcaaGSmartx1
import Derived.Test.YtgdffbjkafbkcaaGSmartx3
namespace Go.Proofs.Ytgdffbjkafbkcaa.GSmart
open Go.RowKit Go.Proofs.YtgdffbjkafbkcaaW.PrintWords Go.Proofs.YtgdffbjkafbkcaaW.PrintLast Go.Proofs.YtgdffbjkafbkcaaW.PrintMore
attribute [local go_sem] max2_int min2_int max_two min_two max_three min_three max_four min_four   -- for this text's walks alone
theorem sz2 {a b : ByteArray} {m : Nat} (h : (a ++ b).size + m ≤ 9223372036854775807) : (9223372036854775807 < a.size + b.size + m) = False := eq_false (by rw [ByteArray.size_append] at h; omega)
theorem sz3 {a b c : ByteArray} {m : Nat} (h : ((a ++ b) ++ c).size + m ≤ 9223372036854775807) : (9223372036854775807 < a.size + b.size + c.size + m) = False := eq_false (by rw [ByteArray.size_append, ByteArray.size_append] at h; omega)
set_option linter.unusedVariables false
set_option linter.unusedSimpArgs false

/-! ### laws_FnPathSmart: function 5 -/
mutual
def laws_FnPathSmart.j0 : Nat → List ByteArray → List Int → Bool → Option (Bool)
  | 0, _, _, _ => none
  | k + 1, x0, x1, x17 => if x17 = true then (some true) else (if (x0.length : Int) = 0 then (laws_FnPathSmart.j1 k x0 x1 true) else (laws_FnPathSmart.j1 k x0 x1 (decide ((x0.length : Int) > 8))))
def laws_FnPathSmart.j1 : Nat → List ByteArray → List Int → Bool → Option (Bool)
  | 0, _, _, _ => none
  | k + 1, x0, x1, x25 => if x25 = true then (some true) else (laws_FnPathSmart.l0 k x1 (⟨#[]⟩ : ByteArray) ([] : List ByteArray) x0 (x0.length : Int) 0)
def laws_FnPathSmart.l0 : Nat → List Int → ByteArray → List ByteArray → List ByteArray → Int → Int → Option (Bool)
  | 0, _, _, _, _, _, _ => none
  | k + 1, x1, x5, x6, x26, x27, x28 => if x28 < x27 then (if 0 ≤ x28 then (if x28 < (x26.length : Int) then ((laws_heLetters.f k (rdOf ByteArray.empty x26 x28)).bind fun t148 => (if x28 < (x1.length : Int) then (laws_FnPathSmart.j3 k x1 x5 x6 x28 t148 (Int.tmod (rd x1 x28) 3) x26 x27 x28) else (laws_FnPathSmart.j3 k x1 x5 x6 x28 t148 0 x26 x27 x28))) else (none)) else (none)) else ((impl_SplitPathSmart.f k x5 (⟨#[46]⟩ : ByteArray)).bind fun t143 => ((laws_heSame.f k t143 x6).bind fun t146 => (some t146)))
def laws_FnPathSmart.j3 : Nat → List Int → ByteArray → List ByteArray → Int → ByteArray → Int → List ByteArray → Int → Int → Option (Bool)
  | 0, _, _, _, _, _, _, _, _, _ => none
  | k + 1, x1, x5, x6, x7, x8, x9, x26, x27, x28 => if x7 > 0 then (if x5.size + 1 ≤ 9223372036854775807 then (laws_FnPathSmart.j4 k x1 (x5 ++ (⟨#[46]⟩ : ByteArray)) x6 x8 x9 x26 x27 x28) else (none)) else (laws_FnPathSmart.j4 k x1 x5 x6 x8 x9 x26 x27 x28)
def laws_FnPathSmart.j4 : Nat → List Int → ByteArray → List ByteArray → ByteArray → Int → List ByteArray → Int → Int → Option (Bool)
  | 0, _, _, _, _, _, _, _, _ => none
  | k + 1, x1, x5, x6, x8, x9, x26, x27, x28 => if x9 = 0 then (if x5.size + x8.size ≤ 9223372036854775807 then (if x6.length < 8796093022208 then (laws_FnPathSmart.l0 k x1 (x5 ++ x8) (x6 ++ [x8]) x26 x27 (wrap64 (x28 + 1))) else (none)) else (none)) else (if x9 = 1 then (if x5.size + 1 ≤ 9223372036854775807 then (if (x5 ++ (⟨#[91]⟩ : ByteArray)).size + x8.size ≤ 9223372036854775807 then (if ((x5 ++ (⟨#[91]⟩ : ByteArray)) ++ x8).size + 5 ≤ 9223372036854775807 then (if x8.size + 4 ≤ 9223372036854775807 then (if x6.length < 8796093022208 then (laws_FnPathSmart.l0 k x1 (((x5 ++ (⟨#[91]⟩ : ByteArray)) ++ x8) ++ (⟨#[46, 97, 46, 98, 93]⟩ : ByteArray)) (x6 ++ [x8 ++ (⟨#[46, 97, 46, 98]⟩ : ByteArray)]) x26 x27 (wrap64 (x28 + 1))) else (none)) else (none)) else (none)) else (none)) else (none)) else (if x5.size + 6 ≤ 9223372036854775807 then (if (x5 ++ (⟨#[91, 110, 97, 109, 101, 61]⟩ : ByteArray)).size + x8.size ≤ 9223372036854775807 then (if ((x5 ++ (⟨#[91, 110, 97, 109, 101, 61]⟩ : ByteArray)) ++ x8).size + 3 ≤ 9223372036854775807 then (if 6 + x8.size ≤ 9223372036854775807 then (if ((⟨#[91, 110, 97, 109, 101, 61]⟩ : ByteArray) ++ x8).size + 3 ≤ 9223372036854775807 then (if x6.length < 8796093022208 then (laws_FnPathSmart.l0 k x1 (((x5 ++ (⟨#[91, 110, 97, 109, 101, 61]⟩ : ByteArray)) ++ x8) ++ (⟨#[46, 99, 93]⟩ : ByteArray)) (x6 ++ [((⟨#[91, 110, 97, 109, 101, 61]⟩ : ByteArray) ++ x8) ++ (⟨#[46, 99, 93]⟩ : ByteArray)]) x26 x27 (wrap64 (x28 + 1))) else (none)) else (none)) else (none)) else (none)) else (none)) else (none)))
end
def laws_FnPathSmart.f (k : Nat) (l0 : List ByteArray) (l1 : List Int) : Option (Bool) := (laws_zzFits4.f k l0).bind fun t142 => (if t142 = true then (laws_FnPathSmart.j0 k l0 l1 (decide ((l1.length : Int) > 2147483647))) else (laws_FnPathSmart.j0 k l0 l1 true))
theorem laws_FnPathSmart.mono_l : ∀ k, (∀ y0 y1 y2, LeO (laws_FnPathSmart.j0 k y0 y1 y2) (laws_FnPathSmart.j0 (k + 1) y0 y1 y2)) ∧ (∀ y0 y1 y2, LeO (laws_FnPathSmart.j1 k y0 y1 y2) (laws_FnPathSmart.j1 (k + 1) y0 y1 y2)) ∧ (∀ y0 y1 y2 y3 y4 y5, LeO (laws_FnPathSmart.l0 k y0 y1 y2 y3 y4 y5) (laws_FnPathSmart.l0 (k + 1) y0 y1 y2 y3 y4 y5)) ∧ (∀ y0 y1 y2 y3 y4 y5 y6 y7 y8, LeO (laws_FnPathSmart.j3 k y0 y1 y2 y3 y4 y5 y6 y7 y8) (laws_FnPathSmart.j3 (k + 1) y0 y1 y2 y3 y4 y5 y6 y7 y8)) ∧ (∀ y0 y1 y2 y3 y4 y5 y6 y7, LeO (laws_FnPathSmart.j4 k y0 y1 y2 y3 y4 y5 y6 y7) (laws_FnPathSmart.j4 (k + 1) y0 y1 y2 y3 y4 y5 y6 y7))
  | 0 => ⟨fun _ _ _ r h => by simp [laws_FnPathSmart.j0] at h, fun _ _ _ r h => by simp [laws_FnPathSmart.j1] at h, fun _ _ _ _ _ _ r h => by simp [laws_FnPathSmart.l0] at h, fun _ _ _ _ _ _ _ _ _ r h => by simp [laws_FnPathSmart.j3] at h, fun _ _ _ _ _ _ _ _ r h => by simp [laws_FnPathSmart.j4] at h⟩
  | k + 1 => by
    obtain ⟨ih0, ih1, ih2, ih3, ih4⟩ := laws_FnPathSmart.mono_l k
    refine ⟨?_, ?_, ?_, ?_, ?_⟩
    · intro y0 y1 y2
      unfold laws_FnPathSmart.j0
      repeat' first
      | (with_reducible exact ih0 _ _ _)
      | (with_reducible exact ih1 _ _ _)
      | (with_reducible exact ih2 _ _ _ _ _ _)
      | (with_reducible exact ih3 _ _ _ _ _ _ _ _ _)
      | (with_reducible exact ih4 _ _ _ _ _ _ _ _)
      | (with_reducible exact impl_SplitPathSmart.mono _ _ _)
      | (with_reducible exact laws_heLetters.mono _ _)
      | (with_reducible exact laws_heSame.mono _ _ _)
      | (with_reducible exact laws_zzFits4.mono _ _)
      | (with_reducible exact LeO.refl _)
      | (with_reducible exact LeO.none _)
      | (with_reducible refine LeO.ite ?_ ?_)
      | (with_reducible refine LeO.bind ?_ (fun _ => ?_))
      | exact ih0 _ _ _
      | exact ih1 _ _ _
      | exact ih2 _ _ _ _ _ _
      | exact ih3 _ _ _ _ _ _ _ _ _
      | exact ih4 _ _ _ _ _ _ _ _
      | exact impl_SplitPathSmart.mono _ _ _
      | exact laws_heLetters.mono _ _
      | exact laws_heSame.mono _ _ _
      | exact laws_zzFits4.mono _ _
      | exact LeO.none _
      | refine LeO.ite ?_ ?_
      | refine LeO.bind ?_ (fun _ => ?_)
    · intro y0 y1 y2
      unfold laws_FnPathSmart.j1
      repeat' first
      | (with_reducible exact ih0 _ _ _)
      | (with_reducible exact ih1 _ _ _)
      | (with_reducible exact ih2 _ _ _ _ _ _)
      | (with_reducible exact ih3 _ _ _ _ _ _ _ _ _)
      | (with_reducible exact ih4 _ _ _ _ _ _ _ _)
      | (with_reducible exact impl_SplitPathSmart.mono _ _ _)
      | (with_reducible exact laws_heLetters.mono _ _)
      | (with_reducible exact laws_heSame.mono _ _ _)
      | (with_reducible exact laws_zzFits4.mono _ _)
      | (with_reducible exact LeO.refl _)
      | (with_reducible exact LeO.none _)
      | (with_reducible refine LeO.ite ?_ ?_)
      | (with_reducible refine LeO.bind ?_ (fun _ => ?_))
      | exact ih0 _ _ _
      | exact ih1 _ _ _
      | exact ih2 _ _ _ _ _ _
      | exact ih3 _ _ _ _ _ _ _ _ _
      | exact ih4 _ _ _ _ _ _ _ _
      | exact impl_SplitPathSmart.mono _ _ _
      | exact laws_heLetters.mono _ _
      | exact laws_heSame.mono _ _ _
      | exact laws_zzFits4.mono _ _
      | exact LeO.none _
      | refine LeO.ite ?_ ?_
      | refine LeO.bind ?_ (fun _ => ?_)
    · intro y0 y1 y2 y3 y4 y5
      unfold laws_FnPathSmart.l0
      repeat' first
      | (with_reducible exact ih0 _ _ _)
      | (with_reducible exact ih1 _ _ _)
      | (with_reducible exact ih2 _ _ _ _ _ _)
      | (with_reducible exact ih3 _ _ _ _ _ _ _ _ _)
      | (with_reducible exact ih4 _ _ _ _ _ _ _ _)
      | (with_reducible exact impl_SplitPathSmart.mono _ _ _)
      | (with_reducible exact laws_heLetters.mono _ _)
      | (with_reducible exact laws_heSame.mono _ _ _)
      | (with_reducible exact laws_zzFits4.mono _ _)
      | (with_reducible exact LeO.refl _)
      | (with_reducible exact LeO.none _)
      | (with_reducible refine LeO.ite ?_ ?_)
      | (with_reducible refine LeO.bind ?_ (fun _ => ?_))
      | exact ih0 _ _ _
      | exact ih1 _ _ _
      | exact ih2 _ _ _ _ _ _
      | exact ih3 _ _ _ _ _ _ _ _ _
      | exact ih4 _ _ _ _ _ _ _ _
      | exact impl_SplitPathSmart.mono _ _ _
      | exact laws_heLetters.mono _ _
      | exact laws_heSame.mono _ _ _
      | exact laws_zzFits4.mono _ _
      | exact LeO.none _
      | refine LeO.ite ?_ ?_
      | refine LeO.bind ?_ (fun _ => ?_)
    · intro y0 y1 y2 y3 y4 y5 y6 y7 y8
      unfold laws_FnPathSmart.j3
      repeat' first
      | (with_reducible exact ih0 _ _ _)
      | (with_reducible exact ih1 _ _ _)
      | (with_reducible exact ih2 _ _ _ _ _ _)
      | (with_reducible exact ih3 _ _ _ _ _ _ _ _ _)
      | (with_reducible exact ih4 _ _ _ _ _ _ _ _)
      | (with_reducible exact impl_SplitPathSmart.mono _ _ _)
      | (with_reducible exact laws_heLetters.mono _ _)
      | (with_reducible exact laws_heSame.mono _ _ _)
      | (with_reducible exact laws_zzFits4.mono _ _)
      | (with_reducible exact LeO.refl _)
      | (with_reducible exact LeO.none _)
      | (with_reducible refine LeO.ite ?_ ?_)
      | (with_reducible refine LeO.bind ?_ (fun _ => ?_))
      | exact ih0 _ _ _
      | exact ih1 _ _ _
      | exact ih2 _ _ _ _ _ _
      | exact ih3 _ _ _ _ _ _ _ _ _
      | exact ih4 _ _ _ _ _ _ _ _
      | exact impl_SplitPathSmart.mono _ _ _
      | exact laws_heLetters.mono _ _
      | exact laws_heSame.mono _ _ _
      | exact laws_zzFits4.mono _ _
      | exact LeO.none _
      | refine LeO.ite ?_ ?_
      | refine LeO.bind ?_ (fun _ => ?_)
    · intro y0 y1 y2 y3 y4 y5 y6 y7
      unfold laws_FnPathSmart.j4
      repeat' first
      | (with_reducible exact ih0 _ _ _)
      | (with_reducible exact ih1 _ _ _)
      | (with_reducible exact ih2 _ _ _ _ _ _)
      | (with_reducible exact ih3 _ _ _ _ _ _ _ _ _)
      | (with_reducible exact ih4 _ _ _ _ _ _ _ _)
      | (with_reducible exact impl_SplitPathSmart.mono _ _ _)
      | (with_reducible exact laws_heLetters.mono _ _)
      | (with_reducible exact laws_heSame.mono _ _ _)
      | (with_reducible exact laws_zzFits4.mono _ _)
      | (with_reducible exact LeO.refl _)
      | (with_reducible exact LeO.none _)
      | (with_reducible refine LeO.ite ?_ ?_)
      | (with_reducible refine LeO.bind ?_ (fun _ => ?_))
      | exact ih0 _ _ _
      | exact ih1 _ _ _
      | exact ih2 _ _ _ _ _ _
      | exact ih3 _ _ _ _ _ _ _ _ _
      | exact ih4 _ _ _ _ _ _ _ _
      | exact impl_SplitPathSmart.mono _ _ _
      | exact laws_heLetters.mono _ _
      | exact laws_heSame.mono _ _ _
      | exact laws_zzFits4.mono _ _
      | exact LeO.none _
      | refine LeO.ite ?_ ?_
      | refine LeO.bind ?_ (fun _ => ?_)
theorem laws_FnPathSmart.mono : ∀ a0 a1 k, LeO (laws_FnPathSmart.f k a0 a1) (laws_FnPathSmart.f (k + 1) a0 a1) := by
  intro a0 a1 k
  obtain ⟨ih0, ih1, ih2, ih3, ih4⟩ := laws_FnPathSmart.mono_l k
  unfold laws_FnPathSmart.f
  repeat' first
      | (with_reducible exact ih0 _ _ _)
      | (with_reducible exact ih1 _ _ _)
      | (with_reducible exact ih2 _ _ _ _ _ _)
      | (with_reducible exact ih3 _ _ _ _ _ _ _ _ _)
      | (with_reducible exact ih4 _ _ _ _ _ _ _ _)
      | (with_reducible exact impl_SplitPathSmart.mono _ _ _)
      | (with_reducible exact laws_heLetters.mono _ _)
      | (with_reducible exact laws_heSame.mono _ _ _)
      | (with_reducible exact laws_zzFits4.mono _ _)
      | (with_reducible exact LeO.refl _)
      | (with_reducible exact LeO.none _)
      | (with_reducible refine LeO.ite ?_ ?_)
      | (with_reducible refine LeO.bind ?_ (fun _ => ?_))
      | exact ih0 _ _ _
      | exact ih1 _ _ _
      | exact ih2 _ _ _ _ _ _
      | exact ih3 _ _ _ _ _ _ _ _ _
      | exact ih4 _ _ _ _ _ _ _ _
      | exact impl_SplitPathSmart.mono _ _ _
      | exact laws_heLetters.mono _ _
      | exact laws_heSame.mono _ _ _
      | exact laws_zzFits4.mono _ _
      | exact LeO.none _
      | refine LeO.ite ?_ ?_
      | refine LeO.bind ?_ (fun _ => ?_)
set_option maxHeartbeats 8000000 in
set_option maxRecDepth 100000 in
theorem laws_FnPathSmart.calls (k : Nat) (A0 : Option Addr) (c0 : Nat) (l0 : List ByteArray) (A1 : Option Addr) (c1 : Nat) (l1 : List Int) (r : Bool) (w : World) (hr0 : Kd.C Kd.string w A0 l0.length l0) (hc0 : l0.length ≤ c0) (hr1 : Kd.C (Kd.int .u8) w A1 l1.length l1) (hc1 : l1.length ≤ c1) (h : laws_FnPathSmart.f k l0 l1 = some r) :
    Calls Try.prog 5 #[.slice A0 l0.length c0, .slice A1 l1.length c1] w fun e w' => e = .returned (.bool r) ∧ Below w.heap.size w w' := by
  have HR0 := Aside0.mk hr0
  have HC0 := Aside0.mk hc0
  clear hr0 hc0
  have HR1 := Aside0.mk hr1
  have HC1 := Aside0.mk hc1
  clear hr1 hc1
  have HB := Aside0.mk (Below.refl w.heap.size w)
  have H : ((laws_zzFits4.f k l0).bind fun t142 => (if t142 = true then (laws_FnPathSmart.j0 k l0 l1 (decide ((l1.length : Int) > 2147483647))) else (laws_FnPathSmart.j0 k l0 l1 true))) = some r := h
  clear h
  have HC3 := Aside0.mk H
  clear H
  go_enter Try.func5, Try.ntmps5
  go_upto_region 1 with (fail)
  go_cut [17] (fun v17 wc => ∃ (kq : Nat) (x17_2 : Bool), v17 = .bool x17_2 ∧ Aside0 (laws_FnPathSmart.j0 kq l0 l1 x17_2 = some r) ∧ Aside0 (kq ≤ k) ∧ Aside0 (Below w.heap.size w wc))
  case first =>
    have H := HC3.out
    clear HC3
    replace H := Option.bind_eq_some_iff.mp H
    obtain ⟨t142, A40, H⟩ := H
    replace H : (if t142 = true then (laws_FnPathSmart.j0 k l0 l1 (decide ((l1.length : Int) > 2147483647))) else (laws_FnPathSmart.j0 k l0 l1 true)) = some r := H
    have A4 := Aside0.mk A40
    clear A40
    by_cases c5 : t142 = true
    · subst c5
      have H1 : (laws_FnPathSmart.j0 k l0 l1 (decide ((l1.length : Int) > 2147483647))) = some r := by rw [if_pos rfl] at H; exact H
      clear H
      have H := H1
      clear H1
      have H' := Aside0.mk H
      clear H
      go_wp2_with (first | ((with_reducible refine gate_callee (f := 6) rfl ?_); refine goesL_ (some 11) rfl rfl Try.func6 (by kernel_rfl) rfl #[.slice A0 l0.length c0] rfl (by (try simp only [List.map_toArray, List.map_cons, List.map_nil]); first | done | rfl | (simp only [List.length_drop, List.length_take]; rfl)) ?_; (with_reducible refine (laws_zzFits4.calls k _ _ l0 true _ ?side1 ?side2 A4.out).mono ?_); (case side1 => repeat (first | exact (Kd.C_below HR0.out HB.out) | (with_reducible refine Kd.C_alloc ?_ _) | (with_reducible refine Kd.C_drewN ?_ _) | (with_reducible refine Kd.C_drew ?_))); (case side2 => exact HC0.out); rintro e w' ⟨rfl, ⟨nd, rfl⟩⟩; refine ⟨_, rfl, ?_⟩))
      go_meet
      case rel => exact ⟨_, (decide ((l1.length : Int) > 2147483647)), (by first | rfl | (simp; done) | (simp [*]; done)), H', ⟨by first | omega | exact Nat.le_refl _⟩, ⟨by repeat (first | (with_reducible first | exact HB.out | apply below_alloc | apply pw_below_drewN | apply below_drew1) | exact HB.out)⟩⟩
    · replace c5 := Bool.eq_false_iff.mpr c5
      subst c5
      have H1 : (laws_FnPathSmart.j0 k l0 l1 true) = some r := by rw [if_neg (show ¬ (false = true) by decide)] at H; exact H
      clear H
      have H := H1
      clear H1
      have H' := Aside0.mk H
      clear H
      go_wp2_with (first | ((with_reducible refine gate_callee (f := 6) rfl ?_); refine goesL_ (some 11) rfl rfl Try.func6 (by kernel_rfl) rfl #[.slice A0 l0.length c0] rfl (by (try simp only [List.map_toArray, List.map_cons, List.map_nil]); first | done | rfl | (simp only [List.length_drop, List.length_take]; rfl)) ?_; (with_reducible refine (laws_zzFits4.calls k _ _ l0 false _ ?side1 ?side2 A4.out).mono ?_); (case side1 => repeat (first | exact (Kd.C_below HR0.out HB.out) | (with_reducible refine Kd.C_alloc ?_ _) | (with_reducible refine Kd.C_drewN ?_ _) | (with_reducible refine Kd.C_drew ?_))); (case side2 => exact HC0.out); rintro e w' ⟨rfl, ⟨nd, rfl⟩⟩; refine ⟨_, rfl, ?_⟩))
      go_meet
      case rel => exact ⟨_, (true), (by first | rfl | (simp; done) | (simp [*]; done)), H', ⟨by first | omega | exact Nat.le_refl _⟩, ⟨by repeat (first | (with_reducible first | exact HB.out | apply below_alloc | apply pw_below_drewN | apply below_drew1) | exact HB.out)⟩⟩
  case rest =>
    clear HC3
    try clear c1
    try clear p2
    try clear c5
    obtain ⟨kq, x17_2, rfl, HA, HJ2, HB⟩ := hcut
    cases kq with
    | zero => exact absurd HA.out (by simp [laws_FnPathSmart.j0])
    | succ kj2 =>
      have H := HA.out
      clear HA
      simp only [laws_FnPathSmart.j0] at H
      by_cases c6 : x17_2 = true
      · subst c6
        have H1 : (some true) = some r := by rw [if_pos rfl] at H; exact H
        clear H
        have H := H1
        clear H1
        obtain rfl := Option.some.inj H
        go_wp2
        go_ret
        exact ⟨by first | rfl | (simp [errW_none, errW_some] <;> rfl) | (simp [*, errW_none, errW_some] <;> rfl), by repeat (first | (with_reducible first | exact HB.out | apply below_alloc | apply pw_below_drewN | apply below_drew1) | exact HB.out)⟩
      · replace c6 := Bool.eq_false_iff.mpr c6
        subst c6
        have H1 : (if (l0.length : Int) = 0 then (laws_FnPathSmart.j1 kj2 l0 l1 true) else (laws_FnPathSmart.j1 kj2 l0 l1 (decide ((l0.length : Int) > 8)))) = some r := by rw [if_neg (show ¬ (false = true) by decide)] at H; exact H
        clear H
        have H := H1
        clear H1
        have HC7 := Aside0.mk H
        clear H
        go_upto_region 3 with (fail)
        go_cut [25] (fun v25 wc => ∃ (kq : Nat) (x25_6 : Bool), v25 = .bool x25_6 ∧ Aside0 (laws_FnPathSmart.j1 kq l0 l1 x25_6 = some r) ∧ Aside0 (kq ≤ kj2) ∧ Aside0 (Below w.heap.size w wc))
        case first =>
          have H := HC7.out
          clear HC7
          by_cases c8 : (l0.length : Int) = 0
          · rw [if_pos c8] at H
            have c8b0 : ((l0.length : Int) == 0) = true := beq_iff_eq.mpr c8
            have c8b1 : ((l0.length : Int) != 0) = false := bne_eq_false_iff_eq.mpr c8
            clear c8
            (first | rw [c8b0] | (simp only [i64_w, i32_w]; rw [c8b0]) | skip)
            have H' := Aside0.mk H
            clear H
            go_wp2
            go_meet
            case rel => exact ⟨_, (true), (by first | rfl | (simp; done) | (simp [*]; done)), H', ⟨by have := HJ2.out; first | omega | exact Nat.le_refl _⟩, ⟨by repeat (first | (with_reducible first | exact HB.out | apply below_alloc | apply pw_below_drewN | apply below_drew1) | exact HB.out)⟩⟩
          · rw [if_neg c8] at H
            have c8b0 : ((l0.length : Int) == 0) = false := beq_eq_false_iff_ne.mpr c8
            have c8b1 : ((l0.length : Int) != 0) = true := bne_iff_ne.mpr c8
            have c8b2 : ¬ (l0 = []) := fun h_ => c8 (by rw [h_]; rfl)
            (first | rw [c8b0] | (simp only [i64_w, i32_w]; rw [c8b0]) | skip)
            have H' := Aside0.mk H
            clear H
            go_wp2
            go_meet
            case rel => exact ⟨_, (decide ((l0.length : Int) > 8)), (by first | rfl | (simp; done) | (simp [*]; done)), H', ⟨by have := HJ2.out; first | omega | exact Nat.le_refl _⟩, ⟨by repeat (first | (with_reducible first | exact HB.out | apply below_alloc | apply pw_below_drewN | apply below_drew1) | exact HB.out)⟩⟩
        case rest =>
          clear HC7
          try clear c1
          try clear p2
          try clear c5
          try clear c6
          try clear c8
          try clear c8b0
          try clear c8b1
          try clear c8b2
          try clear p2
          obtain ⟨kq, x25_6, rfl, HA, HJ6, HB⟩ := hcut
          cases kq with
          | zero => exact absurd HA.out (by simp [laws_FnPathSmart.j1])
          | succ kj6 =>
            have H := HA.out
            clear HA
            simp only [laws_FnPathSmart.j1] at H
            by_cases c9 : x25_6 = true
            · subst c9
              have H1 : (some true) = some r := by rw [if_pos rfl] at H; exact H
              clear H
              have H := H1
              clear H1
              obtain rfl := Option.some.inj H
              go_wp2
              go_ret
              exact ⟨by first | rfl | (simp [errW_none, errW_some] <;> rfl) | (simp [*, errW_none, errW_some] <;> rfl), by repeat (first | (with_reducible first | exact HB.out | apply below_alloc | apply pw_below_drewN | apply below_drew1) | exact HB.out)⟩
            · replace c9 := Bool.eq_false_iff.mpr c9
              subst c9
              have H1 : (laws_FnPathSmart.l0 kj6 l1 (⟨#[]⟩ : ByteArray) ([] : List ByteArray) l0 (l0.length : Int) 0) = some r := by rw [if_neg (show ¬ (false = true) by decide)] at H; exact H
              clear H
              have H := H1
              clear H1
              have H' := Aside0.mk H
              clear H
              go_wp2
              go_loopg [5, 6, 28] kj6 (fun kq v5 v6 v28 w' => ∃ (x5_3 : ByteArray) (x6_3 : List ByteArray) (x28_3 : Int), v5 = .string x5_3 ∧ v28 = .int .i64 x28_3 ∧ Aside0 (laws_FnPathSmart.l0 kq l1 x5_3 x6_3 l0 (l0.length : Int) x28_3 = some r) ∧ Aside0 (kq ≤ kj6) ∧ Aside0 (Kd.R Kd.string 9 w' w.heap.size (fun _ => True) v6 x6_3) ∧ Aside0 (Below w.heap.size w w'))
              case atStart => exact ⟨((⟨#[]⟩ : ByteArray)), (([] : List ByteArray)), (0), (by first | rfl | (simp; done) | (simp [*]; done)), (by first | rfl | (simp; done) | (simp [*]; done)), H', ⟨Nat.le_refl _⟩, ⟨by first | exact Kd.R_nil _ _ _ _ _ | exact Kd.N_nil _ _ _ _ _ | exact Kd.V_nil _ _ _ _ _ | exact Kd.Q_nil _ _ _ _ _ | exact Kd.S_nil _ _ _ _ _⟩, ⟨by repeat (first | (with_reducible first | exact HB.out | apply below_alloc | apply pw_below_drewN | apply below_drew1) | exact HB.out)⟩⟩
              case round =>
                clear H'
                try clear c1
                try clear p2
                try clear c5
                try clear c6
                try clear c8
                try clear c8b0
                try clear c8b1
                try clear c8b2
                try clear c9
                try clear p2
                obtain ⟨x5_3, x6_3, x28_3, rfl, rfl, HA, HK3, HO_6, HB⟩ := hrel
                cases gk with
                | zero => exact absurd HA.out (by simp [laws_FnPathSmart.l0])
                | succ k3 =>
                  have H := HA.out
                  clear HA
                  simp only [laws_FnPathSmart.l0] at H
                  by_cases c10 : x28_3 < (l0.length : Int)
                  · rw [if_pos c10] at H
                    have c10b0 : decide (x28_3 < (l0.length : Int)) = true := decide_eq_true c10
                    clear c10
                    by_cases c11 : 0 ≤ x28_3
                    · rw [if_pos c11] at H
                      have c11b0 : decide (0 ≤ x28_3) = true := decide_eq_true c11
                      clear c11
                      by_cases c12 : x28_3 < (l0.length : Int)
                      · rw [if_pos c12] at H
                        have c12b0 : decide (x28_3 < (l0.length : Int)) = true := decide_eq_true c12
                        clear c12
                        replace H := Option.bind_eq_some_iff.mp H
                        obtain ⟨t148, A130, H⟩ := H
                        replace H : (if x28_3 < (l1.length : Int) then (laws_FnPathSmart.j3 k3 l1 x5_3 x6_3 x28_3 t148 (Int.tmod (rd l1 x28_3) 3) l0 (l0.length : Int) x28_3) else (laws_FnPathSmart.j3 k3 l1 x5_3 x6_3 x28_3 t148 0 l0 (l0.length : Int) x28_3)) = some r := H
                        have A13 := Aside0.mk A130
                        clear A130
                        have HC14 := Aside0.mk H
                        clear H
                        have p147 : 0 ≤ (x28_3 : Int) := of_decide_eq_true (by first | (with_reducible assumption) | assumption)
                        have q147 : x28_3 < (l0.length : Int) := of_decide_eq_true (by first | (with_reducible assumption) | assumption)
                        obtain ⟨ad147, e147, hx147_0⟩ := Kd.at_string HR0.out x28_3 p147 q147
                        cases e147
                        replace hx147_0 := (HB.out.cell (World.block_lt_of_cell? w _ hx147_0)).trans hx147_0
                        replace p147 := eq_true p147
                        replace q147 := eq_true q147
                        go_upto_if 38 with (first | ((with_reducible refine gate_callee (f := 13) rfl ?_); refine goesL_ (some 34) rfl rfl Try.func13 (by kernel_rfl) rfl #[.string (rdOf ByteArray.empty l0 x28_3)] rfl (by (try simp only [List.map_toArray, List.map_cons, List.map_nil]); first | done | rfl | (simp only [List.length_drop, List.length_take]; rfl)) ?_; (with_reducible refine (laws_heLetters.calls k3 (rdOf ByteArray.empty l0 x28_3) t148 _ A13.out).mono ?_); rintro e w15 ⟨rfl, hb⟩; refine ⟨_, rfl, ?_⟩; have n0_ := Aside0.mk (Kd.R_below (by (with_reducible repeat (first | apply Kd.R_alloc | apply Kd.R_drewN | apply Kd.R_drew)); exact HO_6.out) hb); have n1_ := Aside0.mk (below_step (by repeat (first | (with_reducible first | exact HB.out | apply below_alloc | apply pw_below_drewN | apply below_drew1) | exact HB.out)) hb); clear HO_6; clear HB; have HO_6 := n0_; have HB := n1_; clear n0_ n1_; (try clear hb); (try clear hb2); (try clear hk); (try clear hi)))
                        (try simp only [Act.put, List.setIfInBounds_toArray, List.set_cons_zero, List.set_cons_succ])
                        go_cut [9] (fun v9 wc => ∃ (kq : Nat) (x9_13 : Int), v9 = .int .u8 x9_13 ∧ Aside0 (laws_FnPathSmart.j3 kq l1 x5_3 x6_3 x28_3 t148 x9_13 l0 (l0.length : Int) x28_3 = some r) ∧ Aside0 (kq ≤ k3) ∧ Aside0 (Kd.R Kd.string 9 wc w.heap.size (fun _ => True) u6 x6_3) ∧ Aside0 (Below w.heap.size w wc))
                        case first =>
                          have H := HC14.out
                          clear HC14
                          by_cases c16 : x28_3 < (l1.length : Int)
                          · rw [if_pos c16] at H
                            have c16b0 : decide (x28_3 < (l1.length : Int)) = true := decide_eq_true c16
                            clear c16
                            (first | rw [c16b0] | (simp only [i64_w, i32_w]; rw [c16b0]) | skip)
                            have H' := Aside0.mk H
                            clear H
                            have p149 : 0 ≤ (x28_3 : Int) := of_decide_eq_true (by first | (with_reducible assumption) | assumption)
                            have q149 : x28_3 < (l1.length : Int) := of_decide_eq_true (by first | (with_reducible assumption) | assumption)
                            obtain ⟨ad149, e149, hx149_0⟩ := Kd.at_int HR1.out x28_3 p149 q149
                            cases e149
                            replace hx149_0 := (HB.out.cell (World.block_lt_of_cell? w _ hx149_0)).trans hx149_0
                            replace p149 := eq_true p149
                            replace q149 := eq_true q149
                            go_wp2
                            go_meet
                            case rel => exact ⟨_, (Int.tmod (rd l1 x28_3) 3), (by first | rfl | (simp; done) | (simp [*]; done)), H', ⟨by have := HJ2.out; have := HJ6.out; have := HK3.out; first | omega | exact Nat.le_refl _⟩, ⟨by (with_reducible repeat (first | apply Kd.R_alloc | apply Kd.R_drewN | apply Kd.R_drew)); exact HO_6.out⟩, ⟨by repeat (first | (with_reducible first | exact HB.out | apply below_alloc | apply pw_below_drewN | apply below_drew1) | exact HB.out)⟩⟩
                          · rw [if_neg c16] at H
                            have c16b0 : decide (x28_3 < (l1.length : Int)) = false := decide_eq_false c16
                            clear c16
                            (first | rw [c16b0] | (simp only [i64_w, i32_w]; rw [c16b0]) | skip)
                            have H' := Aside0.mk H
                            clear H
                            go_wp2
                            go_meet
                            case rel => exact ⟨_, (0), (by first | rfl | (simp; done) | (simp [*]; done)), H', ⟨by have := HJ2.out; have := HJ6.out; have := HK3.out; first | omega | exact Nat.le_refl _⟩, ⟨by (with_reducible repeat (first | apply Kd.R_alloc | apply Kd.R_drewN | apply Kd.R_drew)); exact HO_6.out⟩, ⟨by repeat (first | (with_reducible first | exact HB.out | apply below_alloc | apply pw_below_drewN | apply below_drew1) | exact HB.out)⟩⟩
                        case rest =>
                          clear HC14
                          try clear c1
                          try clear p1
                          try clear q1
                          try clear hx1
                          try clear p2
                          try clear c5
                          try clear c6
                          try clear c8
                          try clear c8b0
                          try clear c8b1
                          try clear c8b2
                          try clear c9
                          try clear c10
                          try clear c10b0
                          try clear c11
                          try clear c11b0
                          try clear c12
                          try clear c12b0
                          try clear c13
                          try clear p14
                          try clear q14
                          try clear hx14
                          try clear c16
                          try clear c16b0
                          try clear hx147_0
                          try clear hx149_0
                          try clear p147
                          try clear p149
                          try clear p2
                          try clear q147
                          try clear q149
                          obtain ⟨kq, x9_13, rfl, HA, HJ13, HO_6, HB⟩ := hcut
                          cases kq with
                          | zero => exact absurd HA.out (by simp [laws_FnPathSmart.j3])
                          | succ kj13 =>
                            have H := HA.out
                            clear HA
                            simp only [laws_FnPathSmart.j3] at H
                            have HC17 := Aside0.mk H
                            clear H
                            go_upto_if 45 with (fail)
                            go_cut [5] (fun v5 wc => ∃ (kq : Nat) (x5_16 : ByteArray), v5 = .string x5_16 ∧ Aside0 (laws_FnPathSmart.j4 kq l1 x5_16 x6_3 t148 x9_13 l0 (l0.length : Int) x28_3 = some r) ∧ Aside0 (kq ≤ kj13) ∧ Aside0 (Kd.R Kd.string 9 wc w.heap.size (fun _ => True) u6 x6_3) ∧ Aside0 (Below w.heap.size w wc))
                            case first =>
                              have H := HC17.out
                              clear HC17
                              by_cases c18 : x28_3 > 0
                              · rw [if_pos c18] at H
                                have c18b0 : decide (0 < x28_3) = true := decide_eq_true c18
                                clear c18
                                (first | rw [c18b0] | (simp only [i64_w, i32_w]; rw [c18b0]) | skip)
                                by_cases c19 : x5_3.size + 1 ≤ 9223372036854775807
                                · rw [if_pos c19] at H
                                  have c19b0 := eq_true c19
                                  have c19b1 : decide (x5_3.size + 1 ≤ 9223372036854775807) = true := decide_eq_true c19
                                  try have c19b2 : (9223372036854775807 < x5_3.size + 1) = False := eq_false (Nat.not_lt.2 c19)
                                  have H' := Aside0.mk H
                                  clear H
                                  go_wp2
                                  go_meet
                                  case rel => exact ⟨_, (x5_3 ++ (⟨#[46]⟩ : ByteArray)), (by first | rfl | (simp; done) | (simp [*]; done)), H', ⟨by have := HJ2.out; have := HJ6.out; have := HK3.out; have := HJ13.out; first | omega | exact Nat.le_refl _⟩, ⟨by (with_reducible repeat (first | apply Kd.R_alloc | apply Kd.R_drewN | apply Kd.R_drew)); exact HO_6.out⟩, ⟨by repeat (first | (with_reducible first | exact HB.out | apply below_alloc | apply pw_below_drewN | apply below_drew1) | exact HB.out)⟩⟩
                                · rw [if_neg c19] at H
                                  exact absurd H (by simp)
                              · rw [if_neg c18] at H
                                have c18b0 : decide (0 < x28_3) = false := decide_eq_false c18
                                clear c18
                                (first | rw [c18b0] | (simp only [i64_w, i32_w]; rw [c18b0]) | skip)
                                have H' := Aside0.mk H
                                clear H
                                go_wp2
                                go_meet
                                case rel => exact ⟨_, (x5_3), (by first | rfl | (simp; done) | (simp [*]; done)), H', ⟨by have := HJ2.out; have := HJ6.out; have := HK3.out; have := HJ13.out; first | omega | exact Nat.le_refl _⟩, ⟨by (with_reducible repeat (first | apply Kd.R_alloc | apply Kd.R_drewN | apply Kd.R_drew)); exact HO_6.out⟩, ⟨by repeat (first | (with_reducible first | exact HB.out | apply below_alloc | apply pw_below_drewN | apply below_drew1) | exact HB.out)⟩⟩
                            case rest =>
                              clear HC17
                              try clear c1
                              try clear p1
                              try clear q1
                              try clear hx1
                              try clear p2
                              try clear c5
                              try clear c6
                              try clear c8
                              try clear c8b0
                              try clear c8b1
                              try clear c8b2
                              try clear c9
                              try clear c10
                              try clear c10b0
                              try clear c11
                              try clear c11b0
                              try clear c12
                              try clear c12b0
                              try clear c13
                              try clear p14
                              try clear q14
                              try clear hx14
                              try clear c16
                              try clear c16b0
                              try clear c18
                              try clear c18b0
                              try clear c19
                              try clear c19b0
                              try clear c19b1
                              try clear c19b2
                              try clear hx147_0
                              try clear hx149_0
                              try clear p1
                              try clear p14
                              try clear p147
                              try clear p149
                              try clear p2
                              try clear q1
                              try clear q14
                              try clear q147
                              try clear q149
                              obtain ⟨kq, x5_16, rfl, HA, HJ16, HO_6, HB⟩ := hcut
                              cases kq with
                              | zero => exact absurd HA.out (by simp [laws_FnPathSmart.j4])
                              | succ kj16 =>
                                have H := HA.out
                                clear HA
                                simp only [laws_FnPathSmart.j4] at H
                                by_cases c20 : x9_13 = 0
                                · rw [if_pos c20] at H
                                  have c20b0 : (x9_13 == 0) = true := beq_iff_eq.mpr c20
                                  have c20b1 : (x9_13 != 0) = false := bne_eq_false_iff_eq.mpr c20
                                  clear c20
                                  by_cases c21 : x5_16.size + t148.size ≤ 9223372036854775807
                                  · rw [if_pos c21] at H
                                    have c21b0 := eq_true c21
                                    have c21b1 : decide (x5_16.size + t148.size ≤ 9223372036854775807) = true := decide_eq_true c21
                                    try have c21b2 : (9223372036854775807 < x5_16.size + t148.size) = False := eq_false (Nat.not_lt.2 c21)
                                    by_cases c22 : x6_3.length < 8796093022208
                                    · rw [if_pos c22] at H
                                      have LMc22 := Aside0.mk c22
                                      clear c22
                                      obtain ⟨y150, hy150⟩ : ∃ y_ : List ByteArray, y_ = (x6_3 ++ [t148]) := ⟨_, rfl⟩
                                      replace H : (laws_FnPathSmart.l0 kj16 l1 (x5_16 ++ t148) y150 l0 (l0.length : Int) (wrap64 (x28_3 + 1))) = some r := by first | (rw [hy150]; with_reducible exact H) | (have H2_ := (Option.bind_some _ _).symm.trans H; rw [hy150]; with_reducible exact H2_) | (have H2_ := (Option.bind_some _ _).symm.trans H; with_reducible exact H2_) | with_reducible exact H | (rw [hy150]; exact H) | exact H
                                      have Ny150 := Aside0.mk hy150
                                      clear hy150
                                      have H' := Aside0.mk H
                                      clear H
                                      go_wp2_with (first | ((with_reducible refine gate_builtin (b := .append) (xs := #[.tmp 65, .tmp 67]) rfl ?_); (try (refine gate_guard (by rfl) ?_; dsimp only)); at_builtin; refine Kd.R_append Kd.string (w0 := w) w.heap.size rfl (.tmp 65) (.tmp 67) 22 9 (.string ⟨#[]⟩) 16 rfl Try.underlying22 info9 rfl (by decide) (by omega) u6 x6_3 t148 [.string t148] (fun _ => True) (fun _ => False) rfl rfl ?aP (fun _ hk => hk.elim) ?aF ?aO ?aB ?aS ?aL ?_; (case aP => exact rfl); (case aB => exact (by repeat (first | (with_reducible first | exact HB.out | apply below_alloc | apply pw_below_drewN | apply below_drew1) | exact HB.out))); (case aF => exact (fun _ _ => trivial)); (case aO => exact (by (with_reducible repeat (first | apply Kd.R_alloc | apply Kd.R_drewN | apply Kd.R_drew)); exact HO_6.out)); (case aS => exact (below_size (by repeat (first | (with_reducible first | exact HB.out | apply below_alloc | apply pw_below_drewN | apply below_drew1) | exact HB.out)))); (case aL => have := LMc22.out; omega); intro v151 w23 ho hb hg hat; rw [← Ny150.out] at ho; have n0_ := Aside0.mk (hb); have n1_ := Aside0.mk (ho); clear HB; clear HO_6; have HB := n0_; have HO152 := n1_; clear n0_ n1_; clear ho hb hg hat))
                                      go_roundg kj16
                                      case measure => have := HJ2.out; have := HJ6.out; have := HK3.out; have := HJ13.out; have := HJ16.out; omega
                                      case rel => exact ⟨(x5_16 ++ t148), (y150), (wrap64 (x28_3 + 1)), (by first | rfl | (simp; done) | (simp [*]; done)), (by first | rfl | (simp; done) | (simp [*]; done)), H', ⟨by have := HJ2.out; have := HJ6.out; have := HK3.out; have := HJ13.out; have := HJ16.out; omega⟩, ⟨by (with_reducible repeat (first | apply Kd.R_alloc | apply Kd.R_drewN | apply Kd.R_drew)); exact HO152.out⟩, ⟨by repeat (first | (with_reducible first | exact HB.out | apply below_alloc | apply pw_below_drewN | apply below_drew1) | exact HB.out)⟩⟩
                                    · rw [if_neg c22] at H
                                      exact absurd H (by simp)
                                  · rw [if_neg c21] at H
                                    exact absurd H (by simp)
                                · rw [if_neg c20] at H
                                  have c20b0 : (x9_13 == 0) = false := beq_eq_false_iff_ne.mpr c20
                                  have c20b1 : (x9_13 != 0) = true := bne_iff_ne.mpr c20
                                  by_cases c24 : x9_13 = 1
                                  · rw [if_pos c24] at H
                                    have c24b0 : (x9_13 == 1) = true := beq_iff_eq.mpr c24
                                    have c24b1 : (x9_13 != 1) = false := bne_eq_false_iff_eq.mpr c24
                                    clear c24
                                    by_cases c25 : x5_16.size + 1 ≤ 9223372036854775807
                                    · rw [if_pos c25] at H
                                      have c25b0 := eq_true c25
                                      have c25b1 : decide (x5_16.size + 1 ≤ 9223372036854775807) = true := decide_eq_true c25
                                      try have c25b2 : (9223372036854775807 < x5_16.size + 1) = False := eq_false (Nat.not_lt.2 c25)
                                      by_cases c26 : (x5_16 ++ (⟨#[91]⟩ : ByteArray)).size + t148.size ≤ 9223372036854775807
                                      · rw [if_pos c26] at H
                                        have c26b0 := eq_true c26
                                        have c26b1 : decide ((x5_16 ++ (⟨#[91]⟩ : ByteArray)).size + t148.size ≤ 9223372036854775807) = true := decide_eq_true c26
                                        try have c26b2 : (9223372036854775807 < (x5_16 ++ (⟨#[91]⟩ : ByteArray)).size + t148.size) = False := eq_false (Nat.not_lt.2 c26)
                                        have c26b3 : (9223372036854775807 < x5_16.size + 1 + t148.size) = False := sz2 c26
                                        by_cases c27 : ((x5_16 ++ (⟨#[91]⟩ : ByteArray)) ++ t148).size + 5 ≤ 9223372036854775807
                                        · rw [if_pos c27] at H
                                          have c27b0 := eq_true c27
                                          have c27b1 : decide (((x5_16 ++ (⟨#[91]⟩ : ByteArray)) ++ t148).size + 5 ≤ 9223372036854775807) = true := decide_eq_true c27
                                          try have c27b2 : (9223372036854775807 < ((x5_16 ++ (⟨#[91]⟩ : ByteArray)) ++ t148).size + 5) = False := eq_false (Nat.not_lt.2 c27)
                                          have c27b3 : (9223372036854775807 < x5_16.size + 1 + t148.size + 5) = False := sz3 c27
                                          by_cases c28 : t148.size + 4 ≤ 9223372036854775807
                                          · rw [if_pos c28] at H
                                            have c28b0 := eq_true c28
                                            have c28b1 : decide (t148.size + 4 ≤ 9223372036854775807) = true := decide_eq_true c28
                                            try have c28b2 : (9223372036854775807 < t148.size + 4) = False := eq_false (Nat.not_lt.2 c28)
                                            by_cases c29 : x6_3.length < 8796093022208
                                            · rw [if_pos c29] at H
                                              have LMc29 := Aside0.mk c29
                                              clear c29
                                              obtain ⟨y153, hy153⟩ : ∃ y_ : List ByteArray, y_ = (x6_3 ++ [t148 ++ (⟨#[46, 97, 46, 98]⟩ : ByteArray)]) := ⟨_, rfl⟩
                                              replace H : (laws_FnPathSmart.l0 kj16 l1 (((x5_16 ++ (⟨#[91]⟩ : ByteArray)) ++ t148) ++ (⟨#[46, 97, 46, 98, 93]⟩ : ByteArray)) y153 l0 (l0.length : Int) (wrap64 (x28_3 + 1))) = some r := by first | (rw [hy153]; with_reducible exact H) | (have H2_ := (Option.bind_some _ _).symm.trans H; rw [hy153]; with_reducible exact H2_) | (have H2_ := (Option.bind_some _ _).symm.trans H; with_reducible exact H2_) | with_reducible exact H | (rw [hy153]; exact H) | exact H
                                              have Ny153 := Aside0.mk hy153
                                              clear hy153
                                              have H' := Aside0.mk H
                                              clear H
                                              go_wp2_with (first | ((with_reducible refine gate_builtin (b := .append) (xs := #[.tmp 76, .tmp 79]) rfl ?_); (try (refine gate_guard (by rfl) ?_; dsimp only)); at_builtin; refine Kd.R_append Kd.string (w0 := w) w.heap.size rfl (.tmp 76) (.tmp 79) 22 9 (.string ⟨#[]⟩) 16 rfl Try.underlying22 info9 rfl (by decide) (by omega) u6 x6_3 (t148 ++ (⟨#[46, 97, 46, 98]⟩ : ByteArray)) [.string (t148 ++ (⟨#[46, 97, 46, 98]⟩ : ByteArray))] (fun _ => True) (fun _ => False) rfl rfl ?aP (fun _ hk => hk.elim) ?aF ?aO ?aB ?aS ?aL ?_; (case aP => exact rfl); (case aB => exact (by repeat (first | (with_reducible first | exact HB.out | apply below_alloc | apply pw_below_drewN | apply below_drew1) | exact HB.out))); (case aF => exact (fun _ _ => trivial)); (case aO => exact (by (with_reducible repeat (first | apply Kd.R_alloc | apply Kd.R_drewN | apply Kd.R_drew)); exact HO_6.out)); (case aS => exact (below_size (by repeat (first | (with_reducible first | exact HB.out | apply below_alloc | apply pw_below_drewN | apply below_drew1) | exact HB.out)))); (case aL => have := LMc29.out; omega); intro v154 w30 ho hb hg hat; rw [← Ny153.out] at ho; have n0_ := Aside0.mk (hb); have n1_ := Aside0.mk (ho); clear HB; clear HO_6; have HB := n0_; have HO155 := n1_; clear n0_ n1_; clear ho hb hg hat))
                                              go_roundg kj16
                                              case measure => have := HJ2.out; have := HJ6.out; have := HK3.out; have := HJ13.out; have := HJ16.out; omega
                                              case rel => exact ⟨(((x5_16 ++ (⟨#[91]⟩ : ByteArray)) ++ t148) ++ (⟨#[46, 97, 46, 98, 93]⟩ : ByteArray)), (y153), (wrap64 (x28_3 + 1)), (by first | rfl | (simp; done) | (simp [*]; done)), (by first | rfl | (simp; done) | (simp [*]; done)), H', ⟨by have := HJ2.out; have := HJ6.out; have := HK3.out; have := HJ13.out; have := HJ16.out; omega⟩, ⟨by (with_reducible repeat (first | apply Kd.R_alloc | apply Kd.R_drewN | apply Kd.R_drew)); exact HO155.out⟩, ⟨by repeat (first | (with_reducible first | exact HB.out | apply below_alloc | apply pw_below_drewN | apply below_drew1) | exact HB.out)⟩⟩
                                            · rw [if_neg c29] at H
                                              exact absurd H (by simp)
                                          · rw [if_neg c28] at H
                                            exact absurd H (by simp)
                                        · rw [if_neg c27] at H
                                          exact absurd H (by simp)
                                      · rw [if_neg c26] at H
                                        exact absurd H (by simp)
                                    · rw [if_neg c25] at H
                                      exact absurd H (by simp)
                                  · rw [if_neg c24] at H
                                    have c24b0 : (x9_13 == 1) = false := beq_eq_false_iff_ne.mpr c24
                                    have c24b1 : (x9_13 != 1) = true := bne_iff_ne.mpr c24
                                    by_cases c31 : x5_16.size + 6 ≤ 9223372036854775807
                                    · rw [if_pos c31] at H
                                      have c31b0 := eq_true c31
                                      have c31b1 : decide (x5_16.size + 6 ≤ 9223372036854775807) = true := decide_eq_true c31
                                      try have c31b2 : (9223372036854775807 < x5_16.size + 6) = False := eq_false (Nat.not_lt.2 c31)
                                      by_cases c32 : (x5_16 ++ (⟨#[91, 110, 97, 109, 101, 61]⟩ : ByteArray)).size + t148.size ≤ 9223372036854775807
                                      · rw [if_pos c32] at H
                                        have c32b0 := eq_true c32
                                        have c32b1 : decide ((x5_16 ++ (⟨#[91, 110, 97, 109, 101, 61]⟩ : ByteArray)).size + t148.size ≤ 9223372036854775807) = true := decide_eq_true c32
                                        try have c32b2 : (9223372036854775807 < (x5_16 ++ (⟨#[91, 110, 97, 109, 101, 61]⟩ : ByteArray)).size + t148.size) = False := eq_false (Nat.not_lt.2 c32)
                                        have c32b3 : (9223372036854775807 < x5_16.size + 6 + t148.size) = False := sz2 c32
                                        by_cases c33 : ((x5_16 ++ (⟨#[91, 110, 97, 109, 101, 61]⟩ : ByteArray)) ++ t148).size + 3 ≤ 9223372036854775807
                                        · rw [if_pos c33] at H
                                          have c33b0 := eq_true c33
                                          have c33b1 : decide (((x5_16 ++ (⟨#[91, 110, 97, 109, 101, 61]⟩ : ByteArray)) ++ t148).size + 3 ≤ 9223372036854775807) = true := decide_eq_true c33
                                          try have c33b2 : (9223372036854775807 < ((x5_16 ++ (⟨#[91, 110, 97, 109, 101, 61]⟩ : ByteArray)) ++ t148).size + 3) = False := eq_false (Nat.not_lt.2 c33)
                                          have c33b3 : (9223372036854775807 < x5_16.size + 6 + t148.size + 3) = False := sz3 c33
                                          by_cases c34 : 6 + t148.size ≤ 9223372036854775807
                                          · rw [if_pos c34] at H
                                            have c34b0 := eq_true c34
                                            have c34b1 : decide (6 + t148.size ≤ 9223372036854775807) = true := decide_eq_true c34
                                            try have c34b2 : (9223372036854775807 < 6 + t148.size) = False := eq_false (Nat.not_lt.2 c34)
                                            by_cases c35 : ((⟨#[91, 110, 97, 109, 101, 61]⟩ : ByteArray) ++ t148).size + 3 ≤ 9223372036854775807
                                            · rw [if_pos c35] at H
                                              have c35b0 := eq_true c35
                                              have c35b1 : decide (((⟨#[91, 110, 97, 109, 101, 61]⟩ : ByteArray) ++ t148).size + 3 ≤ 9223372036854775807) = true := decide_eq_true c35
                                              try have c35b2 : (9223372036854775807 < ((⟨#[91, 110, 97, 109, 101, 61]⟩ : ByteArray) ++ t148).size + 3) = False := eq_false (Nat.not_lt.2 c35)
                                              have c35b3 : (9223372036854775807 < 6 + t148.size + 3) = False := sz2 c35
                                              by_cases c36 : x6_3.length < 8796093022208
                                              · rw [if_pos c36] at H
                                                have LMc36 := Aside0.mk c36
                                                clear c36
                                                obtain ⟨y156, hy156⟩ : ∃ y_ : List ByteArray, y_ = (x6_3 ++ [((⟨#[91, 110, 97, 109, 101, 61]⟩ : ByteArray) ++ t148) ++ (⟨#[46, 99, 93]⟩ : ByteArray)]) := ⟨_, rfl⟩
                                                replace H : (laws_FnPathSmart.l0 kj16 l1 (((x5_16 ++ (⟨#[91, 110, 97, 109, 101, 61]⟩ : ByteArray)) ++ t148) ++ (⟨#[46, 99, 93]⟩ : ByteArray)) y156 l0 (l0.length : Int) (wrap64 (x28_3 + 1))) = some r := by first | (rw [hy156]; with_reducible exact H) | (have H2_ := (Option.bind_some _ _).symm.trans H; rw [hy156]; with_reducible exact H2_) | (have H2_ := (Option.bind_some _ _).symm.trans H; with_reducible exact H2_) | with_reducible exact H | (rw [hy156]; exact H) | exact H
                                                have Ny156 := Aside0.mk hy156
                                                clear hy156
                                                have H' := Aside0.mk H
                                                clear H
                                                go_wp2_with (first | ((with_reducible refine gate_builtin (b := .append) (xs := #[.tmp 54, .tmp 58]) rfl ?_); (try (refine gate_guard (by rfl) ?_; dsimp only)); at_builtin; refine Kd.R_append Kd.string (w0 := w) w.heap.size rfl (.tmp 54) (.tmp 58) 22 9 (.string ⟨#[]⟩) 16 rfl Try.underlying22 info9 rfl (by decide) (by omega) u6 x6_3 (((⟨#[91, 110, 97, 109, 101, 61]⟩ : ByteArray) ++ t148) ++ (⟨#[46, 99, 93]⟩ : ByteArray)) [.string (((⟨#[91, 110, 97, 109, 101, 61]⟩ : ByteArray) ++ t148) ++ (⟨#[46, 99, 93]⟩ : ByteArray))] (fun _ => True) (fun _ => False) rfl rfl ?aP (fun _ hk => hk.elim) ?aF ?aO ?aB ?aS ?aL ?_; (case aP => exact rfl); (case aB => exact (by repeat (first | (with_reducible first | exact HB.out | apply below_alloc | apply pw_below_drewN | apply below_drew1) | exact HB.out))); (case aF => exact (fun _ _ => trivial)); (case aO => exact (by (with_reducible repeat (first | apply Kd.R_alloc | apply Kd.R_drewN | apply Kd.R_drew)); exact HO_6.out)); (case aS => exact (below_size (by repeat (first | (with_reducible first | exact HB.out | apply below_alloc | apply pw_below_drewN | apply below_drew1) | exact HB.out)))); (case aL => have := LMc36.out; omega); intro v157 w37 ho hb hg hat; rw [← Ny156.out] at ho; have n0_ := Aside0.mk (hb); have n1_ := Aside0.mk (ho); clear HB; clear HO_6; have HB := n0_; have HO158 := n1_; clear n0_ n1_; clear ho hb hg hat))
                                                go_roundg kj16
                                                case measure => have := HJ2.out; have := HJ6.out; have := HK3.out; have := HJ13.out; have := HJ16.out; omega
                                                case rel => exact ⟨(((x5_16 ++ (⟨#[91, 110, 97, 109, 101, 61]⟩ : ByteArray)) ++ t148) ++ (⟨#[46, 99, 93]⟩ : ByteArray)), (y156), (wrap64 (x28_3 + 1)), (by first | rfl | (simp; done) | (simp [*]; done)), (by first | rfl | (simp; done) | (simp [*]; done)), H', ⟨by have := HJ2.out; have := HJ6.out; have := HK3.out; have := HJ13.out; have := HJ16.out; omega⟩, ⟨by (with_reducible repeat (first | apply Kd.R_alloc | apply Kd.R_drewN | apply Kd.R_drew)); exact HO158.out⟩, ⟨by repeat (first | (with_reducible first | exact HB.out | apply below_alloc | apply pw_below_drewN | apply below_drew1) | exact HB.out)⟩⟩
                                              · rw [if_neg c36] at H
                                                exact absurd H (by simp)
                                            · rw [if_neg c35] at H
                                              exact absurd H (by simp)
                                          · rw [if_neg c34] at H
                                            exact absurd H (by simp)
                                        · rw [if_neg c33] at H
                                          exact absurd H (by simp)
                                      · rw [if_neg c32] at H
                                        exact absurd H (by simp)
                                    · rw [if_neg c31] at H
                                      exact absurd H (by simp)
                      · rw [if_neg c12] at H
                        exact absurd H (by simp)
                    · rw [if_neg c11] at H
                      exact absurd H (by simp)
                  · rw [if_neg c10] at H
                    have c10b0 : decide (x28_3 < (l0.length : Int)) = false := decide_eq_false c10
                    clear c10
                    replace H := Option.bind_eq_some_iff.mp H
                    obtain ⟨t143, A380, H⟩ := H
                    replace H : ((laws_heSame.f k3 t143 x6_3).bind fun t146 => (some t146)) = some r := H
                    have A38 := Aside0.mk A380
                    clear A380
                    replace H := Option.bind_eq_some_iff.mp H
                    obtain ⟨t146, A390, H⟩ := H
                    replace H : (some t146) = some r := H
                    have A39 := Aside0.mk A390
                    clear A390
                    obtain rfl := Option.some.inj H
                    go_wp2_with (first | ((with_reducible refine gate_callee (f := 14) rfl ?_); refine goesL_ (some 83) rfl rfl Try.func14 (by kernel_rfl) rfl #[.string x5_3, .string (⟨#[46]⟩ : ByteArray)] rfl (by (try simp only [List.map_toArray, List.map_cons, List.map_nil]); first | done | rfl | (simp only [List.length_drop, List.length_take]; rfl)) ?_; (with_reducible refine (impl_SplitPathSmart.calls k3 x5_3 (⟨#[46]⟩ : ByteArray) t143 _ A38.out).mono ?_); rintro e w40 ⟨v144, rfl, ho0, hb⟩; refine ⟨_, rfl, ?_⟩; have n0_ := Aside0.mk (Kd.R_elder' (by (with_reducible repeat (first | apply Kd.R_alloc | apply Kd.R_drewN | apply Kd.R_drew)); exact HO_6.out) (Kd.R_base ho0) hb); have n1_ := Aside0.mk (Kd.R_lower (Kd.R_new' ho0 (Kd.R_lt (by (with_reducible repeat (first | apply Kd.R_alloc | apply Kd.R_drewN | apply Kd.R_drew)); exact HO_6.out))) (below_size (by repeat (first | (with_reducible first | exact HB.out | apply below_alloc | apply pw_below_drewN | apply below_drew1) | exact HB.out)))); have n2_ := Aside0.mk (below_step (by repeat (first | (with_reducible first | exact HB.out | apply below_alloc | apply pw_below_drewN | apply below_drew1) | exact HB.out)) hb); clear HO_6; clear HB; have HO_6 := n0_; have HO145 := n1_; have HB := n2_; clear n0_ n1_ n2_; (try clear hb); (try clear hb2); (try clear hk); (try clear hi); (try clear ho0); obtain ⟨Ao41, co41, eo41⟩ := Kd.R_slice HO145.out; subst eo41; obtain ⟨Ao42, co42, eo42⟩ := Kd.R_slice HO_6.out; subst eo42) | ((with_reducible refine gate_callee (f := 9) rfl ?_); refine goesL_ (some 85) rfl rfl Try.func9 (by kernel_rfl) rfl #[.slice Ao41 t143.length co41, .slice Ao42 x6_3.length co42] rfl (by (try simp only [List.map_toArray, List.map_cons, List.map_nil]); first | done | rfl | (simp only [List.length_drop, List.length_take]; rfl)) ?_; (with_reducible refine (laws_heSame.calls k3 _ _ t143 _ _ x6_3 t146 _ ?side1 ?side2 ?side3 ?side4 A39.out).mono ?_); (case side1 => repeat (first | exact (Kd.R_reads' HO145.out).2.2 | (with_reducible refine Kd.C_alloc ?_ _) | (with_reducible refine Kd.C_drewN ?_ _) | (with_reducible refine Kd.C_drew ?_))); (case side2 => exact (Kd.R_reads' HO145.out).2.1); (case side3 => repeat (first | exact (Kd.R_reads' HO_6.out).2.2 | (with_reducible refine Kd.C_alloc ?_ _) | (with_reducible refine Kd.C_drewN ?_ _) | (with_reducible refine Kd.C_drew ?_))); (case side4 => exact (Kd.R_reads' HO_6.out).2.1); rintro e w' ⟨rfl, ⟨nd, rfl⟩⟩; refine ⟨_, rfl, ?_⟩))
                    go_ret
                    exact ⟨by first | rfl | (simp [errW_none, errW_some] <;> rfl) | (simp [*, errW_none, errW_some] <;> rfl), by repeat (first | (with_reducible first | exact HB.out | apply below_alloc | apply pw_below_drewN | apply below_drew1) | exact HB.out)⟩

end Go.Proofs.Ytgdffbjkafbkcaa.GSmart
