-- Laid by a program of this session (stub.py)
import Derived.Test.YtfdgbgjbncakfaaGFnIdEqualx0
import Derived.Test.YtfdgbgjbncakfaaGFnIdEqualx1
namespace Go.Proofs.Ytfdgbgjbncakfaa.GFnIdEqual
open Go.RowKit Go.Proofs.YtfdgbgjbncakfaaW.PrintWords Go.Proofs.YtfdgbgjbncakfaaW.PrintLast Go.Proofs.YtfdgbgjbncakfaaW.PrintMore
attribute [local go_sem] max2_int min2_int max_two min_two max_three min_three max_four min_four   -- for this text's walks alone
set_option linter.unusedVariables false
set_option linter.unusedSimpArgs false

/-! ### laws_FnIdEqual: function 3 -/
mutual
def laws_FnIdEqual.j0 : Nat → Int → Bool → ByteArray → ByteArray → ByteArray → ByteArray → ByteArray → ByteArray → ByteArray → ByteArray → ByteArray → ByteArray → Option (Bool)
  | 0, _, _, _, _, _, _, _, _, _, _, _, _ => none
  | k + 1, x2, x23, x102000, x102001, x102002, x102003, x102004, x103000, x103001, x103002, x103003, x103004 => if x23 = true then (some true) else ((laws_kyId.f k x102000 x102001 x102002 x102003 x102004).bind fun bt105 => ((laws_kyId.f k x103000 x103001 x103002 x103003 x103004).bind fun bt110 => (if bt105.2.2.1.toList = ([] : List UInt8) then (laws_FnIdEqual.j1 k x2 bt105.1 bt105.2.1 (⟨#[90, 122]⟩ : ByteArray) bt105.2.2.2.1 bt105.2.2.2.2 bt110.1 bt110.2.1 bt110.2.2.1 bt110.2.2.2.1 bt110.2.2.2.2) else (laws_FnIdEqual.j1 k x2 bt105.1 bt105.2.1 bt105.2.2.1 bt105.2.2.2.1 bt105.2.2.2.2 bt110.1 bt110.2.1 bt110.2.2.1 bt110.2.2.2.1 bt110.2.2.2.2))))
def laws_FnIdEqual.j1 : Nat → Int → ByteArray → ByteArray → ByteArray → ByteArray → ByteArray → ByteArray → ByteArray → ByteArray → ByteArray → ByteArray → Option (Bool)
  | 0, _, _, _, _, _, _, _, _, _, _, _ => none
  | k + 1, x2, x102000, x102001, x102002, x102003, x102004, x103000, x103001, x103002, x103003, x103004 => if (Int.tmod x2 8) = 0 then (laws_FnIdEqual.j2 k x102000 x102001 x102002 x102003 x102004 x102000 x102001 x102002 x102003 x102004) else (if (Int.tmod x2 8) = 1 then (laws_FnIdEqual.j2 k x102000 x102001 x102002 x102003 x102004 x102000 x102001 x102002 x102003 (⟨#[]⟩ : ByteArray)) else (if (Int.tmod x2 8) = 2 then (laws_FnIdEqual.j2 k x102000 x102001 x102002 x102003 x102004 x102000 x102001 x102002 (⟨#[]⟩ : ByteArray) x102004) else (if (Int.tmod x2 8) = 3 then (laws_FnIdEqual.j2 k x102000 x102001 x102002 x102003 x102004 (⟨#[]⟩ : ByteArray) (⟨#[]⟩ : ByteArray) x102002 (⟨#[]⟩ : ByteArray) (⟨#[]⟩ : ByteArray)) else (if (Int.tmod x2 8) = 4 then (laws_FnIdEqual.j2 k x102000 x102001 x102002 x102003 (⟨#[100, 101, 102, 97, 117, 108, 116]⟩ : ByteArray) x102000 x102001 x102002 x102003 (⟨#[]⟩ : ByteArray)) else (laws_FnIdEqual.j2 k x102000 x102001 x102002 x102003 x102004 x103000 x103001 x103002 x103003 x103004)))))
def laws_FnIdEqual.j2 : Nat → ByteArray → ByteArray → ByteArray → ByteArray → ByteArray → ByteArray → ByteArray → ByteArray → ByteArray → ByteArray → Option (Bool)
  | 0, _, _, _, _, _, _, _, _, _, _ => none
  | k + 1, x102000, x102001, x102002, x102003, x102004, x103000, x103001, x103002, x103003, x103004 => if x103002.toList = ([] : List UInt8) then (laws_FnIdEqual.j3 k x102000 x102001 x102002 x102003 x102004 x103000 x103001 (⟨#[90, 122]⟩ : ByteArray) x103003 x103004) else (laws_FnIdEqual.j3 k x102000 x102001 x102002 x102003 x102004 x103000 x103001 x103002 x103003 x103004)
def laws_FnIdEqual.j3 : Nat → ByteArray → ByteArray → ByteArray → ByteArray → ByteArray → ByteArray → ByteArray → ByteArray → ByteArray → ByteArray → Option (Bool)
  | 0, _, _, _, _, _, _, _, _, _, _ => none
  | k + 1, x102000, x102001, x102002, x102003, x102004, x103000, x103001, x103002, x103003, x103004 => (impl_IdEqual.f x102000 x102001 x102002 x102003 x102004 x103000 x103001 x103002 x103003 x103004).bind fun bt115 => (if x102000.toList = x103000.toList then (if x102001.toList = x103001.toList then (if x102002.toList = x103002.toList then (laws_FnIdEqual.j4 k bt115.1 bt115.2.1 bt115.2.2 (x102003.toList == x103003.toList) x102000 x102001 x102002 x102003 x102004 x103000 x103001 x103002 x103003 x103004) else (laws_FnIdEqual.j4 k bt115.1 bt115.2.1 bt115.2.2 false x102000 x102001 x102002 x102003 x102004 x103000 x103001 x103002 x103003 x103004)) else (laws_FnIdEqual.j4 k bt115.1 bt115.2.1 bt115.2.2 false x102000 x102001 x102002 x102003 x102004 x103000 x103001 x103002 x103003 x103004)) else (laws_FnIdEqual.j4 k bt115.1 bt115.2.1 bt115.2.2 false x102000 x102001 x102002 x102003 x102004 x103000 x103001 x103002 x103003 x103004))
def laws_FnIdEqual.j4 : Nat → Bool → Bool → Bool → Bool → ByteArray → ByteArray → ByteArray → ByteArray → ByteArray → ByteArray → ByteArray → ByteArray → ByteArray → ByteArray → Option (Bool)
  | 0, _, _, _, _, _, _, _, _, _, _, _, _, _, _ => none
  | k + 1, x8, x9, x10, x11, x102000, x102001, x102002, x102003, x102004, x103000, x103001, x103002, x103003, x103004 => (spec_KySelected.f x102000 x102001 x102002 x102003 x102004 x103000 x103001 x103002 x103003 x103004).bind fun t118 => (if t118 = true then (if x103003.toList = ([] : List UInt8) then (if x103004.toList = ([] : List UInt8) then (laws_FnIdEqual.j5 k x8 x9 x10 x11 true x102000 x102001 x102002 x102003 x102004 x103000 x103001 x103002 x103003 x103004) else ((laws_FnIdEqual_1.f x103000 x103001 x103002 x103003 x103004).bind fun t119 => ((laws_FnIdEqual_1.f x102000 x102001 x102002 x102003 x102004).bind fun t120 => (laws_FnIdEqual.j5 k x8 x9 x10 x11 (t119.toList == t120.toList) x102000 x102001 x102002 x102003 x102004 x103000 x103001 x103002 x103003 x103004)))) else (if x103003.toList = x102003.toList then (if x103004.toList = ([] : List UInt8) then (laws_FnIdEqual.j5 k x8 x9 x10 x11 true x102000 x102001 x102002 x102003 x102004 x103000 x103001 x103002 x103003 x103004) else ((laws_FnIdEqual_1.f x103000 x103001 x103002 x103003 x103004).bind fun t121 => ((laws_FnIdEqual_1.f x102000 x102001 x102002 x102003 x102004).bind fun t122 => (laws_FnIdEqual.j5 k x8 x9 x10 x11 (t121.toList == t122.toList) x102000 x102001 x102002 x102003 x102004 x103000 x103001 x103002 x103003 x103004)))) else (laws_FnIdEqual.j5 k x8 x9 x10 x11 false x102000 x102001 x102002 x102003 x102004 x103000 x103001 x103002 x103003 x103004))) else (laws_FnIdEqual.j5 k x8 x9 x10 x11 false x102000 x102001 x102002 x102003 x102004 x103000 x103001 x103002 x103003 x103004))
def laws_FnIdEqual.j5 : Nat → Bool → Bool → Bool → Bool → Bool → ByteArray → ByteArray → ByteArray → ByteArray → ByteArray → ByteArray → ByteArray → ByteArray → ByteArray → ByteArray → Option (Bool)
  | 0, _, _, _, _, _, _, _, _, _, _, _, _, _, _, _ => none
  | k + 1, x8, x9, x10, x11, x12, x102000, x102001, x102002, x102003, x102004, x103000, x103001, x103002, x103003, x103004 => (impl_IdEqual.f (⟨#[]⟩ : ByteArray) (⟨#[]⟩ : ByteArray) (⟨#[90, 122]⟩ : ByteArray) (⟨#[]⟩ : ByteArray) (⟨#[]⟩ : ByteArray) (⟨#[]⟩ : ByteArray) (⟨#[]⟩ : ByteArray) (⟨#[90, 122]⟩ : ByteArray) (⟨#[]⟩ : ByteArray) (⟨#[]⟩ : ByteArray)).bind fun bt123 => (if (x9 == x11) = true then (if x11 = true then ((laws_FnIdEqual_1.f x102000 x102001 x102002 x102003 x102004).bind fun t126 => ((laws_FnIdEqual_1.f x103000 x103001 x103002 x103003 x103004).bind fun t127 => (if (x8 == (t126.toList == t127.toList)) = true then (if (x10 == x12) = true then (some bt123.2.1) else (some false)) else (some false)))) else (if (x8 == false) = true then (if (x10 == x12) = true then (some bt123.2.1) else (some false)) else (some false))) else (some false))
end
def laws_FnIdEqual.f (k : Nat) (a0_0 : ByteArray) (a0_1 : ByteArray) (a0_2 : ByteArray) (a0_3 : ByteArray) (a0_4 : ByteArray) (a1_0 : ByteArray) (a1_1 : ByteArray) (a1_2 : ByteArray) (a1_3 : ByteArray) (a1_4 : ByteArray) (a2 : Int) : Option (Bool) := (laws_zzFits12.f a0_0 a0_1 a0_2 a0_3 a0_4).bind fun t103 => (if t103 = true then ((laws_zzFits12.f a1_0 a1_1 a1_2 a1_3 a1_4).bind fun t104 => (laws_FnIdEqual.j0 k a2 (!t104) a0_0 a0_1 a0_2 a0_3 a0_4 a1_0 a1_1 a1_2 a1_3 a1_4)) else (laws_FnIdEqual.j0 k a2 true a0_0 a0_1 a0_2 a0_3 a0_4 a1_0 a1_1 a1_2 a1_3 a1_4))
theorem laws_FnIdEqual.mono_l : ∀ k, (∀ y0 y1 y2 y3 y4 y5 y6 y7 y8 y9 y10 y11, LeO (laws_FnIdEqual.j0 k y0 y1 y2 y3 y4 y5 y6 y7 y8 y9 y10 y11) (laws_FnIdEqual.j0 (k + 1) y0 y1 y2 y3 y4 y5 y6 y7 y8 y9 y10 y11)) ∧ (∀ y0 y1 y2 y3 y4 y5 y6 y7 y8 y9 y10, LeO (laws_FnIdEqual.j1 k y0 y1 y2 y3 y4 y5 y6 y7 y8 y9 y10) (laws_FnIdEqual.j1 (k + 1) y0 y1 y2 y3 y4 y5 y6 y7 y8 y9 y10)) ∧ (∀ y0 y1 y2 y3 y4 y5 y6 y7 y8 y9, LeO (laws_FnIdEqual.j2 k y0 y1 y2 y3 y4 y5 y6 y7 y8 y9) (laws_FnIdEqual.j2 (k + 1) y0 y1 y2 y3 y4 y5 y6 y7 y8 y9)) ∧ (∀ y0 y1 y2 y3 y4 y5 y6 y7 y8 y9, LeO (laws_FnIdEqual.j3 k y0 y1 y2 y3 y4 y5 y6 y7 y8 y9) (laws_FnIdEqual.j3 (k + 1) y0 y1 y2 y3 y4 y5 y6 y7 y8 y9)) ∧ (∀ y0 y1 y2 y3 y4 y5 y6 y7 y8 y9 y10 y11 y12 y13, LeO (laws_FnIdEqual.j4 k y0 y1 y2 y3 y4 y5 y6 y7 y8 y9 y10 y11 y12 y13) (laws_FnIdEqual.j4 (k + 1) y0 y1 y2 y3 y4 y5 y6 y7 y8 y9 y10 y11 y12 y13)) ∧ (∀ y0 y1 y2 y3 y4 y5 y6 y7 y8 y9 y10 y11 y12 y13 y14, LeO (laws_FnIdEqual.j5 k y0 y1 y2 y3 y4 y5 y6 y7 y8 y9 y10 y11 y12 y13 y14) (laws_FnIdEqual.j5 (k + 1) y0 y1 y2 y3 y4 y5 y6 y7 y8 y9 y10 y11 y12 y13 y14))
  | 0 => ⟨fun _ _ _ _ _ _ _ _ _ _ _ _ r h => by simp [laws_FnIdEqual.j0] at h, fun _ _ _ _ _ _ _ _ _ _ _ r h => by simp [laws_FnIdEqual.j1] at h, fun _ _ _ _ _ _ _ _ _ _ r h => by simp [laws_FnIdEqual.j2] at h, fun _ _ _ _ _ _ _ _ _ _ r h => by simp [laws_FnIdEqual.j3] at h, fun _ _ _ _ _ _ _ _ _ _ _ _ _ _ r h => by simp [laws_FnIdEqual.j4] at h, fun _ _ _ _ _ _ _ _ _ _ _ _ _ _ _ r h => by simp [laws_FnIdEqual.j5] at h⟩
  | k + 1 => by
    obtain ⟨ih0, ih1, ih2, ih3, ih4, ih5⟩ := laws_FnIdEqual.mono_l k
    refine ⟨?_, ?_, ?_, ?_, ?_, ?_⟩
    · intro y0 y1 y2 y3 y4 y5 y6 y7 y8 y9 y10 y11
      unfold laws_FnIdEqual.j0
      repeat' first
      | (with_reducible exact ih0 _ _ _ _ _ _ _ _ _ _ _ _)
      | (with_reducible exact ih1 _ _ _ _ _ _ _ _ _ _ _)
      | (with_reducible exact ih2 _ _ _ _ _ _ _ _ _ _)
      | (with_reducible exact ih3 _ _ _ _ _ _ _ _ _ _)
      | (with_reducible exact ih4 _ _ _ _ _ _ _ _ _ _ _ _ _ _)
      | (with_reducible exact ih5 _ _ _ _ _ _ _ _ _ _ _ _ _ _ _)
      | (with_reducible exact laws_kyId.mono _ _ _ _ _ _)
      | (with_reducible exact LeO.refl _)
      | (with_reducible exact LeO.none _)
      | (with_reducible refine LeO.ite ?_ ?_)
      | (with_reducible refine LeO.bind ?_ (fun _ => ?_))
      | exact ih0 _ _ _ _ _ _ _ _ _ _ _ _
      | exact ih1 _ _ _ _ _ _ _ _ _ _ _
      | exact ih2 _ _ _ _ _ _ _ _ _ _
      | exact ih3 _ _ _ _ _ _ _ _ _ _
      | exact ih4 _ _ _ _ _ _ _ _ _ _ _ _ _ _
      | exact ih5 _ _ _ _ _ _ _ _ _ _ _ _ _ _ _
      | exact laws_kyId.mono _ _ _ _ _ _
      | exact LeO.none _
      | refine LeO.ite ?_ ?_
      | refine LeO.bind ?_ (fun _ => ?_)
    · intro y0 y1 y2 y3 y4 y5 y6 y7 y8 y9 y10
      unfold laws_FnIdEqual.j1
      repeat' first
      | (with_reducible exact ih0 _ _ _ _ _ _ _ _ _ _ _ _)
      | (with_reducible exact ih1 _ _ _ _ _ _ _ _ _ _ _)
      | (with_reducible exact ih2 _ _ _ _ _ _ _ _ _ _)
      | (with_reducible exact ih3 _ _ _ _ _ _ _ _ _ _)
      | (with_reducible exact ih4 _ _ _ _ _ _ _ _ _ _ _ _ _ _)
      | (with_reducible exact ih5 _ _ _ _ _ _ _ _ _ _ _ _ _ _ _)
      | (with_reducible exact laws_kyId.mono _ _ _ _ _ _)
      | (with_reducible exact LeO.refl _)
      | (with_reducible exact LeO.none _)
      | (with_reducible refine LeO.ite ?_ ?_)
      | (with_reducible refine LeO.bind ?_ (fun _ => ?_))
      | exact ih0 _ _ _ _ _ _ _ _ _ _ _ _
      | exact ih1 _ _ _ _ _ _ _ _ _ _ _
      | exact ih2 _ _ _ _ _ _ _ _ _ _
      | exact ih3 _ _ _ _ _ _ _ _ _ _
      | exact ih4 _ _ _ _ _ _ _ _ _ _ _ _ _ _
      | exact ih5 _ _ _ _ _ _ _ _ _ _ _ _ _ _ _
      | exact laws_kyId.mono _ _ _ _ _ _
      | exact LeO.none _
      | refine LeO.ite ?_ ?_
      | refine LeO.bind ?_ (fun _ => ?_)
    · intro y0 y1 y2 y3 y4 y5 y6 y7 y8 y9
      unfold laws_FnIdEqual.j2
      repeat' first
      | (with_reducible exact ih0 _ _ _ _ _ _ _ _ _ _ _ _)
      | (with_reducible exact ih1 _ _ _ _ _ _ _ _ _ _ _)
      | (with_reducible exact ih2 _ _ _ _ _ _ _ _ _ _)
      | (with_reducible exact ih3 _ _ _ _ _ _ _ _ _ _)
      | (with_reducible exact ih4 _ _ _ _ _ _ _ _ _ _ _ _ _ _)
      | (with_reducible exact ih5 _ _ _ _ _ _ _ _ _ _ _ _ _ _ _)
      | (with_reducible exact laws_kyId.mono _ _ _ _ _ _)
      | (with_reducible exact LeO.refl _)
      | (with_reducible exact LeO.none _)
      | (with_reducible refine LeO.ite ?_ ?_)
      | (with_reducible refine LeO.bind ?_ (fun _ => ?_))
      | exact ih0 _ _ _ _ _ _ _ _ _ _ _ _
      | exact ih1 _ _ _ _ _ _ _ _ _ _ _
      | exact ih2 _ _ _ _ _ _ _ _ _ _
      | exact ih3 _ _ _ _ _ _ _ _ _ _
      | exact ih4 _ _ _ _ _ _ _ _ _ _ _ _ _ _
      | exact ih5 _ _ _ _ _ _ _ _ _ _ _ _ _ _ _
      | exact laws_kyId.mono _ _ _ _ _ _
      | exact LeO.none _
      | refine LeO.ite ?_ ?_
      | refine LeO.bind ?_ (fun _ => ?_)
    · intro y0 y1 y2 y3 y4 y5 y6 y7 y8 y9
      unfold laws_FnIdEqual.j3
      repeat' first
      | (with_reducible exact ih0 _ _ _ _ _ _ _ _ _ _ _ _)
      | (with_reducible exact ih1 _ _ _ _ _ _ _ _ _ _ _)
      | (with_reducible exact ih2 _ _ _ _ _ _ _ _ _ _)
      | (with_reducible exact ih3 _ _ _ _ _ _ _ _ _ _)
      | (with_reducible exact ih4 _ _ _ _ _ _ _ _ _ _ _ _ _ _)
      | (with_reducible exact ih5 _ _ _ _ _ _ _ _ _ _ _ _ _ _ _)
      | (with_reducible exact laws_kyId.mono _ _ _ _ _ _)
      | (with_reducible exact LeO.refl _)
      | (with_reducible exact LeO.none _)
      | (with_reducible refine LeO.ite ?_ ?_)
      | (with_reducible refine LeO.bind ?_ (fun _ => ?_))
      | exact ih0 _ _ _ _ _ _ _ _ _ _ _ _
      | exact ih1 _ _ _ _ _ _ _ _ _ _ _
      | exact ih2 _ _ _ _ _ _ _ _ _ _
      | exact ih3 _ _ _ _ _ _ _ _ _ _
      | exact ih4 _ _ _ _ _ _ _ _ _ _ _ _ _ _
      | exact ih5 _ _ _ _ _ _ _ _ _ _ _ _ _ _ _
      | exact laws_kyId.mono _ _ _ _ _ _
      | exact LeO.none _
      | refine LeO.ite ?_ ?_
      | refine LeO.bind ?_ (fun _ => ?_)
    · intro y0 y1 y2 y3 y4 y5 y6 y7 y8 y9 y10 y11 y12 y13
      unfold laws_FnIdEqual.j4
      repeat' first
      | (with_reducible exact ih0 _ _ _ _ _ _ _ _ _ _ _ _)
      | (with_reducible exact ih1 _ _ _ _ _ _ _ _ _ _ _)
      | (with_reducible exact ih2 _ _ _ _ _ _ _ _ _ _)
      | (with_reducible exact ih3 _ _ _ _ _ _ _ _ _ _)
      | (with_reducible exact ih4 _ _ _ _ _ _ _ _ _ _ _ _ _ _)
      | (with_reducible exact ih5 _ _ _ _ _ _ _ _ _ _ _ _ _ _ _)
      | (with_reducible exact laws_kyId.mono _ _ _ _ _ _)
      | (with_reducible exact LeO.refl _)
      | (with_reducible exact LeO.none _)
      | (with_reducible refine LeO.ite ?_ ?_)
      | (with_reducible refine LeO.bind ?_ (fun _ => ?_))
      | exact ih0 _ _ _ _ _ _ _ _ _ _ _ _
      | exact ih1 _ _ _ _ _ _ _ _ _ _ _
      | exact ih2 _ _ _ _ _ _ _ _ _ _
      | exact ih3 _ _ _ _ _ _ _ _ _ _
      | exact ih4 _ _ _ _ _ _ _ _ _ _ _ _ _ _
      | exact ih5 _ _ _ _ _ _ _ _ _ _ _ _ _ _ _
      | exact laws_kyId.mono _ _ _ _ _ _
      | exact LeO.none _
      | refine LeO.ite ?_ ?_
      | refine LeO.bind ?_ (fun _ => ?_)
    · intro y0 y1 y2 y3 y4 y5 y6 y7 y8 y9 y10 y11 y12 y13 y14
      unfold laws_FnIdEqual.j5
      repeat' first
      | (with_reducible exact ih0 _ _ _ _ _ _ _ _ _ _ _ _)
      | (with_reducible exact ih1 _ _ _ _ _ _ _ _ _ _ _)
      | (with_reducible exact ih2 _ _ _ _ _ _ _ _ _ _)
      | (with_reducible exact ih3 _ _ _ _ _ _ _ _ _ _)
      | (with_reducible exact ih4 _ _ _ _ _ _ _ _ _ _ _ _ _ _)
      | (with_reducible exact ih5 _ _ _ _ _ _ _ _ _ _ _ _ _ _ _)
      | (with_reducible exact laws_kyId.mono _ _ _ _ _ _)
      | (with_reducible exact LeO.refl _)
      | (with_reducible exact LeO.none _)
      | (with_reducible refine LeO.ite ?_ ?_)
      | (with_reducible refine LeO.bind ?_ (fun _ => ?_))
      | exact ih0 _ _ _ _ _ _ _ _ _ _ _ _
      | exact ih1 _ _ _ _ _ _ _ _ _ _ _
      | exact ih2 _ _ _ _ _ _ _ _ _ _
      | exact ih3 _ _ _ _ _ _ _ _ _ _
      | exact ih4 _ _ _ _ _ _ _ _ _ _ _ _ _ _
      | exact ih5 _ _ _ _ _ _ _ _ _ _ _ _ _ _ _
      | exact laws_kyId.mono _ _ _ _ _ _
      | exact LeO.none _
      | refine LeO.ite ?_ ?_
      | refine LeO.bind ?_ (fun _ => ?_)
theorem laws_FnIdEqual.mono : ∀ a0 a1 a2 a3 a4 a5 a6 a7 a8 a9 a10 k, LeO (laws_FnIdEqual.f k a0 a1 a2 a3 a4 a5 a6 a7 a8 a9 a10) (laws_FnIdEqual.f (k + 1) a0 a1 a2 a3 a4 a5 a6 a7 a8 a9 a10) := by
  intro a0 a1 a2 a3 a4 a5 a6 a7 a8 a9 a10 k
  obtain ⟨ih0, ih1, ih2, ih3, ih4, ih5⟩ := laws_FnIdEqual.mono_l k
  unfold laws_FnIdEqual.f
  repeat' first
      | (with_reducible exact ih0 _ _ _ _ _ _ _ _ _ _ _ _)
      | (with_reducible exact ih1 _ _ _ _ _ _ _ _ _ _ _)
      | (with_reducible exact ih2 _ _ _ _ _ _ _ _ _ _)
      | (with_reducible exact ih3 _ _ _ _ _ _ _ _ _ _)
      | (with_reducible exact ih4 _ _ _ _ _ _ _ _ _ _ _ _ _ _)
      | (with_reducible exact ih5 _ _ _ _ _ _ _ _ _ _ _ _ _ _ _)
      | (with_reducible exact laws_kyId.mono _ _ _ _ _ _)
      | (with_reducible exact LeO.refl _)
      | (with_reducible exact LeO.none _)
      | (with_reducible refine LeO.ite ?_ ?_)
      | (with_reducible refine LeO.bind ?_ (fun _ => ?_))
      | exact ih0 _ _ _ _ _ _ _ _ _ _ _ _
      | exact ih1 _ _ _ _ _ _ _ _ _ _ _
      | exact ih2 _ _ _ _ _ _ _ _ _ _
      | exact ih3 _ _ _ _ _ _ _ _ _ _
      | exact ih4 _ _ _ _ _ _ _ _ _ _ _ _ _ _
      | exact ih5 _ _ _ _ _ _ _ _ _ _ _ _ _ _ _
      | exact laws_kyId.mono _ _ _ _ _ _
      | exact LeO.none _
      | refine LeO.ite ?_ ?_
      | refine LeO.bind ?_ (fun _ => ?_)
def laws_FnIdEqual.T25 : Bool × List (List Nat × List Nat) := (true, [([], []), ([], []), ([0, 1], [0, 1]), ([2, 2], [2]), ([3], [3]), ([4, 3], [3, 4]), ([5, 3], [3, 5]), ([6, 3, 3], [3, 6]), ([7], [7]), ([8, 7], [7, 8]), ([7], [7]), ([10, 7], [7, 10]), ([9, 11, 7], [7, 9, 11]), ([7, 12, 3], [3, 7, 12]), ([3, 13], [3, 13]), ([14, 7], [14]), ([15], [15]), ([16, 15], [15, 16]), ([17, 15], [15, 17]), ([18, 15, 15], [15, 18]), ([19], [19]), ([19], [19]), ([20, 21, 19, 19], [19, 20, 21]), ([19], [19]), ([19], [19]), ([23, 24, 22, 19], [19, 23, 24]), ([22, 25, 19], [19, 22, 25]), ([19, 26, 15], [15, 19, 26]), ([15, 27], [15, 27]), ([28, 25, 0, 1, 2, 3, 4, 5, 6, 7, 8, 9, 10, 11, 12, 13, 14, 15, 16, 17, 18, 19, 20, 21, 22, 23, 24, 25, 26, 27, 28], [28])])
def laws_FnIdEqual.B25 : List Nat := [0, 0, 3, 7, 15, 31, 63, 127, 255, 511, 255, 1279, 4095, 8191, 16383, 32767, 65535, 131071, 262143, 524287, 1048575, 1048575, 4194303, 1048575, 1048575, 33554431, 67108863, 134217727, 268435455, 536870911]
theorem laws_FnIdEqual.tab25 : rtab .any (opsOf Try.f3 25) = laws_FnIdEqual.T25 := by kernel_rfl
theorem laws_FnIdEqual.bits25 : waitsOk laws_FnIdEqual.T25.2 laws_FnIdEqual.B25 = true := by kernel_rfl
def laws_FnIdEqual.T27 : Bool × List (List Nat × List Nat) := (true, [([], []), ([], []), ([0, 1], [0, 1]), ([2], [2]), ([3], [3]), ([3], [3]), ([5, 3, 3], [3, 5]), ([6], [6]), ([6], [6]), ([7, 8, 6, 6], [6, 7, 8]), ([6], [6]), ([6], [6]), ([10, 11, 9, 6], [6, 10, 11]), ([9, 12, 6], [6, 9, 12]), ([6, 13, 3], [3, 6, 13]), ([4, 14, 3], [3, 4, 14]), ([3, 15], [3, 15]), ([16, 12], [16]), ([17], [17]), ([17], [17]), ([18, 19, 17], [17, 18, 19]), ([17, 20], [17, 20]), ([21, 17], [21]), ([22], [22]), ([22, 23], [22, 23]), ([24, 22, 0, 1, 2, 3, 4, 5, 6, 7, 8, 9, 10, 11, 12, 13, 14, 15, 16, 17, 18, 19, 20, 21, 22, 23, 24], [24])])
def laws_FnIdEqual.B27 : List Nat := [0, 0, 3, 7, 15, 15, 47, 111, 111, 495, 111, 111, 4079, 8175, 16367, 32767, 65535, 131071, 262143, 262143, 1048575, 2097151, 4194303, 8388607, 16777215, 33554431]
theorem laws_FnIdEqual.tab27 : rtab .any (opsOf Try.f3 27) = laws_FnIdEqual.T27 := by kernel_rfl
theorem laws_FnIdEqual.bits27 : waitsOk laws_FnIdEqual.T27.2 laws_FnIdEqual.B27 = true := by kernel_rfl
abbrev laws_FnIdEqual.b1_ : Array Bool := #[false, false, false, false, false, false]
abbrev laws_FnIdEqual.b2_ : Array Bool := #[true, false, false, false, false, false]
abbrev laws_FnIdEqual.b3_ : Array Bool := #[true, false, true, false, false, false]
abbrev laws_FnIdEqual.b4_ : Array Bool := #[true, true, true, false, false, false]
abbrev laws_FnIdEqual.b5_ : Array Bool := #[true, true, true, true, false, false]
abbrev laws_FnIdEqual.b6_ : Array Bool := #[true, true, true, true, true, false]
abbrev laws_FnIdEqual.b7_ : Array Bool := #[true, true, true, true, true, true]
abbrev laws_FnIdEqual.b8_ : Array Bool := #[false, false, false, false, false, false, false, false, false, false, false, false, false, false, false, false, false, false, false, false, false, false, false, false, false, false, false, false, false, false]
abbrev laws_FnIdEqual.b9_ : Array Bool := #[true, false, false, false, false, false, false, false, false, false, false, false, false, false, false, false, false, false, false, false, false, false, false, false, false, false, false, false, false, false]
abbrev laws_FnIdEqual.b10_ : Array Bool := #[true, true, false, false, false, false, false, false, false, false, false, false, false, false, false, false, false, false, false, false, false, false, false, false, false, false, false, false, false, false]
abbrev laws_FnIdEqual.b11_ : Array Bool := #[true, true, true, false, false, false, false, false, false, false, false, false, false, false, false, false, false, false, false, false, false, false, false, false, false, false, false, false, false, false]
abbrev laws_FnIdEqual.b12_ : Array Bool := #[true, true, true, true, false, false, false, false, false, false, false, false, false, false, false, false, false, false, false, false, false, false, false, false, false, false, false, false, false, false]
abbrev laws_FnIdEqual.b13_ : Array Bool := #[true, true, true, true, true, false, false, false, false, false, false, false, false, false, false, false, false, false, false, false, false, false, false, false, false, false, false, false, false, false]
abbrev laws_FnIdEqual.b14_ : Array Bool := #[true, true, true, true, true, true, false, false, false, false, false, false, false, false, false, false, false, false, false, false, false, false, false, false, false, false, false, false, false, false]
abbrev laws_FnIdEqual.b15_ : Array Bool := #[true, true, true, true, true, true, true, false, false, false, false, false, false, false, false, false, false, false, false, false, false, false, false, false, false, false, false, false, false, false]
abbrev laws_FnIdEqual.b16_ : Array Bool := #[true, true, true, true, true, true, true, true, false, false, false, false, false, false, false, false, false, false, false, false, false, false, false, false, false, false, false, false, false, false]
abbrev laws_FnIdEqual.b17_ : Array Bool := #[true, true, true, true, true, true, true, true, true, false, false, false, false, false, false, false, false, false, false, false, false, false, false, false, false, false, false, false, false, false]
abbrev laws_FnIdEqual.b18_ : Array Bool := #[true, true, true, true, true, true, true, true, true, true, false, false, false, false, false, false, false, false, false, false, false, false, false, false, false, false, false, false, false, false]
abbrev laws_FnIdEqual.b19_ : Array Bool := #[true, true, true, true, true, true, true, true, true, true, true, false, false, false, false, false, false, false, false, false, false, false, false, false, false, false, false, false, false, false]
abbrev laws_FnIdEqual.b20_ : Array Bool := #[true, true, true, true, true, true, true, true, true, true, true, true, false, false, false, false, false, false, false, false, false, false, false, false, false, false, false, false, false, false]
abbrev laws_FnIdEqual.b21_ : Array Bool := #[true, true, true, true, true, true, true, true, true, true, true, true, true, false, false, false, false, false, false, false, false, false, false, false, false, false, false, false, false, false]
abbrev laws_FnIdEqual.b22_ : Array Bool := #[true, true, true, true, true, true, true, true, true, true, true, true, true, true, false, false, false, false, false, false, false, false, false, false, false, false, false, false, false, false]
abbrev laws_FnIdEqual.b23_ : Array Bool := #[true, true, true, true, true, true, true, true, true, true, true, true, true, true, true, false, false, false, false, false, false, false, false, false, false, false, false, false, false, false]
abbrev laws_FnIdEqual.b24_ : Array Bool := #[true, true, true, true, true, true, true, true, true, true, true, true, true, true, true, true, false, false, false, false, false, false, false, false, false, false, false, false, false, false]
abbrev laws_FnIdEqual.b25_ : Array Bool := #[true, true, true, true, true, true, true, true, true, true, true, true, true, true, true, true, true, false, false, false, false, false, false, false, false, false, false, false, false, false]
abbrev laws_FnIdEqual.b26_ : Array Bool := #[true, true, true, true, true, true, true, true, true, true, true, true, true, true, true, true, true, true, false, false, false, false, false, false, false, false, false, false, false, false]
abbrev laws_FnIdEqual.b27_ : Array Bool := #[true, true, true, true, true, true, true, true, true, true, true, true, true, true, true, true, true, true, true, false, false, false, false, false, false, false, false, false, false, false]
abbrev laws_FnIdEqual.b28_ : Array Bool := #[true, true, true, true, true, true, true, true, true, true, true, true, true, true, true, true, true, true, true, true, false, false, false, false, false, false, false, false, false, false]
abbrev laws_FnIdEqual.b29_ : Array Bool := #[true, true, true, true, true, true, true, true, true, true, true, true, true, true, true, true, true, true, true, true, true, false, false, false, false, false, false, false, false, false]
abbrev laws_FnIdEqual.b30_ : Array Bool := #[true, true, true, true, true, true, true, true, true, true, true, true, true, true, true, true, true, true, true, true, true, true, false, false, false, false, false, false, false, false]
abbrev laws_FnIdEqual.b31_ : Array Bool := #[true, true, true, true, true, true, true, true, true, true, true, true, true, true, true, true, true, true, true, true, true, true, true, false, false, false, false, false, false, false]
abbrev laws_FnIdEqual.b32_ : Array Bool := #[true, true, true, true, true, true, true, true, true, true, true, true, true, true, true, true, true, true, true, true, true, true, true, true, false, false, false, false, false, false]
abbrev laws_FnIdEqual.b33_ : Array Bool := #[true, true, true, true, true, true, true, true, true, true, true, true, true, true, true, true, true, true, true, true, true, true, true, true, true, false, false, false, false, false]
abbrev laws_FnIdEqual.b34_ : Array Bool := #[true, true, true, true, true, true, true, true, true, true, true, true, true, true, true, true, true, true, true, true, true, true, true, true, true, true, false, false, false, false]
abbrev laws_FnIdEqual.b35_ : Array Bool := #[true, true, true, true, true, true, true, true, true, true, true, true, true, true, true, true, true, true, true, true, true, true, true, true, true, true, true, false, false, false]
abbrev laws_FnIdEqual.b36_ : Array Bool := #[true, true, true, true, true, true, true, true, true, true, true, true, true, true, true, true, true, true, true, true, true, true, true, true, true, true, true, true, false, false]
abbrev laws_FnIdEqual.b37_ : Array Bool := #[true, true, true, true, true, true, true, true, true, true, true, true, true, true, true, true, true, true, true, true, true, true, true, true, true, true, true, true, true, false]
abbrev laws_FnIdEqual.b38_ : Array Bool := #[true, true, true, true, true, true, true, true, true, true, true, true, true, true, true, true, true, true, true, true, true, true, true, true, true, true, true, true, true, true]
abbrev laws_FnIdEqual.b39_ : Array Bool := #[true, true, true, true, true, true, true, true, true, true, true, true, true, true, true, true, true, true, true, true, true, false, false, true, false, false, false, false, false, false]
abbrev laws_FnIdEqual.b40_ : Array Bool := #[true, true, true, true, true, true, true, true, true, true, true, true, true, true, true, true, true, true, true, true, true, true, false, true, false, false, false, false, false, false]
abbrev laws_FnIdEqual.b41_ : Array Bool := #[true, true, true, true, true, true, true, true, true, true, true, true, true, true, true, true, true, true, true, true, true, true, false, true, true, false, false, false, false, false]
abbrev laws_FnIdEqual.b42_ : Array Bool := #[true, true, true, true, true, true, true, true, true, false, true, false, false, false, false, false, false, false, false, false, false, false, false, false, false, false, false, false, false, false]
abbrev laws_FnIdEqual.b43_ : Array Bool := #[false, false, false, false, false, false, false, false, false, false, false, false, false, false, false, false, false, false, false, false, false, false, false, false, false, false]
abbrev laws_FnIdEqual.b44_ : Array Bool := #[true, false, false, false, false, false, false, false, false, false, false, false, false, false, false, false, false, false, false, false, false, false, false, false, false, false]
abbrev laws_FnIdEqual.b45_ : Array Bool := #[true, true, false, false, false, false, false, false, false, false, false, false, false, false, false, false, false, false, false, false, false, false, false, false, false, false]
abbrev laws_FnIdEqual.b46_ : Array Bool := #[true, true, true, false, false, false, false, false, false, false, false, false, false, false, false, false, false, false, false, false, false, false, false, false, false, false]
abbrev laws_FnIdEqual.b47_ : Array Bool := #[true, true, true, true, false, false, false, false, false, false, false, false, false, false, false, false, false, false, false, false, false, false, false, false, false, false]
abbrev laws_FnIdEqual.b48_ : Array Bool := #[true, true, true, true, true, false, false, false, false, false, false, false, false, false, false, false, false, false, false, false, false, false, false, false, false, false]
abbrev laws_FnIdEqual.b49_ : Array Bool := #[true, true, true, true, true, true, false, false, false, false, false, false, false, false, false, false, false, false, false, false, false, false, false, false, false, false]
abbrev laws_FnIdEqual.b50_ : Array Bool := #[true, true, true, true, true, true, true, false, false, false, false, false, false, false, false, false, false, false, false, false, false, false, false, false, false, false]
abbrev laws_FnIdEqual.b51_ : Array Bool := #[true, true, true, true, true, true, true, true, false, false, false, false, false, false, false, false, false, false, false, false, false, false, false, false, false, false]
abbrev laws_FnIdEqual.b52_ : Array Bool := #[true, true, true, true, true, true, true, true, false, false, true, false, false, false, false, false, false, false, false, false, false, false, false, false, false, false]
abbrev laws_FnIdEqual.b53_ : Array Bool := #[true, true, true, true, true, true, true, true, true, false, true, false, false, false, false, false, false, false, false, false, false, false, false, false, false, false]
abbrev laws_FnIdEqual.b54_ : Array Bool := #[true, true, true, true, true, true, true, true, true, false, true, true, false, false, false, false, false, false, false, false, false, false, false, false, false, false]
abbrev laws_FnIdEqual.b55_ : Array Bool := #[true, true, true, true, true, true, true, true, true, true, true, true, false, false, false, false, false, false, false, false, false, false, false, false, false, false]
abbrev laws_FnIdEqual.b56_ : Array Bool := #[true, true, true, true, true, true, true, true, true, true, true, true, true, false, false, false, false, false, false, false, false, false, false, false, false, false]
abbrev laws_FnIdEqual.b57_ : Array Bool := #[true, true, true, true, true, true, true, true, true, true, true, true, true, true, false, false, false, false, false, false, false, false, false, false, false, false]
abbrev laws_FnIdEqual.b58_ : Array Bool := #[true, true, true, true, true, true, true, true, true, true, true, true, true, true, true, false, false, false, false, false, false, false, false, false, false, false]
abbrev laws_FnIdEqual.b59_ : Array Bool := #[true, true, true, true, true, true, true, true, true, true, true, true, true, true, true, true, false, false, false, false, false, false, false, false, false, false]
abbrev laws_FnIdEqual.b60_ : Array Bool := #[true, true, true, true, true, true, true, true, true, true, true, true, true, true, true, true, true, false, false, false, false, false, false, false, false, false]
abbrev laws_FnIdEqual.b61_ : Array Bool := #[true, true, true, true, true, true, true, true, true, true, true, true, true, true, true, true, true, true, false, false, false, false, false, false, false, false]
abbrev laws_FnIdEqual.b62_ : Array Bool := #[true, true, true, true, true, true, true, true, true, true, true, true, true, true, true, true, true, true, true, false, false, false, false, false, false, false]
abbrev laws_FnIdEqual.b63_ : Array Bool := #[true, true, true, true, true, true, true, true, true, true, true, true, true, true, true, true, true, true, true, true, false, false, false, false, false, false]
abbrev laws_FnIdEqual.b64_ : Array Bool := #[true, true, true, true, true, true, true, true, true, true, true, true, true, true, true, true, true, true, true, true, true, false, false, false, false, false]
abbrev laws_FnIdEqual.b65_ : Array Bool := #[true, true, true, true, true, true, true, true, true, true, true, true, true, true, true, true, true, true, true, true, true, true, false, false, false, false]
abbrev laws_FnIdEqual.b66_ : Array Bool := #[true, true, true, true, true, true, true, true, true, true, true, true, true, true, true, true, true, true, true, true, true, true, true, false, false, false]
abbrev laws_FnIdEqual.b67_ : Array Bool := #[true, true, true, true, true, true, true, true, true, true, true, true, true, true, true, true, true, true, true, true, true, true, true, true, false, false]
abbrev laws_FnIdEqual.b68_ : Array Bool := #[true, true, true, true, true, true, true, true, true, true, true, true, true, true, true, true, true, true, true, true, true, true, true, true, true, false]
abbrev laws_FnIdEqual.b69_ : Array Bool := #[true, true, true, true, true, true, true, true, true, true, true, true, true, true, true, true, true, true, true, true, true, true, true, true, true, true]
abbrev laws_FnIdEqual.b70_ : Array Bool := #[true, true, true, true, true, true, true, true, true, false, false, false, false, false, false, false, false, false, false, false, false, false, false, false, false, false]
abbrev laws_FnIdEqual.b71_ : Array Bool := #[true, true, true, true, true, true, true, true, true, true, false, false, false, false, false, false, false, false, false, false, false, false, false, false, false, false]
abbrev laws_FnIdEqual.b72_ : Array Bool := #[true, true, true, true, true, true, true, true, true, true, true, false, false, false, false, false, false, false, false, false, false, false, false, false, false, false]
end Go.Proofs.Ytfdgbgjbncakfaa.GFnIdEqual

