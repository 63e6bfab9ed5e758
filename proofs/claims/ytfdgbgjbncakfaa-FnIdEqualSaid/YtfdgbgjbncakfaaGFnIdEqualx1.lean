-- Laid by a program of this session (stub.py)
import Derived.Test.YtfdgbgjbncakfaaGFnIdEqualx0
namespace Go.Proofs.Ytfdgbgjbncakfaa.GFnIdEqual
open Go.RowKit Go.Proofs.YtfdgbgjbncakfaaW.PrintWords Go.Proofs.YtfdgbgjbncakfaaW.PrintLast Go.Proofs.YtfdgbgjbncakfaaW.PrintMore
attribute [local go_sem] max2_int min2_int max_two min_two max_three min_three max_four min_four   -- for this text's walks alone
set_option linter.unusedVariables false
set_option linter.unusedSimpArgs false

/-! ### laws_zzFits12: function 6: its contract by hand -/
def laws_zzFits12.f (a0_0 : ByteArray) (a0_1 : ByteArray) (a0_2 : ByteArray) (a0_3 : ByteArray) (a0_4 : ByteArray) : Option (Bool) := some (HEqLaw.fitsB a0_0 a0_1 a0_2 a0_3 a0_4)
theorem laws_zzFits12.calls (a0_0 : ByteArray) (a0_1 : ByteArray) (a0_2 : ByteArray) (a0_3 : ByteArray) (a0_4 : ByteArray) (r : Bool) (w : World) (h : laws_zzFits12.f a0_0 a0_1 a0_2 a0_3 a0_4 = some r) :
    Calls Try.prog 6 #[.agg #[.string a0_0, .string a0_1, .string a0_2, .string a0_3, .string a0_4]] w fun e w' => e = .returned (.bool r) ∧ Below w.heap.size w w' := by
  cases h; exact HEqLaw.fits_calls _ _ _ _ _ w
/-! ### laws_kyId: function 7: its contract by hand -/
def laws_kyId.f (k : Nat) (a0_0 : ByteArray) (a0_1 : ByteArray) (a0_2 : ByteArray) (a0_3 : ByteArray) (a0_4 : ByteArray) : Option (ByteArray × ByteArray × ByteArray × ByteArray × ByteArray) := HkyId.laws_kyId.f k a0_0 a0_1 a0_2 a0_3 a0_4
theorem laws_kyId.mono : ∀ a0_0 a0_1 a0_2 a0_3 a0_4 k, LeO (laws_kyId.f k a0_0 a0_1 a0_2 a0_3 a0_4) (laws_kyId.f (k + 1) a0_0 a0_1 a0_2 a0_3 a0_4) := HkyId.laws_kyId.mono
theorem laws_kyId.calls (k : Nat) (a0_0 : ByteArray) (a0_1 : ByteArray) (a0_2 : ByteArray) (a0_3 : ByteArray) (a0_4 : ByteArray) (r1 : ByteArray) (r2 : ByteArray) (r3 : ByteArray) (r4 : ByteArray) (r5 : ByteArray) (w : World) (h : laws_kyId.f k a0_0 a0_1 a0_2 a0_3 a0_4 = some (r1, r2, r3, r4, r5)) :
    Calls Try.prog 7 #[.agg #[.string a0_0, .string a0_1, .string a0_2, .string a0_3, .string a0_4]] w fun e w' => e = .returned (.agg #[.string r1, .string r2, .string r3, .string r4, .string r5]) ∧ Below w.heap.size w w' := by
  exact HkyId.laws_kyId.calls k a0_0 a0_1 a0_2 a0_3 a0_4 r1 r2 r3 r4 r5 w h
/-! ### laws_FnIdEqual_1: function 8: its contract by hand -/
def laws_FnIdEqual_1.f (a0_0 : ByteArray) (a0_1 : ByteArray) (a0_2 : ByteArray) (a0_3 : ByteArray) (a0_4 : ByteArray) : Option (ByteArray) := some (HGvk.orB a0_4 HGvk.dflt)
theorem laws_FnIdEqual_1.calls (a0_0 : ByteArray) (a0_1 : ByteArray) (a0_2 : ByteArray) (a0_3 : ByteArray) (a0_4 : ByteArray) (r : ByteArray) (w : World) (h : laws_FnIdEqual_1.f a0_0 a0_1 a0_2 a0_3 a0_4 = some r) :
    Calls Try.prog 8 #[.agg #[.string a0_0, .string a0_1, .string a0_2, .string a0_3, .string a0_4]] w fun e w' => e = .returned (.string r) ∧ Below w.heap.size w w' := by
  cases h; exact HEqLaw.space_calls _ _ _ _ _ w
/-! ### impl_IdEqual: function 9: its contract by hand -/
def impl_IdEqual.f (a0_0 : ByteArray) (a0_1 : ByteArray) (a0_2 : ByteArray) (a0_3 : ByteArray) (a0_4 : ByteArray) (a1_0 : ByteArray) (a1_1 : ByteArray) (a1_2 : ByteArray) (a1_3 : ByteArray) (a1_4 : ByteArray) : Option (Bool × Bool × Bool) := some (HEqLaw.equalB a0_0 a0_1 a0_2 a0_3 a0_4 a1_0 a1_1 a1_2 a1_3 a1_4, HEqLaw.sameB a0_0 a0_1 a0_2 a0_3 a1_0 a1_1 a1_2 a1_3, HIdSel.selByB a0_0 a0_1 a0_2 a0_3 a0_4 a1_0 a1_1 a1_2 a1_3 a1_4)
theorem impl_IdEqual.calls (a0_0 : ByteArray) (a0_1 : ByteArray) (a0_2 : ByteArray) (a0_3 : ByteArray) (a0_4 : ByteArray) (a1_0 : ByteArray) (a1_1 : ByteArray) (a1_2 : ByteArray) (a1_3 : ByteArray) (a1_4 : ByteArray) (r1 : Bool) (r2 : Bool) (r3 : Bool) (w : World) (h : impl_IdEqual.f a0_0 a0_1 a0_2 a0_3 a0_4 a1_0 a1_1 a1_2 a1_3 a1_4 = some (r1, r2, r3)) :
    Calls Try.prog 9 #[.agg #[.string a0_0, .string a0_1, .string a0_2, .string a0_3, .string a0_4], .agg #[.string a1_0, .string a1_1, .string a1_2, .string a1_3, .string a1_4]] w fun e w' => e = .returned (.tuple #[.bool r1, .bool r2, .bool r3]) ∧ Below w.heap.size w w' := by
  cases h; exact HEqLaw.ideq_calls _ _ _ _ _ _ _ _ _ _ w
/-! ### spec_KySelected: function 10: its contract by hand -/
def spec_KySelected.f (a0_0 : ByteArray) (a0_1 : ByteArray) (a0_2 : ByteArray) (a0_3 : ByteArray) (a0_4 : ByteArray) (a1_0 : ByteArray) (a1_1 : ByteArray) (a1_2 : ByteArray) (a1_3 : ByteArray) (a1_4 : ByteArray) : Option (Bool) := some (HIdSel.selB a0_0 a0_1 a0_2 a1_0 a1_1 a1_2)
theorem spec_KySelected.calls (a0_0 : ByteArray) (a0_1 : ByteArray) (a0_2 : ByteArray) (a0_3 : ByteArray) (a0_4 : ByteArray) (a1_0 : ByteArray) (a1_1 : ByteArray) (a1_2 : ByteArray) (a1_3 : ByteArray) (a1_4 : ByteArray) (r : Bool) (w : World) (h : spec_KySelected.f a0_0 a0_1 a0_2 a0_3 a0_4 a1_0 a1_1 a1_2 a1_3 a1_4 = some r) :
    Calls Try.prog 10 #[.agg #[.string a0_0, .string a0_1, .string a0_2, .string a0_3, .string a0_4], .agg #[.string a1_0, .string a1_1, .string a1_2, .string a1_3, .string a1_4]] w fun e w' => e = .returned (.bool r) ∧ Below w.heap.size w w' := by
  cases h; exact HEqLaw.kysel_calls _ _ _ _ _ _ _ _ _ _ w
end Go.Proofs.Ytfdgbgjbncakfaa.GFnIdEqual
