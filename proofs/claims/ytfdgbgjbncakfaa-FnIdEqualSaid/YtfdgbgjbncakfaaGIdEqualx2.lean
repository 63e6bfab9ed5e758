-- Laid by a program of this session (stub.py)
import Derived.Test.YtfdgbgjbncakfaaGIdEqualx0
import Derived.Test.YtfdgbgjbncakfaaGIdEqualx1
namespace Go.Proofs.Ytfdgbgjbncakfaa.GIdEqual
open Go.RowKit Go.Proofs.YtfdgbgjbncakfaaW.PrintWords Go.Proofs.YtfdgbgjbncakfaaW.PrintLast Go.Proofs.YtfdgbgjbncakfaaW.PrintMore
attribute [local go_sem] max2_int min2_int max_two min_two max_three min_three max_four min_four   -- for this text's walks alone
set_option linter.unusedVariables false
set_option linter.unusedSimpArgs false

/-! ### impl_IdEqual: function 9 -/
def impl_IdEqual.f (a0_0 : ByteArray) (a0_1 : ByteArray) (a0_2 : ByteArray) (a0_3 : ByteArray) (a0_4 : ByteArray) (a1_0 : ByteArray) (a1_1 : ByteArray) (a1_2 : ByteArray) (a1_3 : ByteArray) (a1_4 : ByteArray) : Option (Bool × Bool × Bool) := (impl_id.f a0_0 a0_1 a0_2 a0_3 a0_4).bind fun bt128 => ((impl_id.f a1_0 a1_1 a1_2 a1_3 a1_4).bind fun bt134 => ((resid_ResId_Equals.f bt128.1 bt128.2.1 bt128.2.2.1 bt128.2.2.2.1 bt128.2.2.2.2.1 bt128.2.2.2.2.2 bt134.1 bt134.2.1 bt134.2.2.1 bt134.2.2.2.1 bt134.2.2.2.2.1 bt134.2.2.2.2.2).bind fun t142 => ((resid_ResId_GvknEquals.f bt128.1 bt128.2.1 bt128.2.2.1 bt128.2.2.2.1 bt128.2.2.2.2.1 bt128.2.2.2.2.2 bt134.1 bt134.2.1 bt134.2.2.1 bt134.2.2.2.1 bt134.2.2.2.2.1 bt134.2.2.2.2.2).bind fun t143 => ((resid_ResId_IsSelectedBy.f bt128.1 bt128.2.1 bt128.2.2.1 bt128.2.2.2.1 bt128.2.2.2.2.1 bt128.2.2.2.2.2 bt134.1 bt134.2.1 bt134.2.2.1 bt134.2.2.2.1 bt134.2.2.2.2.1 bt134.2.2.2.2.2).bind fun t144 => (some (t142, t143, t144))))))
def impl_IdEqual.T1 : Bool × List (List Nat × List Nat) := (true, [([], []), ([0], [0]), ([], []), ([2, 1], [2]), ([], []), ([], []), ([4, 1, 3, 0, 1, 4, 5], [1, 4]), ([5, 3, 6, 0, 1, 2, 3, 4, 5, 6], [3, 5])])
def impl_IdEqual.B1 : List Nat := [0, 1, 0, 7, 0, 0, 63, 127]
theorem impl_IdEqual.tab1 : rtab .any (opsOf Try.f9 1) = impl_IdEqual.T1 := by kernel_rfl
theorem impl_IdEqual.bits1 : waitsOk impl_IdEqual.T1.2 impl_IdEqual.B1 = true := by kernel_rfl
def impl_IdEqual.T2 : Bool × List (List Nat × List Nat) := (true, [([], []), ([], []), ([0, 1], [0, 1]), ([], []), ([], []), ([3, 4, 2], [3, 4]), ([], []), ([], []), ([6, 7, 5], [6, 7]), ([2, 8, 0, 1, 2], [2]), ([5, 9, 0, 1, 2, 3, 4, 5, 9], [5]), ([8, 10, 0, 1, 2, 3, 4, 5, 6, 7, 8, 9, 10], [8])])
def impl_IdEqual.B2 : List Nat := [0, 0, 3, 0, 0, 31, 0, 0, 255, 511, 1023, 2047]
theorem impl_IdEqual.tab2 : rtab .any (opsOf Try.f9 2) = impl_IdEqual.T2 := by kernel_rfl
theorem impl_IdEqual.bits2 : waitsOk impl_IdEqual.T2.2 impl_IdEqual.B2 = true := by kernel_rfl
abbrev impl_IdEqual.b1_ : Array Bool := #[false, false, false, false, false, false, false, false]
abbrev impl_IdEqual.b2_ : Array Bool := #[true, false, false, false, false, false, false, false]
abbrev impl_IdEqual.b3_ : Array Bool := #[true, false, true, false, false, false, false, false]
abbrev impl_IdEqual.b4_ : Array Bool := #[true, true, true, true, true, true, false, false]
abbrev impl_IdEqual.b5_ : Array Bool := #[true, true, true, true, true, false, false, false]
abbrev impl_IdEqual.b6_ : Array Bool := #[true, true, true, true, false, true, false, false]
abbrev impl_IdEqual.b7_ : Array Bool := #[true, true, true, false, true, true, false, false]
abbrev impl_IdEqual.b8_ : Array Bool := #[true, true, true, true, false, false, false, false]
abbrev impl_IdEqual.b9_ : Array Bool := #[true, true, true, false, true, false, false, false]
abbrev impl_IdEqual.b10_ : Array Bool := #[true, true, true, false, false, true, false, false]
abbrev impl_IdEqual.b11_ : Array Bool := #[true, false, true, false, true, true, false, false]
abbrev impl_IdEqual.b12_ : Array Bool := #[true, true, true, false, false, false, false, false]
abbrev impl_IdEqual.b13_ : Array Bool := #[true, false, true, false, true, false, false, false]
abbrev impl_IdEqual.b14_ : Array Bool := #[true, false, true, false, false, true, false, false]
abbrev impl_IdEqual.b15_ : Array Bool := #[true, true, true, true, true, true, true, false]
abbrev impl_IdEqual.b16_ : Array Bool := #[true, true, true, true, true, true, true, true]
abbrev impl_IdEqual.b17_ : Array Bool := #[false, false, false, false, false, false, false, false, false, false, false, false]
abbrev impl_IdEqual.b18_ : Array Bool := #[true, false, false, false, false, false, false, false, false, false, false, false]
abbrev impl_IdEqual.b19_ : Array Bool := #[true, true, false, false, false, false, false, false, false, false, false, false]
abbrev impl_IdEqual.b20_ : Array Bool := #[true, true, false, true, false, false, false, false, false, false, false, false]
abbrev impl_IdEqual.b21_ : Array Bool := #[true, true, false, true, true, false, false, false, false, false, false, false]
abbrev impl_IdEqual.b22_ : Array Bool := #[true, true, false, true, true, false, true, false, false, false, false, false]
abbrev impl_IdEqual.b23_ : Array Bool := #[true, true, false, true, true, false, true, true, false, false, false, false]
abbrev impl_IdEqual.b24_ : Array Bool := #[true, true, true, true, true, false, true, true, false, false, false, false]
abbrev impl_IdEqual.b25_ : Array Bool := #[true, true, true, true, true, true, true, true, false, false, false, false]
abbrev impl_IdEqual.b26_ : Array Bool := #[true, true, true, true, true, true, true, true, true, false, false, false]
abbrev impl_IdEqual.b27_ : Array Bool := #[true, true, true, true, true, true, true, true, true, true, false, false]
abbrev impl_IdEqual.b28_ : Array Bool := #[true, true, true, true, true, true, true, true, true, true, true, false]
abbrev impl_IdEqual.b29_ : Array Bool := #[true, true, true, true, true, true, true, true, true, true, true, true]
end Go.Proofs.Ytfdgbgjbncakfaa.GIdEqual

