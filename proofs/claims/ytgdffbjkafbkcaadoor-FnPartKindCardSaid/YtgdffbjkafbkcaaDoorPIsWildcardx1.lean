-- PRINTED BY print.sh 35421559b90ae4d0a3588c463048766b98c2df88dd9212a6774a882060cdf62d: not written by this session
import Derived.Test.YtgdffbjkafbkcaaDoorPIsWildcardx0
namespace Go.Proofs.YtgdffbjkafbkcaaDoor.PIsWildcard
open Go.RowKit Go.Proofs.YtgdffbjkafbkcaaDoorW.PrintWords Go.Proofs.YtgdffbjkafbkcaaDoorW.PrintLast Go.Proofs.YtgdffbjkafbkcaaDoorW.PrintMore
attribute [local go_sem] max2_int min2_int max_two min_two max_three min_three max_four min_four   -- for this text's walks alone
set_option linter.unusedVariables false
set_option linter.unusedSimpArgs false

/-! ### yaml_IsWildcard: function 18 -/
def yaml_IsWildcard.f (a0 : ByteArray) : Option (Bool) := some (a0.toList == ([42] : List UInt8))
set_option maxHeartbeats 8000000 in
set_option maxRecDepth 100000 in
theorem yaml_IsWildcard.calls (a0 : ByteArray) (r : Bool) (w : World) (h : yaml_IsWildcard.f a0 = some r) :
    Calls Tryd.prog 18 #[.string a0] w fun e w' => e = .returned (.bool r) ∧ Drawn0 w w' := by
  have H : (some (a0.toList == ([42] : List UInt8))) = some r := h
  clear h
  obtain rfl := Option.some.inj H
  go_enter Tryd.func18, Tryd.ntmps18
  go_wp2
  go_ret
  exact ⟨by first | rfl | (simp; done) | (simp [*]; done), by repeat (first | exact Drawn0.refl _ | apply Drawn0.step)⟩

/-- THE ONE PURE STATEMENT of yaml_IsWildcard: yours. -/
def yaml_IsWildcard.Pure : Prop := ∀ (a0 : ByteArray), a0.size ≤ 140737488351232 → yaml_IsWildcard.f a0 = some true
theorem yaml_IsWildcard.walk (P : yaml_IsWildcard.Pure) (a0 : ByteArray) (w : World) (w0 : a0.size ≤ 140737488351232) :
    Calls Tryd.prog 18 #[.string a0] w fun e w' => e = .returned (.bool true) ∧ Below w.heap.size w w' := by
  have h := P a0 w0
  refine (yaml_IsWildcard.calls a0 true w h).mono ?_
  rintro e w' ⟨rfl, hd⟩
  exact ⟨rfl, hd.below⟩

end Go.Proofs.YtgdffbjkafbkcaaDoor.PIsWildcard
