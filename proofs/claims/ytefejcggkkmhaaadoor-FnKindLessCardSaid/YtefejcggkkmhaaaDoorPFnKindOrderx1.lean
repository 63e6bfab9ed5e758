-- PRINTED BY print.sh 35421559b90ae4d0a3588c463048766b98c2df88dd9212a6774a882060cdf62d: not written by this session
import Derived.Test.YtefejcggkkmhaaaDoorPFnKindOrderx0
namespace Go.Proofs.YtefejcggkkmhaaaDoor.PFnKindOrder
open Go.RowKit Go.Proofs.YtefejcggkkmhaaaDoorW.PrintWords Go.Proofs.YtefejcggkkmhaaaDoorW.PrintLast Go.Proofs.YtefejcggkkmhaaaDoorW.PrintMore
attribute [local go_sem] max2_int min2_int max_two min_two max_three min_three max_four min_four   -- for this text's walks alone
set_option linter.unusedVariables false
set_option linter.unusedSimpArgs false

-- NOT PRINTED: function 16 (releaseutil_lessByKind)

-- NOT PRINTED: function 13 (releaseutil_ZzLess)

-- NOT PRINTED: function 9 (impl_KindLess)

/-! ### spec_heInstall: function 14 -/
def spec_heInstall.f  : Option (List ByteArray) := some (([(⟨#[80, 114, 105, 111, 114, 105, 116, 121, 67, 108, 97, 115, 115]⟩ : ByteArray), (⟨#[78, 97, 109, 101, 115, 112, 97, 99, 101]⟩ : ByteArray), (⟨#[78, 101, 116, 119, 111, 114, 107, 80, 111, 108, 105, 99, 121]⟩ : ByteArray), (⟨#[82, 101, 115, 111, 117, 114, 99, 101, 81, 117, 111, 116, 97]⟩ : ByteArray), (⟨#[76, 105, 109, 105, 116, 82, 97, 110, 103, 101]⟩ : ByteArray), (⟨#[80, 111, 100, 83, 101, 99, 117, 114, 105, 116, 121, 80, 111, 108, 105, 99, 121]⟩ : ByteArray), (⟨#[80, 111, 100, 68, 105, 115, 114, 117, 112, 116, 105, 111, 110, 66, 117, 100, 103, 101, 116]⟩ : ByteArray), (⟨#[83, 101, 114, 118, 105, 99, 101, 65, 99, 99, 111, 117, 110, 116]⟩ : ByteArray), (⟨#[83, 101, 99, 114, 101, 116]⟩ : ByteArray), (⟨#[83, 101, 99, 114, 101, 116, 76, 105, 115, 116]⟩ : ByteArray), (⟨#[67, 111, 110, 102, 105, 103, 77, 97, 112]⟩ : ByteArray), (⟨#[83, 116, 111, 114, 97, 103, 101, 67, 108, 97, 115, 115]⟩ : ByteArray), (⟨#[80, 101, 114, 115, 105, 115, 116, 101, 110, 116, 86, 111, 108, 117, 109, 101]⟩ : ByteArray), (⟨#[80, 101, 114, 115, 105, 115, 116, 101, 110, 116, 86, 111, 108, 117, 109, 101, 67, 108, 97, 105, 109]⟩ : ByteArray), (⟨#[67, 117, 115, 116, 111, 109, 82, 101, 115, 111, 117, 114, 99, 101, 68, 101, 102, 105, 110, 105, 116, 105, 111, 110]⟩ : ByteArray), (⟨#[67, 108, 117, 115, 116, 101, 114, 82, 111, 108, 101]⟩ : ByteArray), (⟨#[67, 108, 117, 115, 116, 101, 114, 82, 111, 108, 101, 76, 105, 115, 116]⟩ : ByteArray), (⟨#[67, 108, 117, 115, 116, 101, 114, 82, 111, 108, 101, 66, 105, 110, 100, 105, 110, 103]⟩ : ByteArray), (⟨#[67, 108, 117, 115, 116, 101, 114, 82, 111, 108, 101, 66, 105, 110, 100, 105, 110, 103, 76, 105, 115, 116]⟩ : ByteArray), (⟨#[82, 111, 108, 101]⟩ : ByteArray), (⟨#[82, 111, 108, 101, 76, 105, 115, 116]⟩ : ByteArray), (⟨#[82, 111, 108, 101, 66, 105, 110, 100, 105, 110, 103]⟩ : ByteArray), (⟨#[82, 111, 108, 101, 66, 105, 110, 100, 105, 110, 103, 76, 105, 115, 116]⟩ : ByteArray), (⟨#[83, 101, 114, 118, 105, 99, 101]⟩ : ByteArray), (⟨#[68, 97, 101, 109, 111, 110, 83, 101, 116]⟩ : ByteArray), (⟨#[80, 111, 100]⟩ : ByteArray), (⟨#[82, 101, 112, 108, 105, 99, 97, 116, 105, 111, 110, 67, 111, 110, 116, 114, 111, 108, 108, 101, 114]⟩ : ByteArray), (⟨#[82, 101, 112, 108, 105, 99, 97, 83, 101, 116]⟩ : ByteArray), (⟨#[68, 101, 112, 108, 111, 121, 109, 101, 110, 116]⟩ : ByteArray), (⟨#[72, 111, 114, 105, 122, 111, 110, 116, 97, 108, 80, 111, 100, 65, 117, 116, 111, 115, 99, 97, 108, 101, 114]⟩ : ByteArray), (⟨#[83, 116, 97, 116, 101, 102, 117, 108, 83, 101, 116]⟩ : ByteArray), (⟨#[74, 111, 98]⟩ : ByteArray), (⟨#[67, 114, 111, 110, 74, 111, 98]⟩ : ByteArray), (⟨#[73, 110, 103, 114, 101, 115, 115, 67, 108, 97, 115, 115]⟩ : ByteArray), (⟨#[73, 110, 103, 114, 101, 115, 115]⟩ : ByteArray), (⟨#[65, 80, 73, 83, 101, 114, 118, 105, 99, 101]⟩ : ByteArray)] : List ByteArray))
set_option maxHeartbeats 8000000 in
set_option maxRecDepth 100000 in
theorem spec_heInstall.calls  (r : List ByteArray) (w : World) (h : spec_heInstall.f  = some r) :
    Calls Tryd.prog 14 #[] w fun e w' => ∃ v0_ : Value, e = .returned (v0_) ∧ Kd.R Kd.string 9 w' w.heap.size (fun _ => True) v0_ r ∧ Below w.heap.size w w' := by
  have HB := Aside0.mk (Below.refl w.heap.size w)
  have H : (some (([(⟨#[80, 114, 105, 111, 114, 105, 116, 121, 67, 108, 97, 115, 115]⟩ : ByteArray), (⟨#[78, 97, 109, 101, 115, 112, 97, 99, 101]⟩ : ByteArray), (⟨#[78, 101, 116, 119, 111, 114, 107, 80, 111, 108, 105, 99, 121]⟩ : ByteArray), (⟨#[82, 101, 115, 111, 117, 114, 99, 101, 81, 117, 111, 116, 97]⟩ : ByteArray), (⟨#[76, 105, 109, 105, 116, 82, 97, 110, 103, 101]⟩ : ByteArray), (⟨#[80, 111, 100, 83, 101, 99, 117, 114, 105, 116, 121, 80, 111, 108, 105, 99, 121]⟩ : ByteArray), (⟨#[80, 111, 100, 68, 105, 115, 114, 117, 112, 116, 105, 111, 110, 66, 117, 100, 103, 101, 116]⟩ : ByteArray), (⟨#[83, 101, 114, 118, 105, 99, 101, 65, 99, 99, 111, 117, 110, 116]⟩ : ByteArray), (⟨#[83, 101, 99, 114, 101, 116]⟩ : ByteArray), (⟨#[83, 101, 99, 114, 101, 116, 76, 105, 115, 116]⟩ : ByteArray), (⟨#[67, 111, 110, 102, 105, 103, 77, 97, 112]⟩ : ByteArray), (⟨#[83, 116, 111, 114, 97, 103, 101, 67, 108, 97, 115, 115]⟩ : ByteArray), (⟨#[80, 101, 114, 115, 105, 115, 116, 101, 110, 116, 86, 111, 108, 117, 109, 101]⟩ : ByteArray), (⟨#[80, 101, 114, 115, 105, 115, 116, 101, 110, 116, 86, 111, 108, 117, 109, 101, 67, 108, 97, 105, 109]⟩ : ByteArray), (⟨#[67, 117, 115, 116, 111, 109, 82, 101, 115, 111, 117, 114, 99, 101, 68, 101, 102, 105, 110, 105, 116, 105, 111, 110]⟩ : ByteArray), (⟨#[67, 108, 117, 115, 116, 101, 114, 82, 111, 108, 101]⟩ : ByteArray), (⟨#[67, 108, 117, 115, 116, 101, 114, 82, 111, 108, 101, 76, 105, 115, 116]⟩ : ByteArray), (⟨#[67, 108, 117, 115, 116, 101, 114, 82, 111, 108, 101, 66, 105, 110, 100, 105, 110, 103]⟩ : ByteArray), (⟨#[67, 108, 117, 115, 116, 101, 114, 82, 111, 108, 101, 66, 105, 110, 100, 105, 110, 103, 76, 105, 115, 116]⟩ : ByteArray), (⟨#[82, 111, 108, 101]⟩ : ByteArray), (⟨#[82, 111, 108, 101, 76, 105, 115, 116]⟩ : ByteArray), (⟨#[82, 111, 108, 101, 66, 105, 110, 100, 105, 110, 103]⟩ : ByteArray), (⟨#[82, 111, 108, 101, 66, 105, 110, 100, 105, 110, 103, 76, 105, 115, 116]⟩ : ByteArray), (⟨#[83, 101, 114, 118, 105, 99, 101]⟩ : ByteArray), (⟨#[68, 97, 101, 109, 111, 110, 83, 101, 116]⟩ : ByteArray), (⟨#[80, 111, 100]⟩ : ByteArray), (⟨#[82, 101, 112, 108, 105, 99, 97, 116, 105, 111, 110, 67, 111, 110, 116, 114, 111, 108, 108, 101, 114]⟩ : ByteArray), (⟨#[82, 101, 112, 108, 105, 99, 97, 83, 101, 116]⟩ : ByteArray), (⟨#[68, 101, 112, 108, 111, 121, 109, 101, 110, 116]⟩ : ByteArray), (⟨#[72, 111, 114, 105, 122, 111, 110, 116, 97, 108, 80, 111, 100, 65, 117, 116, 111, 115, 99, 97, 108, 101, 114]⟩ : ByteArray), (⟨#[83, 116, 97, 116, 101, 102, 117, 108, 83, 101, 116]⟩ : ByteArray), (⟨#[74, 111, 98]⟩ : ByteArray), (⟨#[67, 114, 111, 110, 74, 111, 98]⟩ : ByteArray), (⟨#[73, 110, 103, 114, 101, 115, 115, 67, 108, 97, 115, 115]⟩ : ByteArray), (⟨#[73, 110, 103, 114, 101, 115, 115]⟩ : ByteArray), (⟨#[65, 80, 73, 83, 101, 114, 118, 105, 99, 101]⟩ : ByteArray)] : List ByteArray))) = some r := h
  clear h
  obtain ⟨y101, hy101⟩ : ∃ y_ : List ByteArray, y_ = (([(⟨#[80, 114, 105, 111, 114, 105, 116, 121, 67, 108, 97, 115, 115]⟩ : ByteArray), (⟨#[78, 97, 109, 101, 115, 112, 97, 99, 101]⟩ : ByteArray), (⟨#[78, 101, 116, 119, 111, 114, 107, 80, 111, 108, 105, 99, 121]⟩ : ByteArray), (⟨#[82, 101, 115, 111, 117, 114, 99, 101, 81, 117, 111, 116, 97]⟩ : ByteArray), (⟨#[76, 105, 109, 105, 116, 82, 97, 110, 103, 101]⟩ : ByteArray), (⟨#[80, 111, 100, 83, 101, 99, 117, 114, 105, 116, 121, 80, 111, 108, 105, 99, 121]⟩ : ByteArray), (⟨#[80, 111, 100, 68, 105, 115, 114, 117, 112, 116, 105, 111, 110, 66, 117, 100, 103, 101, 116]⟩ : ByteArray), (⟨#[83, 101, 114, 118, 105, 99, 101, 65, 99, 99, 111, 117, 110, 116]⟩ : ByteArray), (⟨#[83, 101, 99, 114, 101, 116]⟩ : ByteArray), (⟨#[83, 101, 99, 114, 101, 116, 76, 105, 115, 116]⟩ : ByteArray), (⟨#[67, 111, 110, 102, 105, 103, 77, 97, 112]⟩ : ByteArray), (⟨#[83, 116, 111, 114, 97, 103, 101, 67, 108, 97, 115, 115]⟩ : ByteArray), (⟨#[80, 101, 114, 115, 105, 115, 116, 101, 110, 116, 86, 111, 108, 117, 109, 101]⟩ : ByteArray), (⟨#[80, 101, 114, 115, 105, 115, 116, 101, 110, 116, 86, 111, 108, 117, 109, 101, 67, 108, 97, 105, 109]⟩ : ByteArray), (⟨#[67, 117, 115, 116, 111, 109, 82, 101, 115, 111, 117, 114, 99, 101, 68, 101, 102, 105, 110, 105, 116, 105, 111, 110]⟩ : ByteArray), (⟨#[67, 108, 117, 115, 116, 101, 114, 82, 111, 108, 101]⟩ : ByteArray), (⟨#[67, 108, 117, 115, 116, 101, 114, 82, 111, 108, 101, 76, 105, 115, 116]⟩ : ByteArray), (⟨#[67, 108, 117, 115, 116, 101, 114, 82, 111, 108, 101, 66, 105, 110, 100, 105, 110, 103]⟩ : ByteArray), (⟨#[67, 108, 117, 115, 116, 101, 114, 82, 111, 108, 101, 66, 105, 110, 100, 105, 110, 103, 76, 105, 115, 116]⟩ : ByteArray), (⟨#[82, 111, 108, 101]⟩ : ByteArray), (⟨#[82, 111, 108, 101, 76, 105, 115, 116]⟩ : ByteArray), (⟨#[82, 111, 108, 101, 66, 105, 110, 100, 105, 110, 103]⟩ : ByteArray), (⟨#[82, 111, 108, 101, 66, 105, 110, 100, 105, 110, 103, 76, 105, 115, 116]⟩ : ByteArray), (⟨#[83, 101, 114, 118, 105, 99, 101]⟩ : ByteArray), (⟨#[68, 97, 101, 109, 111, 110, 83, 101, 116]⟩ : ByteArray), (⟨#[80, 111, 100]⟩ : ByteArray), (⟨#[82, 101, 112, 108, 105, 99, 97, 116, 105, 111, 110, 67, 111, 110, 116, 114, 111, 108, 108, 101, 114]⟩ : ByteArray), (⟨#[82, 101, 112, 108, 105, 99, 97, 83, 101, 116]⟩ : ByteArray), (⟨#[68, 101, 112, 108, 111, 121, 109, 101, 110, 116]⟩ : ByteArray), (⟨#[72, 111, 114, 105, 122, 111, 110, 116, 97, 108, 80, 111, 100, 65, 117, 116, 111, 115, 99, 97, 108, 101, 114]⟩ : ByteArray), (⟨#[83, 116, 97, 116, 101, 102, 117, 108, 83, 101, 116]⟩ : ByteArray), (⟨#[74, 111, 98]⟩ : ByteArray), (⟨#[67, 114, 111, 110, 74, 111, 98]⟩ : ByteArray), (⟨#[73, 110, 103, 114, 101, 115, 115, 67, 108, 97, 115, 115]⟩ : ByteArray), (⟨#[73, 110, 103, 114, 101, 115, 115]⟩ : ByteArray), (⟨#[65, 80, 73, 83, 101, 114, 118, 105, 99, 101]⟩ : ByteArray)] : List ByteArray)) := ⟨_, rfl⟩
  replace H : (some y101) = some r := by first | (rw [hy101]; with_reducible exact H) | (have H2_ := (Option.bind_some _ _).symm.trans H; rw [hy101]; with_reducible exact H2_) | (have H2_ := (Option.bind_some _ _).symm.trans H; with_reducible exact H2_) | with_reducible exact H | (rw [hy101]; exact H) | exact H
  have Ny101 := Aside0.mk hy101
  clear hy101
  obtain rfl := Option.some.inj H
  go_enter Tryd.func14, Tryd.ntmps14
  go_wp2_with (first | ((with_reducible refine gate_dst (N := 1) rfl ?_); refine Kd.R_lit Kd.string _ 9 ?hg (N := 1) ?hd (xs := ([(⟨#[80, 114, 105, 111, 114, 105, 116, 121, 67, 108, 97, 115, 115]⟩ : ByteArray), (⟨#[78, 97, 109, 101, 115, 112, 97, 99, 101]⟩ : ByteArray), (⟨#[78, 101, 116, 119, 111, 114, 107, 80, 111, 108, 105, 99, 121]⟩ : ByteArray), (⟨#[82, 101, 115, 111, 117, 114, 99, 101, 81, 117, 111, 116, 97]⟩ : ByteArray), (⟨#[76, 105, 109, 105, 116, 82, 97, 110, 103, 101]⟩ : ByteArray), (⟨#[80, 111, 100, 83, 101, 99, 117, 114, 105, 116, 121, 80, 111, 108, 105, 99, 121]⟩ : ByteArray), (⟨#[80, 111, 100, 68, 105, 115, 114, 117, 112, 116, 105, 111, 110, 66, 117, 100, 103, 101, 116]⟩ : ByteArray), (⟨#[83, 101, 114, 118, 105, 99, 101, 65, 99, 99, 111, 117, 110, 116]⟩ : ByteArray), (⟨#[83, 101, 99, 114, 101, 116]⟩ : ByteArray), (⟨#[83, 101, 99, 114, 101, 116, 76, 105, 115, 116]⟩ : ByteArray), (⟨#[67, 111, 110, 102, 105, 103, 77, 97, 112]⟩ : ByteArray), (⟨#[83, 116, 111, 114, 97, 103, 101, 67, 108, 97, 115, 115]⟩ : ByteArray), (⟨#[80, 101, 114, 115, 105, 115, 116, 101, 110, 116, 86, 111, 108, 117, 109, 101]⟩ : ByteArray), (⟨#[80, 101, 114, 115, 105, 115, 116, 101, 110, 116, 86, 111, 108, 117, 109, 101, 67, 108, 97, 105, 109]⟩ : ByteArray), (⟨#[67, 117, 115, 116, 111, 109, 82, 101, 115, 111, 117, 114, 99, 101, 68, 101, 102, 105, 110, 105, 116, 105, 111, 110]⟩ : ByteArray), (⟨#[67, 108, 117, 115, 116, 101, 114, 82, 111, 108, 101]⟩ : ByteArray), (⟨#[67, 108, 117, 115, 116, 101, 114, 82, 111, 108, 101, 76, 105, 115, 116]⟩ : ByteArray), (⟨#[67, 108, 117, 115, 116, 101, 114, 82, 111, 108, 101, 66, 105, 110, 100, 105, 110, 103]⟩ : ByteArray), (⟨#[67, 108, 117, 115, 116, 101, 114, 82, 111, 108, 101, 66, 105, 110, 100, 105, 110, 103, 76, 105, 115, 116]⟩ : ByteArray), (⟨#[82, 111, 108, 101]⟩ : ByteArray), (⟨#[82, 111, 108, 101, 76, 105, 115, 116]⟩ : ByteArray), (⟨#[82, 111, 108, 101, 66, 105, 110, 100, 105, 110, 103]⟩ : ByteArray), (⟨#[82, 111, 108, 101, 66, 105, 110, 100, 105, 110, 103, 76, 105, 115, 116]⟩ : ByteArray), (⟨#[83, 101, 114, 118, 105, 99, 101]⟩ : ByteArray), (⟨#[68, 97, 101, 109, 111, 110, 83, 101, 116]⟩ : ByteArray), (⟨#[80, 111, 100]⟩ : ByteArray), (⟨#[82, 101, 112, 108, 105, 99, 97, 116, 105, 111, 110, 67, 111, 110, 116, 114, 111, 108, 108, 101, 114]⟩ : ByteArray), (⟨#[82, 101, 112, 108, 105, 99, 97, 83, 101, 116]⟩ : ByteArray), (⟨#[68, 101, 112, 108, 111, 121, 109, 101, 110, 116]⟩ : ByteArray), (⟨#[72, 111, 114, 105, 122, 111, 110, 116, 97, 108, 80, 111, 100, 65, 117, 116, 111, 115, 99, 97, 108, 101, 114]⟩ : ByteArray), (⟨#[83, 116, 97, 116, 101, 102, 117, 108, 83, 101, 116]⟩ : ByteArray), (⟨#[74, 111, 98]⟩ : ByteArray), (⟨#[67, 114, 111, 110, 74, 111, 98]⟩ : ByteArray), (⟨#[73, 110, 103, 114, 101, 115, 115, 67, 108, 97, 115, 115]⟩ : ByteArray), (⟨#[73, 110, 103, 114, 101, 115, 115]⟩ : ByteArray), (⟨#[65, 80, 73, 83, 101, 114, 118, 105, 99, 101]⟩ : ByteArray)] : List ByteArray)) (inner := [.string (⟨#[80, 114, 105, 111, 114, 105, 116, 121, 67, 108, 97, 115, 115]⟩ : ByteArray), .string (⟨#[78, 97, 109, 101, 115, 112, 97, 99, 101]⟩ : ByteArray), .string (⟨#[78, 101, 116, 119, 111, 114, 107, 80, 111, 108, 105, 99, 121]⟩ : ByteArray), .string (⟨#[82, 101, 115, 111, 117, 114, 99, 101, 81, 117, 111, 116, 97]⟩ : ByteArray), .string (⟨#[76, 105, 109, 105, 116, 82, 97, 110, 103, 101]⟩ : ByteArray), .string (⟨#[80, 111, 100, 83, 101, 99, 117, 114, 105, 116, 121, 80, 111, 108, 105, 99, 121]⟩ : ByteArray), .string (⟨#[80, 111, 100, 68, 105, 115, 114, 117, 112, 116, 105, 111, 110, 66, 117, 100, 103, 101, 116]⟩ : ByteArray), .string (⟨#[83, 101, 114, 118, 105, 99, 101, 65, 99, 99, 111, 117, 110, 116]⟩ : ByteArray), .string (⟨#[83, 101, 99, 114, 101, 116]⟩ : ByteArray), .string (⟨#[83, 101, 99, 114, 101, 116, 76, 105, 115, 116]⟩ : ByteArray), .string (⟨#[67, 111, 110, 102, 105, 103, 77, 97, 112]⟩ : ByteArray), .string (⟨#[83, 116, 111, 114, 97, 103, 101, 67, 108, 97, 115, 115]⟩ : ByteArray), .string (⟨#[80, 101, 114, 115, 105, 115, 116, 101, 110, 116, 86, 111, 108, 117, 109, 101]⟩ : ByteArray), .string (⟨#[80, 101, 114, 115, 105, 115, 116, 101, 110, 116, 86, 111, 108, 117, 109, 101, 67, 108, 97, 105, 109]⟩ : ByteArray), .string (⟨#[67, 117, 115, 116, 111, 109, 82, 101, 115, 111, 117, 114, 99, 101, 68, 101, 102, 105, 110, 105, 116, 105, 111, 110]⟩ : ByteArray), .string (⟨#[67, 108, 117, 115, 116, 101, 114, 82, 111, 108, 101]⟩ : ByteArray), .string (⟨#[67, 108, 117, 115, 116, 101, 114, 82, 111, 108, 101, 76, 105, 115, 116]⟩ : ByteArray), .string (⟨#[67, 108, 117, 115, 116, 101, 114, 82, 111, 108, 101, 66, 105, 110, 100, 105, 110, 103]⟩ : ByteArray), .string (⟨#[67, 108, 117, 115, 116, 101, 114, 82, 111, 108, 101, 66, 105, 110, 100, 105, 110, 103, 76, 105, 115, 116]⟩ : ByteArray), .string (⟨#[82, 111, 108, 101]⟩ : ByteArray), .string (⟨#[82, 111, 108, 101, 76, 105, 115, 116]⟩ : ByteArray), .string (⟨#[82, 111, 108, 101, 66, 105, 110, 100, 105, 110, 103]⟩ : ByteArray), .string (⟨#[82, 111, 108, 101, 66, 105, 110, 100, 105, 110, 103, 76, 105, 115, 116]⟩ : ByteArray), .string (⟨#[83, 101, 114, 118, 105, 99, 101]⟩ : ByteArray), .string (⟨#[68, 97, 101, 109, 111, 110, 83, 101, 116]⟩ : ByteArray), .string (⟨#[80, 111, 100]⟩ : ByteArray), .string (⟨#[82, 101, 112, 108, 105, 99, 97, 116, 105, 111, 110, 67, 111, 110, 116, 114, 111, 108, 108, 101, 114]⟩ : ByteArray), .string (⟨#[82, 101, 112, 108, 105, 99, 97, 83, 101, 116]⟩ : ByteArray), .string (⟨#[68, 101, 112, 108, 111, 121, 109, 101, 110, 116]⟩ : ByteArray), .string (⟨#[72, 111, 114, 105, 122, 111, 110, 116, 97, 108, 80, 111, 100, 65, 117, 116, 111, 115, 99, 97, 108, 101, 114]⟩ : ByteArray), .string (⟨#[83, 116, 97, 116, 101, 102, 117, 108, 83, 101, 116]⟩ : ByteArray), .string (⟨#[74, 111, 98]⟩ : ByteArray), .string (⟨#[67, 114, 111, 110, 74, 111, 98]⟩ : ByteArray), .string (⟨#[73, 110, 103, 114, 101, 115, 115, 67, 108, 97, 115, 115]⟩ : ByteArray), .string (⟨#[73, 110, 103, 114, 101, 115, 115]⟩ : ByteArray), .string (⟨#[65, 80, 73, 83, 101, 114, 118, 105, 99, 101]⟩ : ByteArray)]) (ok := fun _ => True) (okp := fun _ => True) ?hr ?hp (fun _ hk => hk) trivial (Below.refl _ _) (Nat.le_refl _) (by simp) ?_; (case hd => rfl); (case hg => rfl); (case hr => first | (go_simp; done) | (go_simp; rfl)); (case hp => exact (Reps.one (show Kd.M Kd.string _ _ _ (⟨#[80, 114, 105, 111, 114, 105, 116, 121, 67, 108, 97, 115, 115]⟩ : ByteArray) [.string (⟨#[80, 114, 105, 111, 114, 105, 116, 121, 67, 108, 97, 115, 115]⟩ : ByteArray)] from rfl) (Reps.one (show Kd.M Kd.string _ _ _ (⟨#[78, 97, 109, 101, 115, 112, 97, 99, 101]⟩ : ByteArray) [.string (⟨#[78, 97, 109, 101, 115, 112, 97, 99, 101]⟩ : ByteArray)] from rfl) (Reps.one (show Kd.M Kd.string _ _ _ (⟨#[78, 101, 116, 119, 111, 114, 107, 80, 111, 108, 105, 99, 121]⟩ : ByteArray) [.string (⟨#[78, 101, 116, 119, 111, 114, 107, 80, 111, 108, 105, 99, 121]⟩ : ByteArray)] from rfl) (Reps.one (show Kd.M Kd.string _ _ _ (⟨#[82, 101, 115, 111, 117, 114, 99, 101, 81, 117, 111, 116, 97]⟩ : ByteArray) [.string (⟨#[82, 101, 115, 111, 117, 114, 99, 101, 81, 117, 111, 116, 97]⟩ : ByteArray)] from rfl) (Reps.one (show Kd.M Kd.string _ _ _ (⟨#[76, 105, 109, 105, 116, 82, 97, 110, 103, 101]⟩ : ByteArray) [.string (⟨#[76, 105, 109, 105, 116, 82, 97, 110, 103, 101]⟩ : ByteArray)] from rfl) (Reps.one (show Kd.M Kd.string _ _ _ (⟨#[80, 111, 100, 83, 101, 99, 117, 114, 105, 116, 121, 80, 111, 108, 105, 99, 121]⟩ : ByteArray) [.string (⟨#[80, 111, 100, 83, 101, 99, 117, 114, 105, 116, 121, 80, 111, 108, 105, 99, 121]⟩ : ByteArray)] from rfl) (Reps.one (show Kd.M Kd.string _ _ _ (⟨#[80, 111, 100, 68, 105, 115, 114, 117, 112, 116, 105, 111, 110, 66, 117, 100, 103, 101, 116]⟩ : ByteArray) [.string (⟨#[80, 111, 100, 68, 105, 115, 114, 117, 112, 116, 105, 111, 110, 66, 117, 100, 103, 101, 116]⟩ : ByteArray)] from rfl) (Reps.one (show Kd.M Kd.string _ _ _ (⟨#[83, 101, 114, 118, 105, 99, 101, 65, 99, 99, 111, 117, 110, 116]⟩ : ByteArray) [.string (⟨#[83, 101, 114, 118, 105, 99, 101, 65, 99, 99, 111, 117, 110, 116]⟩ : ByteArray)] from rfl) (Reps.one (show Kd.M Kd.string _ _ _ (⟨#[83, 101, 99, 114, 101, 116]⟩ : ByteArray) [.string (⟨#[83, 101, 99, 114, 101, 116]⟩ : ByteArray)] from rfl) (Reps.one (show Kd.M Kd.string _ _ _ (⟨#[83, 101, 99, 114, 101, 116, 76, 105, 115, 116]⟩ : ByteArray) [.string (⟨#[83, 101, 99, 114, 101, 116, 76, 105, 115, 116]⟩ : ByteArray)] from rfl) (Reps.one (show Kd.M Kd.string _ _ _ (⟨#[67, 111, 110, 102, 105, 103, 77, 97, 112]⟩ : ByteArray) [.string (⟨#[67, 111, 110, 102, 105, 103, 77, 97, 112]⟩ : ByteArray)] from rfl) (Reps.one (show Kd.M Kd.string _ _ _ (⟨#[83, 116, 111, 114, 97, 103, 101, 67, 108, 97, 115, 115]⟩ : ByteArray) [.string (⟨#[83, 116, 111, 114, 97, 103, 101, 67, 108, 97, 115, 115]⟩ : ByteArray)] from rfl) (Reps.one (show Kd.M Kd.string _ _ _ (⟨#[80, 101, 114, 115, 105, 115, 116, 101, 110, 116, 86, 111, 108, 117, 109, 101]⟩ : ByteArray) [.string (⟨#[80, 101, 114, 115, 105, 115, 116, 101, 110, 116, 86, 111, 108, 117, 109, 101]⟩ : ByteArray)] from rfl) (Reps.one (show Kd.M Kd.string _ _ _ (⟨#[80, 101, 114, 115, 105, 115, 116, 101, 110, 116, 86, 111, 108, 117, 109, 101, 67, 108, 97, 105, 109]⟩ : ByteArray) [.string (⟨#[80, 101, 114, 115, 105, 115, 116, 101, 110, 116, 86, 111, 108, 117, 109, 101, 67, 108, 97, 105, 109]⟩ : ByteArray)] from rfl) (Reps.one (show Kd.M Kd.string _ _ _ (⟨#[67, 117, 115, 116, 111, 109, 82, 101, 115, 111, 117, 114, 99, 101, 68, 101, 102, 105, 110, 105, 116, 105, 111, 110]⟩ : ByteArray) [.string (⟨#[67, 117, 115, 116, 111, 109, 82, 101, 115, 111, 117, 114, 99, 101, 68, 101, 102, 105, 110, 105, 116, 105, 111, 110]⟩ : ByteArray)] from rfl) (Reps.one (show Kd.M Kd.string _ _ _ (⟨#[67, 108, 117, 115, 116, 101, 114, 82, 111, 108, 101]⟩ : ByteArray) [.string (⟨#[67, 108, 117, 115, 116, 101, 114, 82, 111, 108, 101]⟩ : ByteArray)] from rfl) (Reps.one (show Kd.M Kd.string _ _ _ (⟨#[67, 108, 117, 115, 116, 101, 114, 82, 111, 108, 101, 76, 105, 115, 116]⟩ : ByteArray) [.string (⟨#[67, 108, 117, 115, 116, 101, 114, 82, 111, 108, 101, 76, 105, 115, 116]⟩ : ByteArray)] from rfl) (Reps.one (show Kd.M Kd.string _ _ _ (⟨#[67, 108, 117, 115, 116, 101, 114, 82, 111, 108, 101, 66, 105, 110, 100, 105, 110, 103]⟩ : ByteArray) [.string (⟨#[67, 108, 117, 115, 116, 101, 114, 82, 111, 108, 101, 66, 105, 110, 100, 105, 110, 103]⟩ : ByteArray)] from rfl) (Reps.one (show Kd.M Kd.string _ _ _ (⟨#[67, 108, 117, 115, 116, 101, 114, 82, 111, 108, 101, 66, 105, 110, 100, 105, 110, 103, 76, 105, 115, 116]⟩ : ByteArray) [.string (⟨#[67, 108, 117, 115, 116, 101, 114, 82, 111, 108, 101, 66, 105, 110, 100, 105, 110, 103, 76, 105, 115, 116]⟩ : ByteArray)] from rfl) (Reps.one (show Kd.M Kd.string _ _ _ (⟨#[82, 111, 108, 101]⟩ : ByteArray) [.string (⟨#[82, 111, 108, 101]⟩ : ByteArray)] from rfl) (Reps.one (show Kd.M Kd.string _ _ _ (⟨#[82, 111, 108, 101, 76, 105, 115, 116]⟩ : ByteArray) [.string (⟨#[82, 111, 108, 101, 76, 105, 115, 116]⟩ : ByteArray)] from rfl) (Reps.one (show Kd.M Kd.string _ _ _ (⟨#[82, 111, 108, 101, 66, 105, 110, 100, 105, 110, 103]⟩ : ByteArray) [.string (⟨#[82, 111, 108, 101, 66, 105, 110, 100, 105, 110, 103]⟩ : ByteArray)] from rfl) (Reps.one (show Kd.M Kd.string _ _ _ (⟨#[82, 111, 108, 101, 66, 105, 110, 100, 105, 110, 103, 76, 105, 115, 116]⟩ : ByteArray) [.string (⟨#[82, 111, 108, 101, 66, 105, 110, 100, 105, 110, 103, 76, 105, 115, 116]⟩ : ByteArray)] from rfl) (Reps.one (show Kd.M Kd.string _ _ _ (⟨#[83, 101, 114, 118, 105, 99, 101]⟩ : ByteArray) [.string (⟨#[83, 101, 114, 118, 105, 99, 101]⟩ : ByteArray)] from rfl) (Reps.one (show Kd.M Kd.string _ _ _ (⟨#[68, 97, 101, 109, 111, 110, 83, 101, 116]⟩ : ByteArray) [.string (⟨#[68, 97, 101, 109, 111, 110, 83, 101, 116]⟩ : ByteArray)] from rfl) (Reps.one (show Kd.M Kd.string _ _ _ (⟨#[80, 111, 100]⟩ : ByteArray) [.string (⟨#[80, 111, 100]⟩ : ByteArray)] from rfl) (Reps.one (show Kd.M Kd.string _ _ _ (⟨#[82, 101, 112, 108, 105, 99, 97, 116, 105, 111, 110, 67, 111, 110, 116, 114, 111, 108, 108, 101, 114]⟩ : ByteArray) [.string (⟨#[82, 101, 112, 108, 105, 99, 97, 116, 105, 111, 110, 67, 111, 110, 116, 114, 111, 108, 108, 101, 114]⟩ : ByteArray)] from rfl) (Reps.one (show Kd.M Kd.string _ _ _ (⟨#[82, 101, 112, 108, 105, 99, 97, 83, 101, 116]⟩ : ByteArray) [.string (⟨#[82, 101, 112, 108, 105, 99, 97, 83, 101, 116]⟩ : ByteArray)] from rfl) (Reps.one (show Kd.M Kd.string _ _ _ (⟨#[68, 101, 112, 108, 111, 121, 109, 101, 110, 116]⟩ : ByteArray) [.string (⟨#[68, 101, 112, 108, 111, 121, 109, 101, 110, 116]⟩ : ByteArray)] from rfl) (Reps.one (show Kd.M Kd.string _ _ _ (⟨#[72, 111, 114, 105, 122, 111, 110, 116, 97, 108, 80, 111, 100, 65, 117, 116, 111, 115, 99, 97, 108, 101, 114]⟩ : ByteArray) [.string (⟨#[72, 111, 114, 105, 122, 111, 110, 116, 97, 108, 80, 111, 100, 65, 117, 116, 111, 115, 99, 97, 108, 101, 114]⟩ : ByteArray)] from rfl) (Reps.one (show Kd.M Kd.string _ _ _ (⟨#[83, 116, 97, 116, 101, 102, 117, 108, 83, 101, 116]⟩ : ByteArray) [.string (⟨#[83, 116, 97, 116, 101, 102, 117, 108, 83, 101, 116]⟩ : ByteArray)] from rfl) (Reps.one (show Kd.M Kd.string _ _ _ (⟨#[74, 111, 98]⟩ : ByteArray) [.string (⟨#[74, 111, 98]⟩ : ByteArray)] from rfl) (Reps.one (show Kd.M Kd.string _ _ _ (⟨#[67, 114, 111, 110, 74, 111, 98]⟩ : ByteArray) [.string (⟨#[67, 114, 111, 110, 74, 111, 98]⟩ : ByteArray)] from rfl) (Reps.one (show Kd.M Kd.string _ _ _ (⟨#[73, 110, 103, 114, 101, 115, 115, 67, 108, 97, 115, 115]⟩ : ByteArray) [.string (⟨#[73, 110, 103, 114, 101, 115, 115, 67, 108, 97, 115, 115]⟩ : ByteArray)] from rfl) (Reps.one (show Kd.M Kd.string _ _ _ (⟨#[73, 110, 103, 114, 101, 115, 115]⟩ : ByteArray) [.string (⟨#[73, 110, 103, 114, 101, 115, 115]⟩ : ByteArray)] from rfl) (Reps.one (show Kd.M Kd.string _ _ _ (⟨#[65, 80, 73, 83, 101, 114, 118, 105, 99, 101]⟩ : ByteArray) [.string (⟨#[65, 80, 73, 83, 101, 114, 118, 105, 99, 101]⟩ : ByteArray)] from rfl) (Reps.none _ _)))))))))))))))))))))))))))))))))))))); intro v102 w1 ho2 hb hg_ hnew_; clear hg_ hnew_; (first | rw [← Ny101.out] at ho2 | (simp only [Int.reduceToNat] at ho2; rw [← Ny101.out] at ho2)); have n0_ := Aside0.mk (Kd.R_lower ho2 (below_size (by repeat (first | (with_reducible first | exact HB.out | apply below_alloc | apply pw_below_drewN | apply below_drew1) | exact HB.out)))); have n1_ := Aside0.mk (below_step (by repeat (first | (with_reducible first | exact HB.out | apply below_alloc | apply pw_below_drewN | apply below_drew1) | exact HB.out)) hb); clear HB; have HO103 := n0_; have HB := n1_; clear n0_ n1_; clear hb ho2))
  go_ret
  exact ⟨_, by first | rfl | (simp [errW_none, errW_some] <;> rfl) | (simp [*, errW_none, errW_some] <;> rfl), by (with_reducible repeat (first | apply Kd.R_alloc | apply Kd.R_drewN | apply Kd.R_drew)); exact HO103.out, by repeat (first | (with_reducible first | exact HB.out | apply below_alloc | apply pw_below_drewN | apply below_drew1) | exact HB.out)⟩

/-! ### spec_KindPlace: function 10 -/
mutual
def spec_KindPlace.j1 : Nat → ByteArray → List ByteArray → Option (Int)
  | 0, _, _ => none
  | k + 1, x0, x5 => spec_KindPlace.l1 k x0 x5 x5 (x5.length : Int) 0
def spec_KindPlace.l1 : Nat → ByteArray → List ByteArray → List ByteArray → Int → Int → Option (Int)
  | 0, _, _, _, _, _ => none
  | k + 1, x0, x5, x40, x41, x42 => if x42 < x41 then (if 0 ≤ x42 then (if x42 < (x40.length : Int) then (if (rdOf ByteArray.empty x40 x42).toList = x0.toList then (some x42) else (spec_KindPlace.l1 k x0 x5 x40 x41 (wrap64 (x42 + 1)))) else (none)) else (none)) else (some (x5.length : Int))
def spec_KindPlace.l0 : Nat → ByteArray → List ByteArray → List ByteArray → Int → Option (Int)
  | 0, _, _, _, _ => none
  | k + 1, x0, x5, x6, x7 => if x7 ≥ 0 then (if 0 ≤ x7 then (if x7 < (x5.length : Int) then (if (rdOf ByteArray.empty x5 x7).toList = ([83, 101, 114, 118, 105, 99, 101] : List UInt8) then (if (rdOf ByteArray.empty x5 x7).toList = ([73, 110, 103, 114, 101, 115, 115, 67, 108, 97, 115, 115] : List UInt8) then (if x6.length < 8796093022208 then (spec_KindPlace.l0 k x0 x5 (x6 ++ [(⟨#[83, 101, 114, 118, 105, 99, 101]⟩ : ByteArray)]) (wrap64 (x7 - 1))) else (none)) else (spec_KindPlace.l0 k x0 x5 x6 (wrap64 (x7 - 1)))) else (if x6.length < 8796093022208 then ((some (x6 ++ [rdOf ByteArray.empty x5 x7] : List ByteArray)).bind fun y113 => (if (rdOf ByteArray.empty x5 x7).toList = ([73, 110, 103, 114, 101, 115, 115, 67, 108, 97, 115, 115] : List UInt8) then (if y113.length < 8796093022208 then (spec_KindPlace.l0 k x0 x5 (y113 ++ [(⟨#[83, 101, 114, 118, 105, 99, 101]⟩ : ByteArray)]) (wrap64 (x7 - 1))) else (none)) else (spec_KindPlace.l0 k x0 x5 y113 (wrap64 (x7 - 1))))) else (none))) else (none)) else (none)) else (spec_KindPlace.j1 k x0 x6)
end
def spec_KindPlace.f (k : Nat) (a0 : ByteArray) (a1 : Bool) : Option (Int) := (spec_heInstall.f).bind fun t104 => (if a1 = true then (spec_KindPlace.l0 k a0 t104 ([] : List ByteArray) (wrap64 ((t104.length : Int) - 1))) else (spec_KindPlace.j1 k a0 t104))
theorem spec_KindPlace.mono_l : ∀ k, (∀ y0 y1, LeO (spec_KindPlace.j1 k y0 y1) (spec_KindPlace.j1 (k + 1) y0 y1)) ∧ (∀ y0 y1 y2 y3 y4, LeO (spec_KindPlace.l1 k y0 y1 y2 y3 y4) (spec_KindPlace.l1 (k + 1) y0 y1 y2 y3 y4)) ∧ (∀ y0 y1 y2 y3, LeO (spec_KindPlace.l0 k y0 y1 y2 y3) (spec_KindPlace.l0 (k + 1) y0 y1 y2 y3))
  | 0 => ⟨fun _ _ r h => by simp [spec_KindPlace.j1] at h, fun _ _ _ _ _ r h => by simp [spec_KindPlace.l1] at h, fun _ _ _ _ r h => by simp [spec_KindPlace.l0] at h⟩
  | k + 1 => by
    obtain ⟨ih0, ih1, ih2⟩ := spec_KindPlace.mono_l k
    refine ⟨?_, ?_, ?_⟩
    · intro y0 y1
      unfold spec_KindPlace.j1
      repeat' first
      | (with_reducible exact ih0 _ _)
      | (with_reducible exact ih1 _ _ _ _ _)
      | (with_reducible exact ih2 _ _ _ _)
      | (with_reducible exact LeO.refl _)
      | (with_reducible exact LeO.none _)
      | (with_reducible refine LeO.ite ?_ ?_)
      | (with_reducible refine LeO.bind ?_ (fun _ => ?_))
      | exact ih0 _ _
      | exact ih1 _ _ _ _ _
      | exact ih2 _ _ _ _
      | exact LeO.none _
      | refine LeO.ite ?_ ?_
      | refine LeO.bind ?_ (fun _ => ?_)
    · intro y0 y1 y2 y3 y4
      unfold spec_KindPlace.l1
      repeat' first
      | (with_reducible exact ih0 _ _)
      | (with_reducible exact ih1 _ _ _ _ _)
      | (with_reducible exact ih2 _ _ _ _)
      | (with_reducible exact LeO.refl _)
      | (with_reducible exact LeO.none _)
      | (with_reducible refine LeO.ite ?_ ?_)
      | (with_reducible refine LeO.bind ?_ (fun _ => ?_))
      | exact ih0 _ _
      | exact ih1 _ _ _ _ _
      | exact ih2 _ _ _ _
      | exact LeO.none _
      | refine LeO.ite ?_ ?_
      | refine LeO.bind ?_ (fun _ => ?_)
    · intro y0 y1 y2 y3
      unfold spec_KindPlace.l0
      repeat' first
      | (with_reducible exact ih0 _ _)
      | (with_reducible exact ih1 _ _ _ _ _)
      | (with_reducible exact ih2 _ _ _ _)
      | (with_reducible exact LeO.refl _)
      | (with_reducible exact LeO.none _)
      | (with_reducible refine LeO.ite ?_ ?_)
      | (with_reducible refine LeO.bind ?_ (fun _ => ?_))
      | exact ih0 _ _
      | exact ih1 _ _ _ _ _
      | exact ih2 _ _ _ _
      | exact LeO.none _
      | refine LeO.ite ?_ ?_
      | refine LeO.bind ?_ (fun _ => ?_)
theorem spec_KindPlace.mono : ∀ a0 a1 k, LeO (spec_KindPlace.f k a0 a1) (spec_KindPlace.f (k + 1) a0 a1) := by
  intro a0 a1 k
  obtain ⟨ih0, ih1, ih2⟩ := spec_KindPlace.mono_l k
  unfold spec_KindPlace.f
  repeat' first
      | (with_reducible exact ih0 _ _)
      | (with_reducible exact ih1 _ _ _ _ _)
      | (with_reducible exact ih2 _ _ _ _)
      | (with_reducible exact LeO.refl _)
      | (with_reducible exact LeO.none _)
      | (with_reducible refine LeO.ite ?_ ?_)
      | (with_reducible refine LeO.bind ?_ (fun _ => ?_))
      | exact ih0 _ _
      | exact ih1 _ _ _ _ _
      | exact ih2 _ _ _ _
      | exact LeO.none _
      | refine LeO.ite ?_ ?_
      | refine LeO.bind ?_ (fun _ => ?_)
set_option maxHeartbeats 8000000 in
set_option maxRecDepth 100000 in
theorem spec_KindPlace.calls (k : Nat) (a0 : ByteArray) (a1 : Bool) (r : Int) (w : World) (h : spec_KindPlace.f k a0 a1 = some r) :
    Calls Tryd.prog 10 #[.string a0, .bool a1] w fun e w' => e = .returned (.int .i64 r) ∧ Below w.heap.size w w' := by
  have HB := Aside0.mk (Below.refl w.heap.size w)
  have H : ((spec_heInstall.f).bind fun t104 => (if a1 = true then (spec_KindPlace.l0 k a0 t104 ([] : List ByteArray) (wrap64 ((t104.length : Int) - 1))) else (spec_KindPlace.j1 k a0 t104))) = some r := h
  clear h
  replace H := Option.bind_eq_some_iff.mp H
  obtain ⟨t104, A30, H⟩ := H
  replace H : (if a1 = true then (spec_KindPlace.l0 k a0 t104 ([] : List ByteArray) (wrap64 ((t104.length : Int) - 1))) else (spec_KindPlace.j1 k a0 t104)) = some r := H
  have A3 := Aside0.mk A30
  clear A30
  have HC4 := Aside0.mk H
  clear H
  go_enter Tryd.func10, Tryd.ntmps10
  go_upto_if 11 with (first | ((with_reducible refine gate_callee (f := 14) rfl ?_); refine goesL_ (some 10) rfl rfl Tryd.func14 (by kernel_rfl) rfl #[] rfl (by (try simp only [List.map_toArray, List.map_cons, List.map_nil]); first | done | rfl | (simp only [List.length_drop, List.length_take]; rfl)) ?_; (with_reducible refine (spec_heInstall.calls  t104 _ A3.out).mono ?_); rintro e w5 ⟨v105, rfl, ho0, hb⟩; refine ⟨_, rfl, ?_⟩; have n0_ := Aside0.mk (Kd.R_lower ho0 (below_size (by repeat (first | (with_reducible first | exact HB.out | apply below_alloc | apply pw_below_drewN | apply below_drew1) | exact HB.out)))); have n1_ := Aside0.mk (below_step (by repeat (first | (with_reducible first | exact HB.out | apply below_alloc | apply pw_below_drewN | apply below_drew1) | exact HB.out)) hb); clear HB; have HO106 := n0_; have HB := n1_; clear n0_ n1_; (try clear hb); (try clear hb2); (try clear hk); (try clear hi); (try clear ho0)))
  (try simp only [Act.put, List.setIfInBounds_toArray, List.set_cons_zero, List.set_cons_succ])
  go_cut [5] (fun v5 wc => ∃ (kq : Nat) (x5_3 : List ByteArray), Aside0 (spec_KindPlace.j1 kq a0 x5_3 = some r) ∧ Aside0 (kq ≤ k) ∧ Aside0 (Kd.R Kd.string 9 wc w.heap.size (fun _ => True) v5 x5_3) ∧ Aside0 (Below w.heap.size w wc))
  case first =>
    have H := HC4.out
    clear HC4
    by_cases c6 : a1 = true
    · subst c6
      have H1 : (spec_KindPlace.l0 k a0 t104 ([] : List ByteArray) (wrap64 ((t104.length : Int) - 1))) = some r := by rw [if_pos rfl] at H; exact H
      clear H
      have H := H1
      clear H1
      have H' := Aside0.mk H
      clear H
      obtain ⟨Ao7, co7, eo7⟩ := Kd.R_slice HO106.out
      subst eo7
      go_wp2
      go_loopg [6, 7] k (fun kq v6 v7 w' => ∃ (x6_1 : List ByteArray) (x7_1 : Int), v7 = .int .i64 x7_1 ∧ Aside0 (spec_KindPlace.l0 kq a0 t104 x6_1 x7_1 = some r) ∧ Aside0 (kq ≤ k) ∧ Aside0 (Kd.R Kd.string 9 w' w.heap.size (fun k_ => some k_ ≠ (v6 : Value).ownBlock) (.slice Ao7 t104.length co7) t104) ∧ Aside0 (Kd.R Kd.string 9 w' w.heap.size (fun k_ => some k_ ≠ ((.slice Ao7 t104.length co7) : Value).ownBlock) v6 x6_1) ∧ Aside0 (Below w.heap.size w w'))
      case atStart => exact ⟨(([] : List ByteArray)), (wrap64 ((t104.length : Int) - 1)), (by first | rfl | (simp; done) | (simp [*]; done)), H', ⟨Nat.le_refl _⟩, ⟨by (with_reducible repeat (first | apply Kd.R_alloc | apply Kd.R_drewN | apply Kd.R_drew)); exact Kd.R_mono HO106.out (fun _ hk => (by simp [Value.ownBlock]))⟩, ⟨by first | exact Kd.R_nil _ _ _ _ _ | exact Kd.N_nil _ _ _ _ _ | exact Kd.V_nil _ _ _ _ _ | exact Kd.Q_nil _ _ _ _ _ | exact Kd.S_nil _ _ _ _ _⟩, ⟨by repeat (first | (with_reducible first | exact HB.out | apply below_alloc | apply pw_below_drewN | apply below_drew1) | exact HB.out)⟩⟩
      case round =>
        clear H'
        try clear c1
        try clear p2
        try clear c6
        try clear p6
        obtain ⟨x6_1, x7_1, rfl, HA, HK1, HO_5, HO_6, HB⟩ := hrel
        cases gk with
        | zero => exact absurd HA.out (by simp [spec_KindPlace.l0])
        | succ k1 =>
          have H := HA.out
          clear HA
          simp only [spec_KindPlace.l0] at H
          by_cases c8 : x7_1 ≥ 0
          · rw [if_pos c8] at H
            have c8b0 : decide (0 ≤ x7_1) = true := decide_eq_true c8
            clear c8
            (first | rw [c8b0] | (simp only [i64_w, i32_w]; rw [c8b0]) | skip)
            by_cases c9 : 0 ≤ x7_1
            · rw [if_pos c9] at H
              have c9b0 : decide (0 ≤ x7_1) = true := decide_eq_true c9
              clear c9
              by_cases c10 : x7_1 < (t104.length : Int)
              · rw [if_pos c10] at H
                have c10b0 : decide (x7_1 < (t104.length : Int)) = true := decide_eq_true c10
                clear c10
                by_cases c11 : (rdOf ByteArray.empty t104 x7_1).toList = ([83, 101, 114, 118, 105, 99, 101] : List UInt8)
                · rw [if_pos c11] at H
                  have c11b0 : ((rdOf ByteArray.empty t104 x7_1).toList == ([83, 101, 114, 118, 105, 99, 101] : List UInt8)) = true := beq_iff_eq.mpr c11
                  have c11b1 : ((rdOf ByteArray.empty t104 x7_1).toList != ([83, 101, 114, 118, 105, 99, 101] : List UInt8)) = false := bne_eq_false_iff_eq.mpr c11
                  clear c11
                  by_cases c12 : (rdOf ByteArray.empty t104 x7_1).toList = ([73, 110, 103, 114, 101, 115, 115, 67, 108, 97, 115, 115] : List UInt8)
                  · rw [if_pos c12] at H
                    have c12b0 : ((rdOf ByteArray.empty t104 x7_1).toList == ([73, 110, 103, 114, 101, 115, 115, 67, 108, 97, 115, 115] : List UInt8)) = true := beq_iff_eq.mpr c12
                    have c12b1 : ((rdOf ByteArray.empty t104 x7_1).toList != ([73, 110, 103, 114, 101, 115, 115, 67, 108, 97, 115, 115] : List UInt8)) = false := bne_eq_false_iff_eq.mpr c12
                    clear c12
                    by_cases c13 : x6_1.length < 8796093022208
                    · rw [if_pos c13] at H
                      have LMc13 := Aside0.mk c13
                      clear c13
                      obtain ⟨y109, hy109⟩ : ∃ y_ : List ByteArray, y_ = (x6_1 ++ [(⟨#[83, 101, 114, 118, 105, 99, 101]⟩ : ByteArray)]) := ⟨_, rfl⟩
                      replace H : (spec_KindPlace.l0 k1 a0 t104 y109 (wrap64 (x7_1 - 1))) = some r := by first | (rw [hy109]; with_reducible exact H) | (have H2_ := (Option.bind_some _ _).symm.trans H; rw [hy109]; with_reducible exact H2_) | (have H2_ := (Option.bind_some _ _).symm.trans H; with_reducible exact H2_) | with_reducible exact H | (rw [hy109]; exact H) | exact H
                      have Ny109 := Aside0.mk hy109
                      clear hy109
                      have H' := Aside0.mk H
                      clear H
                      have p107 : 0 ≤ (x7_1 : Int) := of_decide_eq_true (by first | (with_reducible assumption) | assumption)
                      have q107 : x7_1 < (t104.length : Int) := of_decide_eq_true (by first | (with_reducible assumption) | assumption)
                      obtain ⟨ad107, e107, hx107_0⟩ := Kd.at_string (Kd.R_reads' HO_5.out).2.2 x7_1 p107 q107
                      cases e107
                      replace p107 := eq_true p107
                      replace q107 := eq_true q107
                      have p108 : 0 ≤ (x7_1 : Int) := of_decide_eq_true (by first | (with_reducible assumption) | assumption)
                      have q108 : x7_1 < (t104.length : Int) := of_decide_eq_true (by first | (with_reducible assumption) | assumption)
                      obtain ⟨ad108, e108, hx108_0⟩ := Kd.at_string (Kd.R_reads' HO_5.out).2.2 x7_1 p108 q108
                      obtain rfl : ad107 = ad108 := (by injection e108)
                      replace p108 := eq_true p108
                      replace q108 := eq_true q108
                      go_wp2_with (first | ((with_reducible refine gate_builtin (b := .append) (xs := #[.tmp 36, .tmp 37]) rfl ?_); at_builtin; refine Kd.R_append Kd.string (w0 := w) w.heap.size rfl (.tmp 36) (.tmp 37) 30 9 (.string ⟨#[]⟩) 16 rfl Tryd.underlying30 info9 rfl (by decide) (by omega) u6 x6_1 (⟨#[83, 101, 114, 118, 105, 99, 101]⟩ : ByteArray) [.string (⟨#[83, 101, 114, 118, 105, 99, 101]⟩ : ByteArray)] (fun k_ => some k_ ≠ (.slice (some ad107) t104.length co7 : Value).ownBlock) (fun _ => False) rfl rfl ?aP (fun _ hk => hk.elim) ?aF ?aO ?aB ?aS ?aL ?_; (case aP => exact rfl); (case aB => exact (by repeat (first | (with_reducible first | exact HB.out | apply below_alloc | apply pw_below_drewN | apply below_drew1) | exact HB.out))); (case aF => exact (fun k_ hk => Kd.fresh' (Kd.R_lt (by (with_reducible repeat (first | apply Kd.R_alloc | apply Kd.R_drewN | apply Kd.R_drew)); exact HO_5.out)) k_ hk)); (case aO => exact (by (with_reducible repeat (first | apply Kd.R_alloc | apply Kd.R_drewN | apply Kd.R_drew)); exact HO_6.out)); (case aS => exact (below_size (by repeat (first | (with_reducible first | exact HB.out | apply below_alloc | apply pw_below_drewN | apply below_drew1) | exact HB.out)))); (case aL => have := LMc13.out; omega); intro v110 w14 ho hb hg hat; rw [← Ny109.out] at ho; have n0_ := Aside0.mk (Kd.R_after (ok := (fun _ => True)) (by (with_reducible repeat (first | apply Kd.R_alloc | apply Kd.R_drewN | apply Kd.R_drew)); exact Kd.R_mono HO_5.out (fun _ hk => ⟨trivial, hk⟩)) hg hat); have n1_ := Aside0.mk (hb); have n2_ := Aside0.mk (ho); clear HO_5; clear HB; clear HO_6; have HO_5 := n0_; have HB := n1_; have HO111 := n2_; clear n0_ n1_ n2_; clear ho hb hg hat))
                      go_roundg k1
                      case measure => have := HK1.out; omega
                      case rel => exact ⟨(y109), (wrap64 (x7_1 - 1)), (by first | rfl | (simp; done) | (simp [*]; done)), H', ⟨by have := HK1.out; omega⟩, ⟨by (with_reducible repeat (first | apply Kd.R_alloc | apply Kd.R_drewN | apply Kd.R_drew)); exact Kd.R_mono HO_5.out (fun _ hk => hk.2)⟩, ⟨by (with_reducible repeat (first | apply Kd.R_alloc | apply Kd.R_drewN | apply Kd.R_drew)); exact HO111.out⟩, ⟨by repeat (first | (with_reducible first | exact HB.out | apply below_alloc | apply pw_below_drewN | apply below_drew1) | exact HB.out)⟩⟩
                    · rw [if_neg c13] at H
                      exact absurd H (by simp)
                  · rw [if_neg c12] at H
                    have c12b0 : ((rdOf ByteArray.empty t104 x7_1).toList == ([73, 110, 103, 114, 101, 115, 115, 67, 108, 97, 115, 115] : List UInt8)) = false := beq_eq_false_iff_ne.mpr c12
                    have c12b1 : ((rdOf ByteArray.empty t104 x7_1).toList != ([73, 110, 103, 114, 101, 115, 115, 67, 108, 97, 115, 115] : List UInt8)) = true := bne_iff_ne.mpr c12
                    have H' := Aside0.mk H
                    clear H
                    have p107 : 0 ≤ (x7_1 : Int) := of_decide_eq_true (by first | (with_reducible assumption) | assumption)
                    have q107 : x7_1 < (t104.length : Int) := of_decide_eq_true (by first | (with_reducible assumption) | assumption)
                    obtain ⟨ad107, e107, hx107_0⟩ := Kd.at_string (Kd.R_reads' HO_5.out).2.2 x7_1 p107 q107
                    cases e107
                    replace p107 := eq_true p107
                    replace q107 := eq_true q107
                    have p108 : 0 ≤ (x7_1 : Int) := of_decide_eq_true (by first | (with_reducible assumption) | assumption)
                    have q108 : x7_1 < (t104.length : Int) := of_decide_eq_true (by first | (with_reducible assumption) | assumption)
                    obtain ⟨ad108, e108, hx108_0⟩ := Kd.at_string (Kd.R_reads' HO_5.out).2.2 x7_1 p108 q108
                    obtain rfl : ad107 = ad108 := (by injection e108)
                    replace p108 := eq_true p108
                    replace q108 := eq_true q108
                    go_wp2
                    go_roundg k1
                    case measure => have := HK1.out; omega
                    case rel => exact ⟨(x6_1), (wrap64 (x7_1 - 1)), (by first | rfl | (simp; done) | (simp [*]; done)), H', ⟨by have := HK1.out; omega⟩, ⟨by (with_reducible repeat (first | apply Kd.R_alloc | apply Kd.R_drewN | apply Kd.R_drew)); exact HO_5.out⟩, ⟨by (with_reducible repeat (first | apply Kd.R_alloc | apply Kd.R_drewN | apply Kd.R_drew)); exact HO_6.out⟩, ⟨by repeat (first | (with_reducible first | exact HB.out | apply below_alloc | apply pw_below_drewN | apply below_drew1) | exact HB.out)⟩⟩
                · rw [if_neg c11] at H
                  have c11b0 : ((rdOf ByteArray.empty t104 x7_1).toList == ([83, 101, 114, 118, 105, 99, 101] : List UInt8)) = false := beq_eq_false_iff_ne.mpr c11
                  have c11b1 : ((rdOf ByteArray.empty t104 x7_1).toList != ([83, 101, 114, 118, 105, 99, 101] : List UInt8)) = true := bne_iff_ne.mpr c11
                  by_cases c15 : x6_1.length < 8796093022208
                  · rw [if_pos c15] at H
                    have LMc15 := Aside0.mk c15
                    clear c15
                    obtain ⟨y113, hy113⟩ : ∃ y_ : List ByteArray, y_ = (x6_1 ++ [rdOf ByteArray.empty t104 x7_1]) := ⟨_, rfl⟩
                    replace H : (if (rdOf ByteArray.empty t104 x7_1).toList = ([73, 110, 103, 114, 101, 115, 115, 67, 108, 97, 115, 115] : List UInt8) then (if y113.length < 8796093022208 then (spec_KindPlace.l0 k1 a0 t104 (y113 ++ [(⟨#[83, 101, 114, 118, 105, 99, 101]⟩ : ByteArray)]) (wrap64 (x7_1 - 1))) else (none)) else (spec_KindPlace.l0 k1 a0 t104 y113 (wrap64 (x7_1 - 1)))) = some r := by first | (rw [hy113]; with_reducible exact H) | (have H2_ := (Option.bind_some _ _).symm.trans H; rw [hy113]; with_reducible exact H2_) | (have H2_ := (Option.bind_some _ _).symm.trans H; with_reducible exact H2_) | with_reducible exact H | (rw [hy113]; exact H) | exact H
                    have Ny113 := Aside0.mk hy113
                    clear hy113
                    by_cases c16 : (rdOf ByteArray.empty t104 x7_1).toList = ([73, 110, 103, 114, 101, 115, 115, 67, 108, 97, 115, 115] : List UInt8)
                    · rw [if_pos c16] at H
                      have c16b0 : ((rdOf ByteArray.empty t104 x7_1).toList == ([73, 110, 103, 114, 101, 115, 115, 67, 108, 97, 115, 115] : List UInt8)) = true := beq_iff_eq.mpr c16
                      have c16b1 : ((rdOf ByteArray.empty t104 x7_1).toList != ([73, 110, 103, 114, 101, 115, 115, 67, 108, 97, 115, 115] : List UInt8)) = false := bne_eq_false_iff_eq.mpr c16
                      clear c16
                      by_cases c17 : y113.length < 8796093022208
                      · rw [if_pos c17] at H
                        have LMc17 := Aside0.mk c17
                        clear c17
                        obtain ⟨y117, hy117⟩ : ∃ y_ : List ByteArray, y_ = (y113 ++ [(⟨#[83, 101, 114, 118, 105, 99, 101]⟩ : ByteArray)]) := ⟨_, rfl⟩
                        replace H : (spec_KindPlace.l0 k1 a0 t104 y117 (wrap64 (x7_1 - 1))) = some r := by first | (rw [hy117]; with_reducible exact H) | (have H2_ := (Option.bind_some _ _).symm.trans H; rw [hy117]; with_reducible exact H2_) | (have H2_ := (Option.bind_some _ _).symm.trans H; with_reducible exact H2_) | with_reducible exact H | (rw [hy117]; exact H) | exact H
                        have Ny117 := Aside0.mk hy117
                        clear hy117
                        have H' := Aside0.mk H
                        clear H
                        have p107 : 0 ≤ (x7_1 : Int) := of_decide_eq_true (by first | (with_reducible assumption) | assumption)
                        have q107 : x7_1 < (t104.length : Int) := of_decide_eq_true (by first | (with_reducible assumption) | assumption)
                        obtain ⟨ad107, e107, hx107_0⟩ := Kd.at_string (Kd.R_reads' HO_5.out).2.2 x7_1 p107 q107
                        cases e107
                        replace p107 := eq_true p107
                        replace q107 := eq_true q107
                        have p112 : 0 ≤ (x7_1 : Int) := of_decide_eq_true (by first | (with_reducible assumption) | assumption)
                        have q112 : x7_1 < (t104.length : Int) := of_decide_eq_true (by first | (with_reducible assumption) | assumption)
                        obtain ⟨ad112, e112, hx112_0⟩ := Kd.at_string (Kd.R_reads' HO_5.out).2.2 x7_1 p112 q112
                        obtain rfl : ad107 = ad112 := (by injection e112)
                        replace p112 := eq_true p112
                        replace q112 := eq_true q112
                        go_wp2_with (first | ((with_reducible refine gate_builtin (b := .append) (xs := #[.tmp 24, .tmp 29]) rfl ?_); at_builtin; refine Kd.R_append Kd.string (w0 := w) w.heap.size rfl (.tmp 24) (.tmp 29) 30 9 (.string ⟨#[]⟩) 16 rfl Tryd.underlying30 info9 rfl (by decide) (by omega) u6 x6_1 (rdOf ByteArray.empty t104 x7_1) [.string (rdOf ByteArray.empty t104 x7_1)] (fun k_ => some k_ ≠ (.slice (some ad107) t104.length co7 : Value).ownBlock) (fun _ => False) rfl rfl ?aP (fun _ hk => hk.elim) ?aF ?aO ?aB ?aS ?aL ?_; (case aP => exact rfl); (case aB => exact (by repeat (first | (with_reducible first | exact HB.out | apply below_alloc | apply pw_below_drewN | apply below_drew1) | exact HB.out))); (case aF => exact (fun k_ hk => Kd.fresh' (Kd.R_lt (by (with_reducible repeat (first | apply Kd.R_alloc | apply Kd.R_drewN | apply Kd.R_drew)); exact HO_5.out)) k_ hk)); (case aO => exact (by (with_reducible repeat (first | apply Kd.R_alloc | apply Kd.R_drewN | apply Kd.R_drew)); exact HO_6.out)); (case aS => exact (below_size (by repeat (first | (with_reducible first | exact HB.out | apply below_alloc | apply pw_below_drewN | apply below_drew1) | exact HB.out)))); (case aL => have := LMc15.out; omega); intro v114 w18 ho hb hg hat; rw [← Ny113.out] at ho; have n0_ := Aside0.mk (Kd.R_after (ok := (fun _ => True)) (by (with_reducible repeat (first | apply Kd.R_alloc | apply Kd.R_drewN | apply Kd.R_drew)); exact Kd.R_mono HO_5.out (fun _ hk => ⟨trivial, hk⟩)) hg hat); have n1_ := Aside0.mk (hb); have n2_ := Aside0.mk (ho); clear HO_5; clear HB; clear HO_6; have HO_5 := n0_; have HB := n1_; have HO115 := n2_; clear n0_ n1_ n2_; clear ho hb hg hat; have p116 : 0 ≤ (x7_1 : Int) := of_decide_eq_true (by first | (with_reducible assumption) | assumption); have q116 : x7_1 < (t104.length : Int) := of_decide_eq_true (by first | (with_reducible assumption) | assumption); obtain ⟨ad116, e116, hx116_0⟩ := Kd.at_string (Kd.R_reads' HO_5.out).2.2 x7_1 p116 q116; obtain rfl : ad107 = ad116 := (by injection e116); replace p116 := eq_true p116; replace q116 := eq_true q116) | ((with_reducible refine gate_builtin (b := .append) (xs := #[.tmp 36, .tmp 37]) rfl ?_); at_builtin; refine Kd.R_append Kd.string (w0 := w) w.heap.size rfl (.tmp 36) (.tmp 37) 30 9 (.string ⟨#[]⟩) 16 rfl Tryd.underlying30 info9 rfl (by decide) (by omega) v114 y113 (⟨#[83, 101, 114, 118, 105, 99, 101]⟩ : ByteArray) [.string (⟨#[83, 101, 114, 118, 105, 99, 101]⟩ : ByteArray)] (fun k_ => some k_ ≠ (.slice (some ad107) t104.length co7 : Value).ownBlock) (fun _ => False) rfl rfl ?aP (fun _ hk => hk.elim) ?aF ?aO ?aB ?aS ?aL ?_; (case aP => exact rfl); (case aB => exact (by repeat (first | (with_reducible first | exact HB.out | apply below_alloc | apply pw_below_drewN | apply below_drew1) | exact HB.out))); (case aF => exact (fun k_ hk => Kd.fresh' (Kd.R_lt (by (with_reducible repeat (first | apply Kd.R_alloc | apply Kd.R_drewN | apply Kd.R_drew)); exact HO_5.out)) k_ hk)); (case aO => exact (by (with_reducible repeat (first | apply Kd.R_alloc | apply Kd.R_drewN | apply Kd.R_drew)); exact HO115.out)); (case aS => exact (below_size (by repeat (first | (with_reducible first | exact HB.out | apply below_alloc | apply pw_below_drewN | apply below_drew1) | exact HB.out)))); (case aL => have := LMc17.out; omega); intro v118 w19 ho hb hg hat; rw [← Ny117.out] at ho; have n0_ := Aside0.mk (Kd.R_after (ok := (fun _ => True)) (by (with_reducible repeat (first | apply Kd.R_alloc | apply Kd.R_drewN | apply Kd.R_drew)); exact HO_5.out) hg hat); have n1_ := Aside0.mk (hb); have n2_ := Aside0.mk (ho); clear HO_5; clear HB; clear HO115; have HO_5 := n0_; have HB := n1_; have HO119 := n2_; clear n0_ n1_ n2_; clear ho hb hg hat))
                        go_roundg k1
                        case measure => have := HK1.out; omega
                        case rel => exact ⟨(y117), (wrap64 (x7_1 - 1)), (by first | rfl | (simp; done) | (simp [*]; done)), H', ⟨by have := HK1.out; omega⟩, ⟨by (with_reducible repeat (first | apply Kd.R_alloc | apply Kd.R_drewN | apply Kd.R_drew)); exact Kd.R_mono HO_5.out (fun _ hk => hk.2)⟩, ⟨by (with_reducible repeat (first | apply Kd.R_alloc | apply Kd.R_drewN | apply Kd.R_drew)); exact HO119.out⟩, ⟨by repeat (first | (with_reducible first | exact HB.out | apply below_alloc | apply pw_below_drewN | apply below_drew1) | exact HB.out)⟩⟩
                      · rw [if_neg c17] at H
                        exact absurd H (by simp)
                    · rw [if_neg c16] at H
                      have c16b0 : ((rdOf ByteArray.empty t104 x7_1).toList == ([73, 110, 103, 114, 101, 115, 115, 67, 108, 97, 115, 115] : List UInt8)) = false := beq_eq_false_iff_ne.mpr c16
                      have c16b1 : ((rdOf ByteArray.empty t104 x7_1).toList != ([73, 110, 103, 114, 101, 115, 115, 67, 108, 97, 115, 115] : List UInt8)) = true := bne_iff_ne.mpr c16
                      have H' := Aside0.mk H
                      clear H
                      have p107 : 0 ≤ (x7_1 : Int) := of_decide_eq_true (by first | (with_reducible assumption) | assumption)
                      have q107 : x7_1 < (t104.length : Int) := of_decide_eq_true (by first | (with_reducible assumption) | assumption)
                      obtain ⟨ad107, e107, hx107_0⟩ := Kd.at_string (Kd.R_reads' HO_5.out).2.2 x7_1 p107 q107
                      cases e107
                      replace p107 := eq_true p107
                      replace q107 := eq_true q107
                      have p112 : 0 ≤ (x7_1 : Int) := of_decide_eq_true (by first | (with_reducible assumption) | assumption)
                      have q112 : x7_1 < (t104.length : Int) := of_decide_eq_true (by first | (with_reducible assumption) | assumption)
                      obtain ⟨ad112, e112, hx112_0⟩ := Kd.at_string (Kd.R_reads' HO_5.out).2.2 x7_1 p112 q112
                      obtain rfl : ad107 = ad112 := (by injection e112)
                      replace p112 := eq_true p112
                      replace q112 := eq_true q112
                      go_wp2_with (first | ((with_reducible refine gate_builtin (b := .append) (xs := #[.tmp 24, .tmp 29]) rfl ?_); at_builtin; refine Kd.R_append Kd.string (w0 := w) w.heap.size rfl (.tmp 24) (.tmp 29) 30 9 (.string ⟨#[]⟩) 16 rfl Tryd.underlying30 info9 rfl (by decide) (by omega) u6 x6_1 (rdOf ByteArray.empty t104 x7_1) [.string (rdOf ByteArray.empty t104 x7_1)] (fun k_ => some k_ ≠ (.slice (some ad107) t104.length co7 : Value).ownBlock) (fun _ => False) rfl rfl ?aP (fun _ hk => hk.elim) ?aF ?aO ?aB ?aS ?aL ?_; (case aP => exact rfl); (case aB => exact (by repeat (first | (with_reducible first | exact HB.out | apply below_alloc | apply pw_below_drewN | apply below_drew1) | exact HB.out))); (case aF => exact (fun k_ hk => Kd.fresh' (Kd.R_lt (by (with_reducible repeat (first | apply Kd.R_alloc | apply Kd.R_drewN | apply Kd.R_drew)); exact HO_5.out)) k_ hk)); (case aO => exact (by (with_reducible repeat (first | apply Kd.R_alloc | apply Kd.R_drewN | apply Kd.R_drew)); exact HO_6.out)); (case aS => exact (below_size (by repeat (first | (with_reducible first | exact HB.out | apply below_alloc | apply pw_below_drewN | apply below_drew1) | exact HB.out)))); (case aL => have := LMc15.out; omega); intro v114 w20 ho hb hg hat; rw [← Ny113.out] at ho; have n0_ := Aside0.mk (Kd.R_after (ok := (fun _ => True)) (by (with_reducible repeat (first | apply Kd.R_alloc | apply Kd.R_drewN | apply Kd.R_drew)); exact Kd.R_mono HO_5.out (fun _ hk => ⟨trivial, hk⟩)) hg hat); have n1_ := Aside0.mk (hb); have n2_ := Aside0.mk (ho); clear HO_5; clear HB; clear HO_6; have HO_5 := n0_; have HB := n1_; have HO115 := n2_; clear n0_ n1_ n2_; clear ho hb hg hat; have p116 : 0 ≤ (x7_1 : Int) := of_decide_eq_true (by first | (with_reducible assumption) | assumption); have q116 : x7_1 < (t104.length : Int) := of_decide_eq_true (by first | (with_reducible assumption) | assumption); obtain ⟨ad116, e116, hx116_0⟩ := Kd.at_string (Kd.R_reads' HO_5.out).2.2 x7_1 p116 q116; obtain rfl : ad107 = ad116 := (by injection e116); replace p116 := eq_true p116; replace q116 := eq_true q116))
                      go_roundg k1
                      case measure => have := HK1.out; omega
                      case rel => exact ⟨(y113), (wrap64 (x7_1 - 1)), (by first | rfl | (simp; done) | (simp [*]; done)), H', ⟨by have := HK1.out; omega⟩, ⟨by (with_reducible repeat (first | apply Kd.R_alloc | apply Kd.R_drewN | apply Kd.R_drew)); exact Kd.R_mono HO_5.out (fun _ hk => hk.2)⟩, ⟨by (with_reducible repeat (first | apply Kd.R_alloc | apply Kd.R_drewN | apply Kd.R_drew)); exact HO115.out⟩, ⟨by repeat (first | (with_reducible first | exact HB.out | apply below_alloc | apply pw_below_drewN | apply below_drew1) | exact HB.out)⟩⟩
                  · rw [if_neg c15] at H
                    exact absurd H (by simp)
              · rw [if_neg c10] at H
                exact absurd H (by simp)
            · rw [if_neg c9] at H
              exact absurd H (by simp)
          · rw [if_neg c8] at H
            have c8b0 : decide (0 ≤ x7_1) = false := decide_eq_false c8
            clear c8
            (first | rw [c8b0] | (simp only [i64_w, i32_w]; rw [c8b0]) | skip)
            have H' := Aside0.mk H
            clear H
            go_wp2
            go_meet
            case rel => exact ⟨_, (x6_1), H', ⟨by have := HK1.out; first | omega | exact Nat.le_refl _⟩, ⟨by (with_reducible repeat (first | apply Kd.R_alloc | apply Kd.R_drewN | apply Kd.R_drew)); exact Kd.R_mono HO_6.out (fun _ hk => trivial)⟩, ⟨by repeat (first | (with_reducible first | exact HB.out | apply below_alloc | apply pw_below_drewN | apply below_drew1) | exact HB.out)⟩⟩
    · replace c6 := Bool.eq_false_iff.mpr c6
      subst c6
      have H1 : (spec_KindPlace.j1 k a0 t104) = some r := by rw [if_neg (show ¬ (false = true) by decide)] at H; exact H
      clear H
      have H := H1
      clear H1
      have H' := Aside0.mk H
      clear H
      go_wp2
      go_meet
      case rel => exact ⟨_, (t104), H', ⟨by first | omega | exact Nat.le_refl _⟩, ⟨by (with_reducible repeat (first | apply Kd.R_alloc | apply Kd.R_drewN | apply Kd.R_drew)); exact HO106.out⟩, ⟨by repeat (first | (with_reducible first | exact HB.out | apply below_alloc | apply pw_below_drewN | apply below_drew1) | exact HB.out)⟩⟩
  case rest =>
    clear HC4
    try clear c1
    try clear p1
    try clear q1
    try clear hx1
    try clear p2
    try clear c6
    try clear p6
    try clear c8
    try clear c8b0
    try clear c9
    try clear c9b0
    try clear c10
    try clear c10b0
    try clear p10
    try clear q10
    try clear hx10
    try clear c11
    try clear c11b0
    try clear c11b1
    try clear p11
    try clear q11
    try clear hx11
    try clear c12
    try clear c12b0
    try clear c12b1
    try clear c13
    try clear c14
    try clear c15
    try clear c16
    try clear c16b0
    try clear c16b1
    try clear c17
    try clear hx107_0
    try clear hx108_0
    try clear hx112_0
    try clear hx116_0
    try clear p107
    try clear p108
    try clear p112
    try clear p116
    try clear p2
    try clear p6
    try clear q107
    try clear q108
    try clear q112
    try clear q116
    obtain ⟨kq, x5_3, HA, HJ3, HO_5, HB⟩ := hcut
    cases kq with
    | zero => exact absurd HA.out (by simp [spec_KindPlace.j1])
    | succ kj3 =>
      have H := HA.out
      clear HA
      simp only [spec_KindPlace.j1] at H
      have H' := Aside0.mk H
      clear H
      obtain ⟨Ao21, co21, eo21⟩ := Kd.R_slice HO_5.out
      subst eo21
      go_wp2
      go_loopg [42] kj3 (fun kq v42 w' => ∃ (x42_2 : Int), v42 = .int .i64 x42_2 ∧ Aside0 (spec_KindPlace.l1 kq a0 x5_3 x5_3 (x5_3.length : Int) x42_2 = some r) ∧ Aside0 (kq ≤ kj3) ∧ Aside0 (Kd.R Kd.string 9 w' w.heap.size (fun _ => True) (.slice Ao21 x5_3.length co21) x5_3) ∧ Aside0 (Kd.R Kd.string 9 w' w.heap.size (fun _ => True) (.slice Ao21 x5_3.length co21) x5_3) ∧ Aside0 (Below w.heap.size w w'))
      case atStart => exact ⟨(0), (by first | rfl | (simp; done) | (simp [*]; done)), H', ⟨Nat.le_refl _⟩, ⟨by (with_reducible repeat (first | apply Kd.R_alloc | apply Kd.R_drewN | apply Kd.R_drew)); exact HO_5.out⟩, ⟨by (with_reducible repeat (first | apply Kd.R_alloc | apply Kd.R_drewN | apply Kd.R_drew)); exact HO_5.out⟩, ⟨by repeat (first | (with_reducible first | exact HB.out | apply below_alloc | apply pw_below_drewN | apply below_drew1) | exact HB.out)⟩⟩
      case round =>
        clear H'
        try clear c1
        try clear p1
        try clear q1
        try clear hx1
        try clear p2
        try clear c6
        try clear p6
        try clear c8
        try clear c8b0
        try clear c9
        try clear c9b0
        try clear c10
        try clear c10b0
        try clear p10
        try clear q10
        try clear hx10
        try clear c11
        try clear c11b0
        try clear c11b1
        try clear p11
        try clear q11
        try clear hx11
        try clear c12
        try clear c12b0
        try clear c12b1
        try clear c13
        try clear c14
        try clear c15
        try clear c16
        try clear c16b0
        try clear c16b1
        try clear c17
        try clear hx107_0
        try clear hx108_0
        try clear hx112_0
        try clear hx116_0
        try clear p1
        try clear p10
        try clear p107
        try clear p108
        try clear p11
        try clear p112
        try clear p116
        try clear p2
        try clear p6
        try clear q1
        try clear q10
        try clear q107
        try clear q108
        try clear q11
        try clear q112
        try clear q116
        obtain ⟨x42_2, rfl, HA, HK2, HO_5, HO_40, HB⟩ := hrel
        cases gk with
        | zero => exact absurd HA.out (by simp [spec_KindPlace.l1])
        | succ k2 =>
          have H := HA.out
          clear HA
          simp only [spec_KindPlace.l1] at H
          by_cases c22 : x42_2 < (x5_3.length : Int)
          · rw [if_pos c22] at H
            have c22b0 : decide (x42_2 < (x5_3.length : Int)) = true := decide_eq_true c22
            clear c22
            by_cases c23 : 0 ≤ x42_2
            · rw [if_pos c23] at H
              have c23b0 : decide (0 ≤ x42_2) = true := decide_eq_true c23
              clear c23
              by_cases c24 : x42_2 < (x5_3.length : Int)
              · rw [if_pos c24] at H
                have c24b0 : decide (x42_2 < (x5_3.length : Int)) = true := decide_eq_true c24
                clear c24
                by_cases c25 : (rdOf ByteArray.empty x5_3 x42_2).toList = a0.toList
                · rw [if_pos c25] at H
                  have c25b0 : ((rdOf ByteArray.empty x5_3 x42_2).toList == a0.toList) = true := beq_iff_eq.mpr c25
                  have c25b1 : ((rdOf ByteArray.empty x5_3 x42_2).toList != a0.toList) = false := bne_eq_false_iff_eq.mpr c25
                  clear c25
                  obtain rfl := Option.some.inj H
                  have p120 : 0 ≤ (x42_2 : Int) := of_decide_eq_true (by first | (with_reducible assumption) | assumption)
                  have q120 : x42_2 < (x5_3.length : Int) := of_decide_eq_true (by first | (with_reducible assumption) | assumption)
                  obtain ⟨ad120, e120, hx120_0⟩ := Kd.at_string (Kd.R_reads' HO_40.out).2.2 x42_2 p120 q120
                  cases e120
                  replace p120 := eq_true p120
                  replace q120 := eq_true q120
                  go_wp2
                  go_ret
                  exact ⟨by first | rfl | (simp [errW_none, errW_some] <;> rfl) | (simp [*, errW_none, errW_some] <;> rfl), by repeat (first | (with_reducible first | exact HB.out | apply below_alloc | apply pw_below_drewN | apply below_drew1) | exact HB.out)⟩
                · rw [if_neg c25] at H
                  have c25b0 : ((rdOf ByteArray.empty x5_3 x42_2).toList == a0.toList) = false := beq_eq_false_iff_ne.mpr c25
                  have c25b1 : ((rdOf ByteArray.empty x5_3 x42_2).toList != a0.toList) = true := bne_iff_ne.mpr c25
                  have H' := Aside0.mk H
                  clear H
                  have p120 : 0 ≤ (x42_2 : Int) := of_decide_eq_true (by first | (with_reducible assumption) | assumption)
                  have q120 : x42_2 < (x5_3.length : Int) := of_decide_eq_true (by first | (with_reducible assumption) | assumption)
                  obtain ⟨ad120, e120, hx120_0⟩ := Kd.at_string (Kd.R_reads' HO_40.out).2.2 x42_2 p120 q120
                  cases e120
                  replace p120 := eq_true p120
                  replace q120 := eq_true q120
                  go_wp2
                  go_roundg k2
                  case measure => have := HJ3.out; have := HK2.out; omega
                  case rel => exact ⟨(wrap64 (x42_2 + 1)), (by first | rfl | (simp; done) | (simp [*]; done)), H', ⟨by have := HJ3.out; have := HK2.out; omega⟩, ⟨by (with_reducible repeat (first | apply Kd.R_alloc | apply Kd.R_drewN | apply Kd.R_drew)); exact HO_5.out⟩, ⟨by (with_reducible repeat (first | apply Kd.R_alloc | apply Kd.R_drewN | apply Kd.R_drew)); exact HO_40.out⟩, ⟨by repeat (first | (with_reducible first | exact HB.out | apply below_alloc | apply pw_below_drewN | apply below_drew1) | exact HB.out)⟩⟩
              · rw [if_neg c24] at H
                exact absurd H (by simp)
            · rw [if_neg c23] at H
              exact absurd H (by simp)
          · rw [if_neg c22] at H
            have c22b0 : decide (x42_2 < (x5_3.length : Int)) = false := decide_eq_false c22
            clear c22
            obtain rfl := Option.some.inj H
            go_wp2
            go_ret
            exact ⟨by first | rfl | (simp [errW_none, errW_some] <;> rfl) | (simp [*, errW_none, errW_some] <;> rfl), by repeat (first | (with_reducible first | exact HB.out | apply below_alloc | apply pw_below_drewN | apply below_drew1) | exact HB.out)⟩

-- NOT PRINTED: function 5 (laws_FnKindOrder)

end Go.Proofs.YtefejcggkkmhaaaDoor.PFnKindOrder
