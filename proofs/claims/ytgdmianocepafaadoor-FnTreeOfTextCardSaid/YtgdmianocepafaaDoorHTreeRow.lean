/- The law FnTreeOfText, where the two tables of unicode/utf8 read as their initialisers lay them. -/
import Derived.Test.YtgdmianocepafaaDoorHTreeLaw
import Derived.Test.YtgdmianocepafaaDoorRows
import Derived.Lib.LaidU8T
import Derived.PinnedBridge
import Derived.LaidLaws
import Derived.MakeChecks
namespace Go.Proofs.YtgdmianocepafaaDoor.HTree
open Go.RowKit Go.Proofs.YtgdmianocepafaaDoorW.PrintWords

theorem accept_eq : (Rows.laid_unicode_utf8_acceptRanges : DataW Unit) = Lib.acceptData := by kernel_rfl
theorem first_eq : Rows.laid_unicode_utf8_first = Lib.firstData := Pinned.utf8First_eq
theorem tabs_laid {W : World} (h : laidMetH Tryd.prog Rows.fnTreeOfTextRow.laid W) : Tabs W := by
  rw [MakeChecks.laidMetH_plain _ _ _ (by kernel_rfl)] at h
  exact utf8Tabs_of_readsT (U8Types.of196 Tryd.laysValid) ⟨by kernel_rfl, by kernel_rfl, by kernel_rfl, by kernel_rfl, by kernel_rfl, by kernel_rfl, by kernel_rfl⟩ (first_eq ▸ Lib.laidMet.reads h (.tail _ (.head _))) (accept_eq ▸ Lib.laidMet.reads h (.head _))
theorem tree_row (s : ByteArray) (w : World) (hs : s.size ≤ 140737488351232) (hL : laidMetH Tryd.prog Rows.fnTreeOfTextRow.laid w) : Calls Tryd.prog 3 #[.string s] w fun e w' => e = .returned (.bool true) ∧ Below w.heap.size w w' :=
  law_calls s w hs (tabs_laid hL)
end Go.Proofs.YtgdmianocepafaaDoor.HTree
