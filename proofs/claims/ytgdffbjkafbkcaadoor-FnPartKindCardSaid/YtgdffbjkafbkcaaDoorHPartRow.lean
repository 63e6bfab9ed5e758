/- The laws FnPartForms and FnPartKind, where strconv's two errors read as their initialisers lay them. -/
import Derived.Test.YtgdffbjkafbkcaaDoorHKindLaw
import Derived.Test.YtgdffbjkafbkcaaDoorRows
import Derived.Stop.LaidErr
import Derived.LaidLaws
import Derived.MakeChecks
namespace Go.Proofs.YtgdffbjkafbkcaaDoor.HDig
open Go.RowKit Go.Proofs.YtgdffbjkafbkcaaDoorW.PrintWords

theorem starName : "*" ++ "errors.errorString" = "*errors.errorString" := by decide
theorem row119 (u : TypeId) (h : Tryd.prog.typeName? 3 u = some "*errors.errorString") : u = 119 :=
  typeName_ptr_named (nm := "errors.errorString") (by rw [starName]; kernel_rfl) (by kernel_rfl) (by decide) u (by rw [starName]; exact h)
theorem gErrRange : Tryd.prog.globalNamed "strconv.ErrRange" = some 1 := by kernel_rfl
theorem gErrSyntax : Tryd.prog.globalNamed "strconv.ErrSyntax" = some 0 := by kernel_rfl
theorem cells121 : Tryd.prog.cellsOf 121 = 1 := by kernel_rfl
theorem cells9 : Tryd.prog.cellsOf 9 = 1 := by kernel_rfl
theorem errs_laid {W : World} (h : laidMetH Tryd.prog Rows.fnPartFormsRow.laid W) : Errs W := by
  rw [MakeChecks.laidMetH_plain _ _ _ (by kernel_rfl)] at h
  have h := h.tail.tail.tail
  obtain ⟨a0, s0, hv0, -, -, -⟩ := laid_sentinel h gErrRange (show (Tryd.prog.globals[1]?).map (·.type) = some 48 by kernel_rfl) Tryd.underlying48 row119 Tryd.underlying119 Tryd.underlying121 rfl rfl Tryd.underlying9 cells121 cells9
  obtain ⟨a1, s1, hv1, -, -, -⟩ := laid_sentinel h.tail gErrSyntax (show (Tryd.prog.globals[0]?).map (·.type) = some 48 by kernel_rfl) Tryd.underlying48 row119 Tryd.underlying119 Tryd.underlying121 rfl rfl Tryd.underlying9 cells121 cells9
  exact ⟨_, _, _, _, (by have h0 := World.var?_cell gErrSyntax hv1 0; simpa using h0), (by have h0 := World.var?_cell gErrRange hv0 0; simpa using h0)⟩

theorem forms_row (s : ByteArray) (w : World) (hs : s.size ≤ 140737488351232) (hL : laidMetH Tryd.prog Rows.fnPartFormsRow.laid w) : Calls Tryd.prog 3 #[.string s] w fun e w' => e = .returned (.bool true) ∧ Below w.heap.size w w' :=
  forms_law s w hs (errs_laid hL)
theorem kind_row (s : ByteArray) (n : Int) (w : World) (hs : s.size ≤ 140737488351232) (hn : (Lit.int .u8 n).wf = true) (hL : laidMetH Tryd.prog Rows.fnPartKindRow.laid w) : Calls Tryd.prog 4 #[.string s, .int .u8 n] w fun e w' => e = .returned (.bool true) ∧ Below w.heap.size w w' := by
  have hb : 0 ≤ n ∧ n ≤ 255 := by
    simp only [Lit.wf, Bool.and_eq_true, decide_eq_true_eq] at hn
    exact hn
  exact kind_law s n w hs hb.1 hb.2 (errs_laid hL)
end Go.Proofs.YtgdffbjkafbkcaaDoor.HDig
