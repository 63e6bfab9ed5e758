/- The law FnMetadataName, where the variable errInvalidKubernetesName reads as its initialiser lays it: it returns true for every name. -/
import Derived.Test.YtefejcggkkmhaaaDoorHMetaLaw
import Derived.Test.YtefejcggkkmhaaaDoorRows
import Derived.Stop.LaidErr
import Derived.MakeChecks
namespace Go.Proofs.YtefejcggkkmhaaaDoor.HMeta
open Go.RowKit Go.ChangeShapes

theorem star : "*" ++ "errors.errorString" = "*errors.errorString" := by decide
theorem row36 (u : TypeId) (h : Tryd.prog.typeName? 3 u = some "*errors.errorString") : u = 36 :=
  typeName_ptr_named (nm := "errors.errorString") (by rw [star]; kernel_rfl) (by kernel_rfl) (by decide) u (by rw [star]; exact h)

theorem held_of_laid {W : World} (h : laidMetH Tryd.prog Rows.fnMetadataNameRow.laid W) : Held W := by
  rw [MakeChecks.laidMetH_plain _ _ _ (by kernel_rfl)] at h
  have hg : Tryd.prog.globalNamed "given.example/pub-antistrophe/pub/helm/pkg/chartutil.errInvalidKubernetesName" = some 0 := by kernel_rfl
  obtain ⟨a, s, hv, _, _, _⟩ := laid_sentinel h hg (show _ = some 28 by kernel_rfl) Tryd.underlying28 row36 Tryd.underlying36 Tryd.underlying54 rfl rfl Tryd.underlying9 (by kernel_rfl) (by kernel_rfl)
  refine ⟨36, a, ?_⟩
  have := World.var?_cell hg hv 0
  simpa using this

theorem row_calls (s : ByteArray) (w : World) (hs : s.size ≤ 140737488351232) (hL : laidMetH Tryd.prog Rows.fnMetadataNameRow.laid w) :
    Calls Tryd.prog 3 #[.string s] w fun e w' => e = .returned (.bool true) ∧ Below w.heap.size w w' := law_calls s w hs (held_of_laid hL)

end Go.Proofs.YtefejcggkkmhaaaDoor.HMeta
