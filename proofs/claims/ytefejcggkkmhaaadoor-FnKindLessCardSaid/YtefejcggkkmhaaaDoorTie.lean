/-
  DERIVED. GIVEN WITH THE SEED: THE PROGRAM's TIES (one call each: nine closed facts by the kernel) AND EACH ROW's TIE, after the 31st guide's Derived/Test/Toyas{Tie, Card}.lean. No idea stands in it: it is a product of the set-up. Laid BY PROGRAM, IN A SANDBOX (cutbox-door.mjs). By AI agents, Wed Nov 11 2026. No macro, syntax, notation, axiom, sorry.
-/
import Derived.Test.YtefejcggkkmhaaaDoorRows
import Derived.LaidByTextLater
import Derived.SevenTiedAt
import Derived.LaidSub
import Derived.LaidOnce
namespace Go.Proofs.YtefejcggkkmhaaaDoor
open Go
set_option maxRecDepth 100000
theorem seatTie1 : Tryd.prog.laidByTextLater [("given.example/pub-antistrophe/pub/helm/pkg/releaseutil.InstallOrder", Rows.laid_given_example_pub_antistrophe_pub_helm_pkg_releaseutil_InstallOrder), ("given.example/pub-antistrophe/pub/helm/pkg/releaseutil.UninstallOrder", Rows.laid_given_example_pub_antistrophe_pub_helm_pkg_releaseutil_UninstallOrder), ("given.example/pub-antistrophe/pub/helm/pkg/chartutil.errInvalidKubernetesName", Rows.laid_given_example_pub_antistrophe_pub_helm_pkg_chartutil_errInvalidKubernetesName)] [.widerDeep, .widerDeep, .sentinel] true :=
  Program.laidByTextLater_by_one 38 8 37 (by kernel_rfl) (by kernel_rfl) (by kernel_rfl) (by kernel_rfl) (by kernel_rfl) (by kernel_rfl) (fun _ _ => by kernel_rfl)
theorem noOwnUnsafe : Tryd.pinned.checked.prog.headLifts.contains "ownunsafe" = false := by kernel_rfl
theorem tie : Tryd.prog.laidByTextLater [("given.example/pub-antistrophe/pub/helm/pkg/chartutil.errInvalidKubernetesName", Rows.laid_given_example_pub_antistrophe_pub_helm_pkg_chartutil_errInvalidKubernetesName)] [.sentinel] true :=
  Program.laidByTextLater.sub seatTie1 ["given.example/pub-antistrophe/pub/helm/pkg/chartutil.errInvalidKubernetesName"] (by kernel_rfl) (by kernel_rfl)
theorem fnMetadataName_row_tie : Rows.fnMetadataNameRow.laidByTextAt .later Tryd.pinned [.sentinel] true :=
  OpenClaim.laidByTextAt_later rfl rfl tie noOwnUnsafe
theorem tie2 : Tryd.prog.laidByTextLater [("given.example/pub-antistrophe/pub/helm/pkg/releaseutil.InstallOrder", Rows.laid_given_example_pub_antistrophe_pub_helm_pkg_releaseutil_InstallOrder), ("given.example/pub-antistrophe/pub/helm/pkg/releaseutil.UninstallOrder", Rows.laid_given_example_pub_antistrophe_pub_helm_pkg_releaseutil_UninstallOrder)] [.widerDeep, .widerDeep] true :=
  Program.laidByTextLater.sub seatTie1 ["given.example/pub-antistrophe/pub/helm/pkg/releaseutil.InstallOrder", "given.example/pub-antistrophe/pub/helm/pkg/releaseutil.UninstallOrder"] (by kernel_rfl) (by kernel_rfl)
theorem fnKindLess_row_tie : Rows.fnKindLessRow.laidByTextAt .later Tryd.pinned [.widerDeep, .widerDeep] true :=
  OpenClaim.laidByTextAt_later rfl rfl tie2 noOwnUnsafe
theorem fnKindOrder_row_tie : Rows.fnKindOrderRow.laidByTextAt .later Tryd.pinned [.widerDeep, .widerDeep] true :=
  OpenClaim.laidByTextAt_later rfl rfl tie2 noOwnUnsafe
theorem fnMetadataNameUpto_row_tie : Rows.fnMetadataNameUptoRow.laidByTextAt .later Tryd.pinned [.sentinel] true :=
  OpenClaim.laidByTextAt_later rfl rfl tie noOwnUnsafe
theorem fnKindLessUpto_row_tie : Rows.fnKindLessUptoRow.laidByTextAt .later Tryd.pinned [.widerDeep, .widerDeep] true :=
  OpenClaim.laidByTextAt_later rfl rfl tie2 noOwnUnsafe
theorem fnKindOrderUpto_row_tie : Rows.fnKindOrderUptoRow.laidByTextAt .later Tryd.pinned [.widerDeep, .widerDeep] true :=
  OpenClaim.laidByTextAt_later rfl rfl tie2 noOwnUnsafe
end Go.Proofs.YtefejcggkkmhaaaDoor
