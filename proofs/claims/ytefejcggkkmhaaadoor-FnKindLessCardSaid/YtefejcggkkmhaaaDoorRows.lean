/-
  NARROWER THAN 'FOR EVERY INPUT', by the rows' own cells (each row's printed sentence says how): FnMetadataName: ifaces, laid · FnKindLess: laid · FnKindOrder: laid.
  DERIVED. THE GIVEN ROWS OF THIS SEAT. 3 by the template 'for every input the law returns true; each argument reads behind the call as it read before'; 0 by the template 'total and deterministic' (their statements: YtefejcggkkmhaaaDoorTotals.lean).
  GIVEN WITH THE SEED: the statements are not yours to turn. If you find one false, say at which input.
  Laid BY PROGRAM, IN A SANDBOX (cutbox-rows.mjs): the forced cells as the released guide's own fill.sh prints them over the translation 374cbd2831ae87c1… (all of the seat's roots in one cut). By AI agents, Wed Nov 11 2026. No macro, syntax, notation, axiom, sorry.
-/
import Derived.Test.YtefejcggkkmhaaaDoorChecked
import GoSem.Claim
import GoSem.ClaimJoined
import GoSem.ClaimMapViews
import Derived.JoinedTies
import Derived.KernelRfl
namespace Go.Proofs.YtefejcggkkmhaaaDoor
/- THE CELL 'sum', in the pinned program and in every row, IS THE sha256 OF THE DUMP (.gsa) THAT YtefejcggkkmhaaaDoorProg.lean LOADS. Nothing in Lean hashes anything: it is a label: what it is worth is what the hold of that sum in a sandbox is worth. -/
noncomputable def Tryd.pinned : Pinned := { name := "ytefejcggkkmhaaadoor", sum := "374cbd2831ae87c158793de10728fb1d79983100633061db5e9149dde184b8aa", checked := Tryd.checked }
namespace Rows
def none {H : Type} : Left H := { results := [], args := [] }

/- WHAT THE LISTED PACKAGE-LEVEL VARIABLES READ AS WHEN THE CALL BEGINS. Each datum BY PROGRAM (the guide's laid-datum.mjs) off the statement by which the dump's own 'gosem.cut.vars' lays the variable. In a bare row this is a premise. The card (YtefejcggkkmhaaaDoorCards.lean) ties it to the program's text. -/
def laid_given_example_pub_antistrophe_pub_helm_pkg_chartutil_errInvalidKubernetesName {H : Type} : DataW H := .iface "*errors.errorString" (.ptr (.agg [.lit (.string [105, 110, 118, 97, 108, 105, 100, 32, 109, 101, 116, 97, 100, 97, 116, 97, 32, 110, 97, 109, 101])]))
def laid_given_example_pub_antistrophe_pub_helm_pkg_releaseutil_InstallOrder {H : Type} : DataW H := .slice [.lit (.string [80, 114, 105, 111, 114, 105, 116, 121, 67, 108, 97, 115, 115]), .lit (.string [78, 97, 109, 101, 115, 112, 97, 99, 101]), .lit (.string [78, 101, 116, 119, 111, 114, 107, 80, 111, 108, 105, 99, 121]), .lit (.string [82, 101, 115, 111, 117, 114, 99, 101, 81, 117, 111, 116, 97]), .lit (.string [76, 105, 109, 105, 116, 82, 97, 110, 103, 101]), .lit (.string [80, 111, 100, 83, 101, 99, 117, 114, 105, 116, 121, 80, 111, 108, 105, 99, 121]), .lit (.string [80, 111, 100, 68, 105, 115, 114, 117, 112, 116, 105, 111, 110, 66, 117, 100, 103, 101, 116]), .lit (.string [83, 101, 114, 118, 105, 99, 101, 65, 99, 99, 111, 117, 110, 116]), .lit (.string [83, 101, 99, 114, 101, 116]), .lit (.string [83, 101, 99, 114, 101, 116, 76, 105, 115, 116]), .lit (.string [67, 111, 110, 102, 105, 103, 77, 97, 112]), .lit (.string [83, 116, 111, 114, 97, 103, 101, 67, 108, 97, 115, 115]), .lit (.string [80, 101, 114, 115, 105, 115, 116, 101, 110, 116, 86, 111, 108, 117, 109, 101]), .lit (.string [80, 101, 114, 115, 105, 115, 116, 101, 110, 116, 86, 111, 108, 117, 109, 101, 67, 108, 97, 105, 109]), .lit (.string [67, 117, 115, 116, 111, 109, 82, 101, 115, 111, 117, 114, 99, 101, 68, 101, 102, 105, 110, 105, 116, 105, 111, 110]), .lit (.string [67, 108, 117, 115, 116, 101, 114, 82, 111, 108, 101]), .lit (.string [67, 108, 117, 115, 116, 101, 114, 82, 111, 108, 101, 76, 105, 115, 116]), .lit (.string [67, 108, 117, 115, 116, 101, 114, 82, 111, 108, 101, 66, 105, 110, 100, 105, 110, 103]), .lit (.string [67, 108, 117, 115, 116, 101, 114, 82, 111, 108, 101, 66, 105, 110, 100, 105, 110, 103, 76, 105, 115, 116]), .lit (.string [82, 111, 108, 101]), .lit (.string [82, 111, 108, 101, 76, 105, 115, 116]), .lit (.string [82, 111, 108, 101, 66, 105, 110, 100, 105, 110, 103]), .lit (.string [82, 111, 108, 101, 66, 105, 110, 100, 105, 110, 103, 76, 105, 115, 116]), .lit (.string [83, 101, 114, 118, 105, 99, 101]), .lit (.string [68, 97, 101, 109, 111, 110, 83, 101, 116]), .lit (.string [80, 111, 100]), .lit (.string [82, 101, 112, 108, 105, 99, 97, 116, 105, 111, 110, 67, 111, 110, 116, 114, 111, 108, 108, 101, 114]), .lit (.string [82, 101, 112, 108, 105, 99, 97, 83, 101, 116]), .lit (.string [68, 101, 112, 108, 111, 121, 109, 101, 110, 116]), .lit (.string [72, 111, 114, 105, 122, 111, 110, 116, 97, 108, 80, 111, 100, 65, 117, 116, 111, 115, 99, 97, 108, 101, 114]), .lit (.string [83, 116, 97, 116, 101, 102, 117, 108, 83, 101, 116]), .lit (.string [74, 111, 98]), .lit (.string [67, 114, 111, 110, 74, 111, 98]), .lit (.string [73, 110, 103, 114, 101, 115, 115, 67, 108, 97, 115, 115]), .lit (.string [73, 110, 103, 114, 101, 115, 115]), .lit (.string [65, 80, 73, 83, 101, 114, 118, 105, 99, 101])] []
def laid_given_example_pub_antistrophe_pub_helm_pkg_releaseutil_UninstallOrder {H : Type} : DataW H := .slice [.lit (.string [65, 80, 73, 83, 101, 114, 118, 105, 99, 101]), .lit (.string [73, 110, 103, 114, 101, 115, 115]), .lit (.string [73, 110, 103, 114, 101, 115, 115, 67, 108, 97, 115, 115]), .lit (.string [83, 101, 114, 118, 105, 99, 101]), .lit (.string [67, 114, 111, 110, 74, 111, 98]), .lit (.string [74, 111, 98]), .lit (.string [83, 116, 97, 116, 101, 102, 117, 108, 83, 101, 116]), .lit (.string [72, 111, 114, 105, 122, 111, 110, 116, 97, 108, 80, 111, 100, 65, 117, 116, 111, 115, 99, 97, 108, 101, 114]), .lit (.string [68, 101, 112, 108, 111, 121, 109, 101, 110, 116]), .lit (.string [82, 101, 112, 108, 105, 99, 97, 83, 101, 116]), .lit (.string [82, 101, 112, 108, 105, 99, 97, 116, 105, 111, 110, 67, 111, 110, 116, 114, 111, 108, 108, 101, 114]), .lit (.string [80, 111, 100]), .lit (.string [68, 97, 101, 109, 111, 110, 83, 101, 116]), .lit (.string [82, 111, 108, 101, 66, 105, 110, 100, 105, 110, 103, 76, 105, 115, 116]), .lit (.string [82, 111, 108, 101, 66, 105, 110, 100, 105, 110, 103]), .lit (.string [82, 111, 108, 101, 76, 105, 115, 116]), .lit (.string [82, 111, 108, 101]), .lit (.string [67, 108, 117, 115, 116, 101, 114, 82, 111, 108, 101, 66, 105, 110, 100, 105, 110, 103, 76, 105, 115, 116]), .lit (.string [67, 108, 117, 115, 116, 101, 114, 82, 111, 108, 101, 66, 105, 110, 100, 105, 110, 103]), .lit (.string [67, 108, 117, 115, 116, 101, 114, 82, 111, 108, 101, 76, 105, 115, 116]), .lit (.string [67, 108, 117, 115, 116, 101, 114, 82, 111, 108, 101]), .lit (.string [67, 117, 115, 116, 111, 109, 82, 101, 115, 111, 117, 114, 99, 101, 68, 101, 102, 105, 110, 105, 116, 105, 111, 110]), .lit (.string [80, 101, 114, 115, 105, 115, 116, 101, 110, 116, 86, 111, 108, 117, 109, 101, 67, 108, 97, 105, 109]), .lit (.string [80, 101, 114, 115, 105, 115, 116, 101, 110, 116, 86, 111, 108, 117, 109, 101]), .lit (.string [83, 116, 111, 114, 97, 103, 101, 67, 108, 97, 115, 115]), .lit (.string [67, 111, 110, 102, 105, 103, 77, 97, 112]), .lit (.string [83, 101, 99, 114, 101, 116, 76, 105, 115, 116]), .lit (.string [83, 101, 99, 114, 101, 116]), .lit (.string [83, 101, 114, 118, 105, 99, 101, 65, 99, 99, 111, 117, 110, 116]), .lit (.string [80, 111, 100, 68, 105, 115, 114, 117, 112, 116, 105, 111, 110, 66, 117, 100, 103, 101, 116]), .lit (.string [80, 111, 100, 83, 101, 99, 117, 114, 105, 116, 121, 80, 111, 108, 105, 99, 121]), .lit (.string [76, 105, 109, 105, 116, 82, 97, 110, 103, 101]), .lit (.string [82, 101, 115, 111, 117, 114, 99, 101, 81, 117, 111, 116, 97]), .lit (.string [78, 101, 116, 119, 111, 114, 107, 80, 111, 108, 105, 99, 121]), .lit (.string [78, 97, 109, 101, 115, 112, 97, 99, 101]), .lit (.string [80, 114, 105, 111, 114, 105, 116, 121, 67, 108, 97, 115, 115])] []

/-- 'laws.FnMetadataName': WHATEVER THE INPUT: true; the input reads as it did. -/
def fnMetadataNameSpec : ChangeSpec := { name := "fnMetadataName", vars := ["given.example/pub-antistrophe/pub/helm/pkg/chartutil.errInvalidKubernetesName"], fn := fun _ => fun
  | [d, g1] => { results := [.lit (.bool true)], args := [d], vars := [g1] }
  | _ => none }
def fnMetadataNameRow : OpenClaim := { program := "ytefejcggkkmhaaadoor", sum := "374cbd2831ae87c158793de10728fb1d79983100633061db5e9149dde184b8aa", func := "given.example/pub-antistrophe/laws.FnMetadataName", spec := "fnMetadataName", named := ["given.example/pub-antistrophe/pub/helm/pkg/chartutil.errInvalidKubernetesName"], ifaces := true, apart := false, laid := [("given.example/pub-antistrophe/pub/helm/pkg/chartutil.errInvalidKubernetesName", laid_given_example_pub_antistrophe_pub_helm_pkg_chartutil_errInvalidKubernetesName)] }
def FnMetadataNameSaid : Prop := fnMetadataNameRow.holds Tryd.pinned (OpenSpec.ofChange fnMetadataNameSpec)

/-- ITS FALSE NEIGHBOUR: 'it returns false'. Refute it at one input. -/
def fnMetadataNameWrong : ChangeSpec := { name := "fnMetadataName", vars := ["given.example/pub-antistrophe/pub/helm/pkg/chartutil.errInvalidKubernetesName"], fn := fun _ => fun
  | [d, g1] => { results := [.lit (.bool false)], args := [d], vars := [g1] }
  | _ => none }
def FnMetadataNameWrongFalsely : Prop := fnMetadataNameRow.holds Tryd.pinned (OpenSpec.ofChange fnMetadataNameWrong)

/-- 'laws.FnKindLess': WHATEVER THE INPUT: true; the input reads as it did. -/
def fnKindLessSpec : ChangeSpec := { name := "fnKindLess", vars := ["given.example/pub-antistrophe/pub/helm/pkg/releaseutil.UninstallOrder", "given.example/pub-antistrophe/pub/helm/pkg/releaseutil.InstallOrder"], fn := fun _ => fun
  | [d1, d2, d3, d4, g1, g2] => { results := [.lit (.bool true)], args := [d1, d2, d3, d4], vars := [g1, g2] }
  | _ => none }
def fnKindLessRow : OpenClaim := { program := "ytefejcggkkmhaaadoor", sum := "374cbd2831ae87c158793de10728fb1d79983100633061db5e9149dde184b8aa", func := "given.example/pub-antistrophe/laws.FnKindLess", spec := "fnKindLess", unfollowed := true, recurses := true, named := ["given.example/pub-antistrophe/pub/helm/pkg/releaseutil.UninstallOrder", "given.example/pub-antistrophe/pub/helm/pkg/releaseutil.InstallOrder"], apart := false, laid := [("given.example/pub-antistrophe/pub/helm/pkg/releaseutil.InstallOrder", laid_given_example_pub_antistrophe_pub_helm_pkg_releaseutil_InstallOrder), ("given.example/pub-antistrophe/pub/helm/pkg/releaseutil.UninstallOrder", laid_given_example_pub_antistrophe_pub_helm_pkg_releaseutil_UninstallOrder)] }
def FnKindLessSaid : Prop := fnKindLessRow.holds Tryd.pinned (OpenSpec.ofChange fnKindLessSpec)

/-- ITS FALSE NEIGHBOUR: 'it returns false'. Refute it at one input. -/
def fnKindLessWrong : ChangeSpec := { name := "fnKindLess", vars := ["given.example/pub-antistrophe/pub/helm/pkg/releaseutil.UninstallOrder", "given.example/pub-antistrophe/pub/helm/pkg/releaseutil.InstallOrder"], fn := fun _ => fun
  | [d1, d2, d3, d4, g1, g2] => { results := [.lit (.bool false)], args := [d1, d2, d3, d4], vars := [g1, g2] }
  | _ => none }
def FnKindLessWrongFalsely : Prop := fnKindLessRow.holds Tryd.pinned (OpenSpec.ofChange fnKindLessWrong)

/-- 'laws.FnKindOrder': WHATEVER THE INPUT: true; the input reads as it did. -/
def fnKindOrderSpec : ChangeSpec := { name := "fnKindOrder", vars := ["given.example/pub-antistrophe/pub/helm/pkg/releaseutil.UninstallOrder", "given.example/pub-antistrophe/pub/helm/pkg/releaseutil.InstallOrder"], fn := fun _ => fun
  | [d1, d2, d3, g1, g2] => { results := [.lit (.bool true)], args := [d1, d2, d3], vars := [g1, g2] }
  | _ => none }
def fnKindOrderRow : OpenClaim := { program := "ytefejcggkkmhaaadoor", sum := "374cbd2831ae87c158793de10728fb1d79983100633061db5e9149dde184b8aa", func := "given.example/pub-antistrophe/laws.FnKindOrder", spec := "fnKindOrder", named := ["given.example/pub-antistrophe/pub/helm/pkg/releaseutil.UninstallOrder", "given.example/pub-antistrophe/pub/helm/pkg/releaseutil.InstallOrder"], apart := false, laid := [("given.example/pub-antistrophe/pub/helm/pkg/releaseutil.InstallOrder", laid_given_example_pub_antistrophe_pub_helm_pkg_releaseutil_InstallOrder), ("given.example/pub-antistrophe/pub/helm/pkg/releaseutil.UninstallOrder", laid_given_example_pub_antistrophe_pub_helm_pkg_releaseutil_UninstallOrder)] }
def FnKindOrderSaid : Prop := fnKindOrderRow.holds Tryd.pinned (OpenSpec.ofChange fnKindOrderSpec)

/-- ITS FALSE NEIGHBOUR: 'it returns false'. Refute it at one input. -/
def fnKindOrderWrong : ChangeSpec := { name := "fnKindOrder", vars := ["given.example/pub-antistrophe/pub/helm/pkg/releaseutil.UninstallOrder", "given.example/pub-antistrophe/pub/helm/pkg/releaseutil.InstallOrder"], fn := fun _ => fun
  | [d1, d2, d3, g1, g2] => { results := [.lit (.bool false)], args := [d1, d2, d3], vars := [g1, g2] }
  | _ => none }
def FnKindOrderWrongFalsely : Prop := fnKindOrderRow.holds Tryd.pinned (OpenSpec.ofChange fnKindOrderWrong)

/- THE SECOND FORM. 'bulk': how many values and letters a reading holds, each counted each time it is reached (what is shared counts as often as it is met; a slice's spare places count too). A statement '..UptoSaid' is the law's where the arguments, and the package variables that the reading takes, are together of bulk at most 1048576: NARROWER than '..Said'. Prove '..Said' where nothing that the law and all that it calls make is longer than what came in: it says more and counts as full. Else prove '..UptoSaid'. A law counts once. -/
mutual
def uptoBulk {H : Type} : DataW H → Nat
  | .lit (.string bytes) => bytes.length + 1
  | .lit _ => 1
  | .nil => 1
  | .ptr d => uptoBulk d + 1
  | .slice elems spare => uptoBulkAll elems + uptoBulkAll spare + 1
  | .agg parts => uptoBulkAll parts + 1
  | .iface _ d => uptoBulk d + 1
  | .map entries => uptoBulkEntries entries + 1
  | .held _ => 1
def uptoBulkAll {H : Type} : List (DataW H) → Nat
  | [] => 0
  | d :: r => uptoBulk d + uptoBulkAll r
def uptoBulkEntries {H : Type} : List (Lit × DataW H) → Nat
  | [] => 0
  | x :: r => uptoBulkEntry x + uptoBulkEntries r
def uptoBulkEntry {H : Type} : Lit × DataW H → Nat
  | (.string bytes, d) => bytes.length + uptoBulk d + 1
  | (_, d) => uptoBulk d + 1
 end
def uptoSmall : (H : Type) → List (DataW H) → Bool := fun _ ds => decide (uptoBulkAll ds ≤ 1048576)
def OpenSpec.upto (s : _root_.Go.ChangeSpec) : _root_.Go.OpenSpec := { _root_.Go.OpenSpec.ofChange s with cond := some uptoSmall }

/-- 'laws.FnMetadataName', WHERE WHAT IT READS IS OF BULK AT MOST 1048576: true; the input reads as it did. -/
def fnMetadataNameUptoRow : OpenClaim := { program := "ytefejcggkkmhaaadoor", sum := "374cbd2831ae87c158793de10728fb1d79983100633061db5e9149dde184b8aa", func := "given.example/pub-antistrophe/laws.FnMetadataName", spec := "fnMetadataName", named := ["given.example/pub-antistrophe/pub/helm/pkg/chartutil.errInvalidKubernetesName"], ifaces := true, apart := false, laid := [("given.example/pub-antistrophe/pub/helm/pkg/chartutil.errInvalidKubernetesName", laid_given_example_pub_antistrophe_pub_helm_pkg_chartutil_errInvalidKubernetesName)], narrowed := true }
def FnMetadataNameUptoSaid : Prop := fnMetadataNameUptoRow.holds Tryd.pinned (OpenSpec.upto fnMetadataNameSpec)

/-- 'laws.FnKindLess', WHERE WHAT IT READS IS OF BULK AT MOST 1048576: true; the input reads as it did. -/
def fnKindLessUptoRow : OpenClaim := { program := "ytefejcggkkmhaaadoor", sum := "374cbd2831ae87c158793de10728fb1d79983100633061db5e9149dde184b8aa", func := "given.example/pub-antistrophe/laws.FnKindLess", spec := "fnKindLess", unfollowed := true, recurses := true, named := ["given.example/pub-antistrophe/pub/helm/pkg/releaseutil.UninstallOrder", "given.example/pub-antistrophe/pub/helm/pkg/releaseutil.InstallOrder"], apart := false, laid := [("given.example/pub-antistrophe/pub/helm/pkg/releaseutil.InstallOrder", laid_given_example_pub_antistrophe_pub_helm_pkg_releaseutil_InstallOrder), ("given.example/pub-antistrophe/pub/helm/pkg/releaseutil.UninstallOrder", laid_given_example_pub_antistrophe_pub_helm_pkg_releaseutil_UninstallOrder)], narrowed := true }
def FnKindLessUptoSaid : Prop := fnKindLessUptoRow.holds Tryd.pinned (OpenSpec.upto fnKindLessSpec)

/-- 'laws.FnKindOrder', WHERE WHAT IT READS IS OF BULK AT MOST 1048576: true; the input reads as it did. -/
def fnKindOrderUptoRow : OpenClaim := { program := "ytefejcggkkmhaaadoor", sum := "374cbd2831ae87c158793de10728fb1d79983100633061db5e9149dde184b8aa", func := "given.example/pub-antistrophe/laws.FnKindOrder", spec := "fnKindOrder", named := ["given.example/pub-antistrophe/pub/helm/pkg/releaseutil.UninstallOrder", "given.example/pub-antistrophe/pub/helm/pkg/releaseutil.InstallOrder"], apart := false, laid := [("given.example/pub-antistrophe/pub/helm/pkg/releaseutil.InstallOrder", laid_given_example_pub_antistrophe_pub_helm_pkg_releaseutil_InstallOrder), ("given.example/pub-antistrophe/pub/helm/pkg/releaseutil.UninstallOrder", laid_given_example_pub_antistrophe_pub_helm_pkg_releaseutil_UninstallOrder)], narrowed := true }
def FnKindOrderUptoSaid : Prop := fnKindOrderUptoRow.holds Tryd.pinned (OpenSpec.upto fnKindOrderSpec)

end Rows
end Go.Proofs.YtefejcggkkmhaaaDoor
