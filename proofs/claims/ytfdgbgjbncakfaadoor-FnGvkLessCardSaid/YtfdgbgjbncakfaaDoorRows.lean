/-
  NARROWER THAN 'FOR EVERY INPUT', by the rows' own cells (each row's printed sentence says how): FnGvkLess: laid.
  DERIVED. THE GIVEN ROWS OF THIS SEAT. 1 by the template 'for every input the law returns true; each argument reads behind the call as it read before'; 0 by the template 'total and deterministic' (their statements: YtfdgbgjbncakfaaDoorTotals.lean).
  GIVEN WITH THE SEED: the statements are not yours to turn. If you find one false, say at which input.
  Laid BY PROGRAM, IN A SANDBOX (cutbox-rows.mjs): the forced cells as the released guide's own fill.sh prints them over the translation cebf36f8def3f83f… (all of the seat's roots in one cut). By AI agents, Wed Nov 11 2026. No macro, syntax, notation, axiom, sorry.
-/
import Derived.Test.YtfdgbgjbncakfaaDoorChecked
import GoSem.Claim
import GoSem.ClaimJoined
import GoSem.ClaimMapViews
import Derived.JoinedTies
import Derived.KernelRfl
namespace Go.Proofs.YtfdgbgjbncakfaaDoor
/- THE CELL 'sum', in the pinned program and in every row, IS THE sha256 OF THE DUMP (.gsa) THAT YtfdgbgjbncakfaaDoorProg.lean LOADS. Nothing in Lean hashes anything: it is a label: what it is worth is what the hold of that sum in a sandbox is worth. -/
noncomputable def Tryd.pinned : Pinned := { name := "ytfdgbgjbncakfaadoor", sum := "cebf36f8def3f83f8fc19f4b6851262ece8141f210687f25a979df486d14ef1c", checked := Tryd.checked }
namespace Rows
def none {H : Type} : Left H := { results := [], args := [] }

/- WHAT THE LISTED PACKAGE-LEVEL VARIABLES READ AS WHEN THE CALL BEGINS. Each datum BY PROGRAM (the guide's laid-datum.mjs) off the statement by which the dump's own 'gosem.cut.vars' lays the variable. In a bare row this is a premise. The card (YtfdgbgjbncakfaaDoorCards.lean) ties it to the program's text. -/
def laid_given_example_pub_antistrophe_pub_kyaml_resid_orderFirst {H : Type} : DataW H := .slice [.lit (.string [78, 97, 109, 101, 115, 112, 97, 99, 101]), .lit (.string [82, 101, 115, 111, 117, 114, 99, 101, 81, 117, 111, 116, 97]), .lit (.string [83, 116, 111, 114, 97, 103, 101, 67, 108, 97, 115, 115]), .lit (.string [67, 117, 115, 116, 111, 109, 82, 101, 115, 111, 117, 114, 99, 101, 68, 101, 102, 105, 110, 105, 116, 105, 111, 110]), .lit (.string [83, 101, 114, 118, 105, 99, 101, 65, 99, 99, 111, 117, 110, 116]), .lit (.string [80, 111, 100, 83, 101, 99, 117, 114, 105, 116, 121, 80, 111, 108, 105, 99, 121]), .lit (.string [82, 111, 108, 101]), .lit (.string [67, 108, 117, 115, 116, 101, 114, 82, 111, 108, 101]), .lit (.string [82, 111, 108, 101, 66, 105, 110, 100, 105, 110, 103]), .lit (.string [67, 108, 117, 115, 116, 101, 114, 82, 111, 108, 101, 66, 105, 110, 100, 105, 110, 103]), .lit (.string [67, 111, 110, 102, 105, 103, 77, 97, 112]), .lit (.string [83, 101, 99, 114, 101, 116]), .lit (.string [69, 110, 100, 112, 111, 105, 110, 116, 115]), .lit (.string [83, 101, 114, 118, 105, 99, 101]), .lit (.string [76, 105, 109, 105, 116, 82, 97, 110, 103, 101]), .lit (.string [80, 114, 105, 111, 114, 105, 116, 121, 67, 108, 97, 115, 115]), .lit (.string [80, 101, 114, 115, 105, 115, 116, 101, 110, 116, 86, 111, 108, 117, 109, 101]), .lit (.string [80, 101, 114, 115, 105, 115, 116, 101, 110, 116, 86, 111, 108, 117, 109, 101, 67, 108, 97, 105, 109]), .lit (.string [68, 101, 112, 108, 111, 121, 109, 101, 110, 116]), .lit (.string [83, 116, 97, 116, 101, 102, 117, 108, 83, 101, 116]), .lit (.string [67, 114, 111, 110, 74, 111, 98]), .lit (.string [80, 111, 100, 68, 105, 115, 114, 117, 112, 116, 105, 111, 110, 66, 117, 100, 103, 101, 116])] []
def laid_given_example_pub_antistrophe_pub_kyaml_resid_orderLast {H : Type} : DataW H := .slice [.lit (.string [77, 117, 116, 97, 116, 105, 110, 103, 87, 101, 98, 104, 111, 111, 107, 67, 111, 110, 102, 105, 103, 117, 114, 97, 116, 105, 111, 110]), .lit (.string [86, 97, 108, 105, 100, 97, 116, 105, 110, 103, 87, 101, 98, 104, 111, 111, 107, 67, 111, 110, 102, 105, 103, 117, 114, 97, 116, 105, 111, 110])] []

/-- 'laws.FnGvkLess': WHATEVER THE INPUT: true; the input reads as it did. -/
def fnGvkLessSpec : ChangeSpec := { name := "fnGvkLess", vars := ["given.example/pub-antistrophe/pub/kyaml/resid.orderLast", "given.example/pub-antistrophe/pub/kyaml/resid.orderFirst"], fn := fun _ => fun
  | [d1, d2, d3, g1, g2] => { results := [.lit (.bool true)], args := [d1, d2, d3], vars := [g1, g2] }
  | _ => none }
def fnGvkLessRow : OpenClaim := { program := "ytfdgbgjbncakfaadoor", sum := "cebf36f8def3f83f8fc19f4b6851262ece8141f210687f25a979df486d14ef1c", func := "given.example/pub-antistrophe/laws.FnGvkLess", spec := "fnGvkLess", inPlace := ["internal/abi.NoEscape", "internal/bytealg.MakeNoZero"], named := ["given.example/pub-antistrophe/pub/kyaml/resid.orderLast", "given.example/pub-antistrophe/pub/kyaml/resid.orderFirst"], apart := false, laid := [("given.example/pub-antistrophe/pub/kyaml/resid.orderFirst", laid_given_example_pub_antistrophe_pub_kyaml_resid_orderFirst), ("given.example/pub-antistrophe/pub/kyaml/resid.orderLast", laid_given_example_pub_antistrophe_pub_kyaml_resid_orderLast)] }
def FnGvkLessSaid : Prop := fnGvkLessRow.holds Tryd.pinned (OpenSpec.ofChange fnGvkLessSpec)

/-- ITS FALSE NEIGHBOUR: 'it returns false'. Refute it at one input. -/
def fnGvkLessWrong : ChangeSpec := { name := "fnGvkLess", vars := ["given.example/pub-antistrophe/pub/kyaml/resid.orderLast", "given.example/pub-antistrophe/pub/kyaml/resid.orderFirst"], fn := fun _ => fun
  | [d1, d2, d3, g1, g2] => { results := [.lit (.bool false)], args := [d1, d2, d3], vars := [g1, g2] }
  | _ => none }
def FnGvkLessWrongFalsely : Prop := fnGvkLessRow.holds Tryd.pinned (OpenSpec.ofChange fnGvkLessWrong)

/- THE SECOND FORM. 'bulk': how many values and letters a reading holds, each counted each time it is reached (what is shared counts as often as it is met; a slice's spare places count too). A statement '..UptoSaid' is the law's where the arguments, and the package variables that the reading takes, are together of bulk at most 1048576: NARROWER than '..Said'. Prove '..Said' where nothing that the law and all that it calls make is longer than what came in: it says more and counts as full. Else prove '..UptoSaid'. A law counts once. -/
mutual
def uptoBulk {H : Type} : DataW H → Nat
  | .lit (.string bytes) => bytes.length + 1
  | .lit _ => 1
  | .nil => 1
  | .ptr d => uptoBulk d + 1
  | .slice elems spare => uptoBulkAll elems + uptoBulkAll spare + 1
  | .agg parts => uptoBulkAll parts + 1
  | .iface _ d => uptoBulk d + 1
  | .map entries => uptoBulkEntries entries + 1
  | .held _ => 1
def uptoBulkAll {H : Type} : List (DataW H) → Nat
  | [] => 0
  | d :: r => uptoBulk d + uptoBulkAll r
def uptoBulkEntries {H : Type} : List (Lit × DataW H) → Nat
  | [] => 0
  | x :: r => uptoBulkEntry x + uptoBulkEntries r
def uptoBulkEntry {H : Type} : Lit × DataW H → Nat
  | (.string bytes, d) => bytes.length + uptoBulk d + 1
  | (_, d) => uptoBulk d + 1
 end
def uptoSmall : (H : Type) → List (DataW H) → Bool := fun _ ds => decide (uptoBulkAll ds ≤ 1048576)
def OpenSpec.upto (s : _root_.Go.ChangeSpec) : _root_.Go.OpenSpec := { _root_.Go.OpenSpec.ofChange s with cond := some uptoSmall }

/-- 'laws.FnGvkLess', WHERE WHAT IT READS IS OF BULK AT MOST 1048576: true; the input reads as it did. -/
def fnGvkLessUptoRow : OpenClaim := { program := "ytfdgbgjbncakfaadoor", sum := "cebf36f8def3f83f8fc19f4b6851262ece8141f210687f25a979df486d14ef1c", func := "given.example/pub-antistrophe/laws.FnGvkLess", spec := "fnGvkLess", inPlace := ["internal/abi.NoEscape", "internal/bytealg.MakeNoZero"], named := ["given.example/pub-antistrophe/pub/kyaml/resid.orderLast", "given.example/pub-antistrophe/pub/kyaml/resid.orderFirst"], apart := false, laid := [("given.example/pub-antistrophe/pub/kyaml/resid.orderFirst", laid_given_example_pub_antistrophe_pub_kyaml_resid_orderFirst), ("given.example/pub-antistrophe/pub/kyaml/resid.orderLast", laid_given_example_pub_antistrophe_pub_kyaml_resid_orderLast)], narrowed := true }
def FnGvkLessUptoSaid : Prop := fnGvkLessUptoRow.holds Tryd.pinned (OpenSpec.upto fnGvkLessSpec)

end Rows
end Go.Proofs.YtfdgbgjbncakfaaDoor
