/-
  No cell of these rows narrows 'for every input' (looked for: loops, veiled, ifaces, maps, wideKeys, modest, calm, conditions, laid).
  DERIVED. THE GIVEN ROWS OF THIS SEAT. 3 by the template 'for every input the law returns true; each argument reads behind the call as it read before'; 0 by the template 'total and deterministic' (their statements: YtgdffbjkafbkcaaTotals.lean).
  GIVEN WITH THE SEED: the statements are not yours to turn. If you find one false, say at which input.
  Laid BY PROGRAM, IN A SANDBOX (cutbox-rows.mjs): the forced cells as the released guide's own fill.sh prints them over the translation a0296c2ca7f2dbac… (all of the seat's roots in one cut). By AI agents, Wed Nov 11 2026. No macro, syntax, notation, axiom, sorry.
-/
import Derived.Test.YtgdffbjkafbkcaaChecked
import GoSem.Claim
import GoSem.ClaimJoined
import GoSem.ClaimMapViews
import Derived.JoinedTies
import Derived.KernelRfl
namespace Go.Proofs.Ytgdffbjkafbkcaa
/- THE CELL 'sum', in the pinned program and in every row, IS THE sha256 OF THE DUMP (.gsa) THAT YtgdffbjkafbkcaaProg.lean LOADS. Nothing in Lean hashes anything: it is a label: what it is worth is what the hold of that sum in a sandbox is worth. -/
noncomputable def Try.pinned : Pinned := { name := "ytgdffbjkafbkcaa", sum := "a0296c2ca7f2dbacc04db3575170c341272146c0ad80241d065582fb40d8c7ac", checked := Try.checked }
namespace Rows
def none {H : Type} : Left H := { results := [], args := [] }

/-- 'laws.FnPathApart': WHATEVER THE INPUT: true; the input reads as it did. -/
def fnPathApartSpec : ChangeSpec := { name := "fnPathApart", fn := fun _ => fun
  | [d1, d2] => { results := [.lit (.bool true)], args := [d1, d2] }
  | _ => none }
def fnPathApartRow : OpenClaim := { program := "ytgdffbjkafbkcaa", sum := "a0296c2ca7f2dbacc04db3575170c341272146c0ad80241d065582fb40d8c7ac", func := "given.example/pub-antistrophe/laws.FnPathApart", spec := "fnPathApart", apart := false }
def FnPathApartSaid : Prop := fnPathApartRow.holds Try.pinned (OpenSpec.ofChange fnPathApartSpec)

/-- ITS FALSE NEIGHBOUR: 'it returns false'. Refute it at one input. -/
def fnPathApartWrong : ChangeSpec := { name := "fnPathApart", fn := fun _ => fun
  | [d1, d2] => { results := [.lit (.bool false)], args := [d1, d2] }
  | _ => none }
def FnPathApartWrongFalsely : Prop := fnPathApartRow.holds Try.pinned (OpenSpec.ofChange fnPathApartWrong)

/-- 'laws.FnKeyLine': WHATEVER THE INPUT: true; the input reads as it did. -/
def fnKeyLineSpec : ChangeSpec := { name := "fnKeyLine", fn := fun _ => fun
  | [d1, d2] => { results := [.lit (.bool true)], args := [d1, d2] }
  | _ => none }
def fnKeyLineRow : OpenClaim := { program := "ytgdffbjkafbkcaa", sum := "a0296c2ca7f2dbacc04db3575170c341272146c0ad80241d065582fb40d8c7ac", func := "given.example/pub-antistrophe/laws.FnKeyLine", spec := "fnKeyLine", apart := false }
def FnKeyLineSaid : Prop := fnKeyLineRow.holds Try.pinned (OpenSpec.ofChange fnKeyLineSpec)

/-- ITS FALSE NEIGHBOUR: 'it returns false'. Refute it at one input. -/
def fnKeyLineWrong : ChangeSpec := { name := "fnKeyLine", fn := fun _ => fun
  | [d1, d2] => { results := [.lit (.bool false)], args := [d1, d2] }
  | _ => none }
def FnKeyLineWrongFalsely : Prop := fnKeyLineRow.holds Try.pinned (OpenSpec.ofChange fnKeyLineWrong)

/-- 'laws.FnPathSmart': WHATEVER THE INPUT: true; the input reads as it did. -/
def fnPathSmartSpec : ChangeSpec := { name := "fnPathSmart", fn := fun _ => fun
  | [d1, d2] => { results := [.lit (.bool true)], args := [d1, d2] }
  | _ => none }
def fnPathSmartRow : OpenClaim := { program := "ytgdffbjkafbkcaa", sum := "a0296c2ca7f2dbacc04db3575170c341272146c0ad80241d065582fb40d8c7ac", func := "given.example/pub-antistrophe/laws.FnPathSmart", spec := "fnPathSmart", inPlace := ["internal/abi.NoEscape", "internal/bytealg.MakeNoZero"], apart := false }
def FnPathSmartSaid : Prop := fnPathSmartRow.holds Try.pinned (OpenSpec.ofChange fnPathSmartSpec)

/-- ITS FALSE NEIGHBOUR: 'it returns false'. Refute it at one input. -/
def fnPathSmartWrong : ChangeSpec := { name := "fnPathSmart", fn := fun _ => fun
  | [d1, d2] => { results := [.lit (.bool false)], args := [d1, d2] }
  | _ => none }
def FnPathSmartWrongFalsely : Prop := fnPathSmartRow.holds Try.pinned (OpenSpec.ofChange fnPathSmartWrong)

/- THE SECOND FORM. 'bulk': how many values and letters a reading holds, each counted each time it is reached (what is shared counts as often as it is met; a slice's spare places count too). A statement '..UptoSaid' is the law's where the arguments, and the package variables that the reading takes, are together of bulk at most 1048576: NARROWER than '..Said'. Prove '..Said' where nothing that the law and all that it calls make is longer than what came in: it says more and counts as full. Else prove '..UptoSaid'. A law counts once. -/
mutual
def uptoBulk {H : Type} : DataW H → Nat
  | .lit (.string bytes) => bytes.length + 1
  | .lit _ => 1
  | .nil => 1
  | .ptr d => uptoBulk d + 1
  | .slice elems spare => uptoBulkAll elems + uptoBulkAll spare + 1
  | .agg parts => uptoBulkAll parts + 1
  | .iface _ d => uptoBulk d + 1
  | .map entries => uptoBulkEntries entries + 1
  | .held _ => 1
def uptoBulkAll {H : Type} : List (DataW H) → Nat
  | [] => 0
  | d :: r => uptoBulk d + uptoBulkAll r
def uptoBulkEntries {H : Type} : List (Lit × DataW H) → Nat
  | [] => 0
  | x :: r => uptoBulkEntry x + uptoBulkEntries r
def uptoBulkEntry {H : Type} : Lit × DataW H → Nat
  | (.string bytes, d) => bytes.length + uptoBulk d + 1
  | (_, d) => uptoBulk d + 1
 end
def uptoSmall : (H : Type) → List (DataW H) → Bool := fun _ ds => decide (uptoBulkAll ds ≤ 1048576)
def OpenSpec.upto (s : _root_.Go.ChangeSpec) : _root_.Go.OpenSpec := { _root_.Go.OpenSpec.ofChange s with cond := some uptoSmall }

/-- 'laws.FnPathApart', WHERE WHAT IT READS IS OF BULK AT MOST 1048576: true; the input reads as it did. -/
def fnPathApartUptoRow : OpenClaim := { program := "ytgdffbjkafbkcaa", sum := "a0296c2ca7f2dbacc04db3575170c341272146c0ad80241d065582fb40d8c7ac", func := "given.example/pub-antistrophe/laws.FnPathApart", spec := "fnPathApart", apart := false, narrowed := true }
def FnPathApartUptoSaid : Prop := fnPathApartUptoRow.holds Try.pinned (OpenSpec.upto fnPathApartSpec)

/-- 'laws.FnKeyLine', WHERE WHAT IT READS IS OF BULK AT MOST 1048576: true; the input reads as it did. -/
def fnKeyLineUptoRow : OpenClaim := { program := "ytgdffbjkafbkcaa", sum := "a0296c2ca7f2dbacc04db3575170c341272146c0ad80241d065582fb40d8c7ac", func := "given.example/pub-antistrophe/laws.FnKeyLine", spec := "fnKeyLine", apart := false, narrowed := true }
def FnKeyLineUptoSaid : Prop := fnKeyLineUptoRow.holds Try.pinned (OpenSpec.upto fnKeyLineSpec)

/-- 'laws.FnPathSmart', WHERE WHAT IT READS IS OF BULK AT MOST 1048576: true; the input reads as it did. -/
def fnPathSmartUptoRow : OpenClaim := { program := "ytgdffbjkafbkcaa", sum := "a0296c2ca7f2dbacc04db3575170c341272146c0ad80241d065582fb40d8c7ac", func := "given.example/pub-antistrophe/laws.FnPathSmart", spec := "fnPathSmart", inPlace := ["internal/abi.NoEscape", "internal/bytealg.MakeNoZero"], apart := false, narrowed := true }
def FnPathSmartUptoSaid : Prop := fnPathSmartUptoRow.holds Try.pinned (OpenSpec.upto fnPathSmartSpec)

end Rows
end Go.Proofs.Ytgdffbjkafbkcaa
