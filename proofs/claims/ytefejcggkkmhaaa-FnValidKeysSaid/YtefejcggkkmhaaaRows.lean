/-
  No cell of these rows narrows 'for every input' (looked for: loops, veiled, ifaces, maps, wideKeys, modest, calm, conditions, laid).
  DERIVED. THE GIVEN ROWS OF THIS SEAT. 4 by the template 'for every input the law returns true; each argument reads behind the call as it read before'; 0 by the template 'total and deterministic' (their statements: YtefejcggkkmhaaaTotals.lean).
  GIVEN WITH THE SEED: the statements are not yours to turn. If you find one false, say at which input.
  Laid BY PROGRAM, IN A SANDBOX (cutbox-rows.mjs): the forced cells as the released guide's own fill.sh prints them over the translation ff500180c3712e10… (all of the seat's roots in one cut). By AI agents, Wed Nov 11 2026. No macro, syntax, notation, axiom, sorry.
-/
import Derived.Test.YtefejcggkkmhaaaChecked
import GoSem.Claim
import GoSem.ClaimJoined
import GoSem.ClaimMapViews
import Derived.JoinedTies
import Derived.KernelRfl
namespace Go.Proofs.Ytefejcggkkmhaaa
/- THE CELL 'sum', in the pinned program and in every row, IS THE sha256 OF THE DUMP (.gsa) THAT YtefejcggkkmhaaaProg.lean LOADS. Nothing in Lean hashes anything: it is a label: what it is worth is what the hold of that sum in a sandbox is worth. -/
noncomputable def Try.pinned : Pinned := { name := "ytefejcggkkmhaaa", sum := "ff500180c3712e1031bd29b67eefd1c658365650d50318bd789503e44fb0f6ea", checked := Try.checked }
namespace Rows
def none {H : Type} : Left H := { results := [], args := [] }

/-- 'laws.FnRemoveText': WHATEVER THE INPUT: true; the input reads as it did. -/
def fnRemoveTextSpec : ChangeSpec := { name := "fnRemoveText", fn := fun _ => fun
  | [d1, d2] => { results := [.lit (.bool true)], args := [d1, d2] }
  | _ => none }
def fnRemoveTextRow : OpenClaim := { program := "ytefejcggkkmhaaa", sum := "ff500180c3712e1031bd29b67eefd1c658365650d50318bd789503e44fb0f6ea", func := "given.example/pub-antistrophe/laws.FnRemoveText", spec := "fnRemoveText", apart := false }
def FnRemoveTextSaid : Prop := fnRemoveTextRow.holds Try.pinned (OpenSpec.ofChange fnRemoveTextSpec)

/-- ITS FALSE NEIGHBOUR: 'it returns false'. Refute it at one input. -/
def fnRemoveTextWrong : ChangeSpec := { name := "fnRemoveText", fn := fun _ => fun
  | [d1, d2] => { results := [.lit (.bool false)], args := [d1, d2] }
  | _ => none }
def FnRemoveTextWrongFalsely : Prop := fnRemoveTextRow.holds Try.pinned (OpenSpec.ofChange fnRemoveTextWrong)

/-- 'laws.FnVersionSet': WHATEVER THE INPUT: true; the input reads as it did. -/
def fnVersionSetSpec : ChangeSpec := { name := "fnVersionSet", fn := fun _ => fun
  | [d1, d2] => { results := [.lit (.bool true)], args := [d1, d2] }
  | _ => none }
def fnVersionSetRow : OpenClaim := { program := "ytefejcggkkmhaaa", sum := "ff500180c3712e1031bd29b67eefd1c658365650d50318bd789503e44fb0f6ea", func := "given.example/pub-antistrophe/laws.FnVersionSet", spec := "fnVersionSet", apart := false }
def FnVersionSetSaid : Prop := fnVersionSetRow.holds Try.pinned (OpenSpec.ofChange fnVersionSetSpec)

/-- ITS FALSE NEIGHBOUR: 'it returns false'. Refute it at one input. -/
def fnVersionSetWrong : ChangeSpec := { name := "fnVersionSet", fn := fun _ => fun
  | [d1, d2] => { results := [.lit (.bool false)], args := [d1, d2] }
  | _ => none }
def FnVersionSetWrongFalsely : Prop := fnVersionSetRow.holds Try.pinned (OpenSpec.ofChange fnVersionSetWrong)

/-- 'laws.FnKeyMatch': WHATEVER THE INPUT: true; the input reads as it did. -/
def fnKeyMatchSpec : ChangeSpec := { name := "fnKeyMatch", fn := fun _ => fun
  | [d1, d2] => { results := [.lit (.bool true)], args := [d1, d2] }
  | _ => none }
def fnKeyMatchRow : OpenClaim := { program := "ytefejcggkkmhaaa", sum := "ff500180c3712e1031bd29b67eefd1c658365650d50318bd789503e44fb0f6ea", func := "given.example/pub-antistrophe/laws.FnKeyMatch", spec := "fnKeyMatch", apart := false }
def FnKeyMatchSaid : Prop := fnKeyMatchRow.holds Try.pinned (OpenSpec.ofChange fnKeyMatchSpec)

/-- ITS FALSE NEIGHBOUR: 'it returns false'. Refute it at one input. -/
def fnKeyMatchWrong : ChangeSpec := { name := "fnKeyMatch", fn := fun _ => fun
  | [d1, d2] => { results := [.lit (.bool false)], args := [d1, d2] }
  | _ => none }
def FnKeyMatchWrongFalsely : Prop := fnKeyMatchRow.holds Try.pinned (OpenSpec.ofChange fnKeyMatchWrong)

/-- 'laws.FnValidKeys': WHATEVER THE INPUT: true; the input reads as it did. -/
def fnValidKeysSpec : ChangeSpec := { name := "fnValidKeys", fn := fun _ => fun
  | [d1, d2, d3] => { results := [.lit (.bool true)], args := [d1, d2, d3] }
  | _ => none }
def fnValidKeysRow : OpenClaim := { program := "ytefejcggkkmhaaa", sum := "ff500180c3712e1031bd29b67eefd1c658365650d50318bd789503e44fb0f6ea", func := "given.example/pub-antistrophe/laws.FnValidKeys", spec := "fnValidKeys", unfollowed := true, recurses := true, apart := false }
def FnValidKeysSaid : Prop := fnValidKeysRow.holds Try.pinned (OpenSpec.ofChange fnValidKeysSpec)

/-- ITS FALSE NEIGHBOUR: 'it returns false'. Refute it at one input. -/
def fnValidKeysWrong : ChangeSpec := { name := "fnValidKeys", fn := fun _ => fun
  | [d1, d2, d3] => { results := [.lit (.bool false)], args := [d1, d2, d3] }
  | _ => none }
def FnValidKeysWrongFalsely : Prop := fnValidKeysRow.holds Try.pinned (OpenSpec.ofChange fnValidKeysWrong)

/- THE SECOND FORM. 'bulk': how many values and letters a reading holds, each counted each time it is reached (what is shared counts as often as it is met; a slice's spare places count too). A statement '..UptoSaid' is the law's where the arguments, and the package variables that the reading takes, are together of bulk at most 1048576: NARROWER than '..Said'. Prove '..Said' where nothing that the law and all that it calls make is longer than what came in: it says more and counts as full. Else prove '..UptoSaid'. A law counts once. -/
mutual
def uptoBulk {H : Type} : DataW H → Nat
  | .lit (.string bytes) => bytes.length + 1
  | .lit _ => 1
  | .nil => 1
  | .ptr d => uptoBulk d + 1
  | .slice elems spare => uptoBulkAll elems + uptoBulkAll spare + 1
  | .agg parts => uptoBulkAll parts + 1
  | .iface _ d => uptoBulk d + 1
  | .map entries => uptoBulkEntries entries + 1
  | .held _ => 1
def uptoBulkAll {H : Type} : List (DataW H) → Nat
  | [] => 0
  | d :: r => uptoBulk d + uptoBulkAll r
def uptoBulkEntries {H : Type} : List (Lit × DataW H) → Nat
  | [] => 0
  | x :: r => uptoBulkEntry x + uptoBulkEntries r
def uptoBulkEntry {H : Type} : Lit × DataW H → Nat
  | (.string bytes, d) => bytes.length + uptoBulk d + 1
  | (_, d) => uptoBulk d + 1
 end
def uptoSmall : (H : Type) → List (DataW H) → Bool := fun _ ds => decide (uptoBulkAll ds ≤ 1048576)
def OpenSpec.upto (s : _root_.Go.ChangeSpec) : _root_.Go.OpenSpec := { _root_.Go.OpenSpec.ofChange s with cond := some uptoSmall }

/-- 'laws.FnRemoveText', WHERE WHAT IT READS IS OF BULK AT MOST 1048576: true; the input reads as it did. -/
def fnRemoveTextUptoRow : OpenClaim := { program := "ytefejcggkkmhaaa", sum := "ff500180c3712e1031bd29b67eefd1c658365650d50318bd789503e44fb0f6ea", func := "given.example/pub-antistrophe/laws.FnRemoveText", spec := "fnRemoveText", apart := false, narrowed := true }
def FnRemoveTextUptoSaid : Prop := fnRemoveTextUptoRow.holds Try.pinned (OpenSpec.upto fnRemoveTextSpec)

/-- 'laws.FnVersionSet', WHERE WHAT IT READS IS OF BULK AT MOST 1048576: true; the input reads as it did. -/
def fnVersionSetUptoRow : OpenClaim := { program := "ytefejcggkkmhaaa", sum := "ff500180c3712e1031bd29b67eefd1c658365650d50318bd789503e44fb0f6ea", func := "given.example/pub-antistrophe/laws.FnVersionSet", spec := "fnVersionSet", apart := false, narrowed := true }
def FnVersionSetUptoSaid : Prop := fnVersionSetUptoRow.holds Try.pinned (OpenSpec.upto fnVersionSetSpec)

/-- 'laws.FnKeyMatch', WHERE WHAT IT READS IS OF BULK AT MOST 1048576: true; the input reads as it did. -/
def fnKeyMatchUptoRow : OpenClaim := { program := "ytefejcggkkmhaaa", sum := "ff500180c3712e1031bd29b67eefd1c658365650d50318bd789503e44fb0f6ea", func := "given.example/pub-antistrophe/laws.FnKeyMatch", spec := "fnKeyMatch", apart := false, narrowed := true }
def FnKeyMatchUptoSaid : Prop := fnKeyMatchUptoRow.holds Try.pinned (OpenSpec.upto fnKeyMatchSpec)

/-- 'laws.FnValidKeys', WHERE WHAT IT READS IS OF BULK AT MOST 1048576: true; the input reads as it did. -/
def fnValidKeysUptoRow : OpenClaim := { program := "ytefejcggkkmhaaa", sum := "ff500180c3712e1031bd29b67eefd1c658365650d50318bd789503e44fb0f6ea", func := "given.example/pub-antistrophe/laws.FnValidKeys", spec := "fnValidKeys", unfollowed := true, recurses := true, apart := false, narrowed := true }
def FnValidKeysUptoSaid : Prop := fnValidKeysUptoRow.holds Try.pinned (OpenSpec.upto fnValidKeysSpec)

end Rows
end Go.Proofs.Ytefejcggkkmhaaa
