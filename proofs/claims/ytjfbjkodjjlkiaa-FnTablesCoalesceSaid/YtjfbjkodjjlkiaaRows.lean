/-
  NARROWER THAN 'FOR EVERY INPUT', by the rows' own cells (each row's printed sentence says how): FnTrimNulls: loops · FnTablesCoalesce: loops · FnTablesOrder: loops · FnTablesAgain: loops · FnPathRoad: loops · FnPathValue: loops · FnChartMerge: loops · FnChartApart: loops.
  DERIVED. THE GIVEN ROWS OF THIS SEAT. 8 by the template 'for every input the law returns true; each argument reads behind the call as it read before'; 0 by the template 'total and deterministic' (their statements: YtjfbjkodjjlkiaaTotals.lean).
  GIVEN WITH THE SEED: the statements are not yours to turn. If you find one false, say at which input.
  Laid BY PROGRAM, IN A SANDBOX (cutbox-rows.mjs): the forced cells as the released guide's own fill.sh prints them over the translation c2613681a910966c… (all of the seat's roots in one cut). By AI agents, Wed Nov 11 2026. No macro, syntax, notation, axiom, sorry.
-/
import Derived.Test.YtjfbjkodjjlkiaaChecked
import GoSem.Claim
import GoSem.ClaimJoined
import GoSem.ClaimMapViews
import Derived.JoinedTies
import Derived.KernelRfl
namespace Go.Proofs.Ytjfbjkodjjlkiaa
/- THE CELL 'sum', in the pinned program and in every row, IS THE sha256 OF THE DUMP (.gsa) THAT YtjfbjkodjjlkiaaProg.lean LOADS. Nothing in Lean hashes anything: it is a label: what it is worth is what the hold of that sum in a sandbox is worth. -/
noncomputable def Try.pinned : Pinned := { name := "ytjfbjkodjjlkiaa", sum := "c2613681a910966c0331a7459c6a701c70308d9fc64b48e1f30c546b67e12fb0", checked := Try.checked }
namespace Rows
def none {H : Type} : Left H := { results := [], args := [] }

/-- 'laws.FnTrimNulls': WHATEVER THE INPUT: true; the input reads as it did. -/
def fnTrimNullsSpec : ChangeSpec := { name := "fnTrimNulls", fn := fun _ => fun
  | [d] => { results := [.lit (.bool true)], args := [d] }
  | _ => none }
def fnTrimNullsRow : OpenClaim := { program := "ytjfbjkodjjlkiaa", sum := "c2613681a910966c0331a7459c6a701c70308d9fc64b48e1f30c546b67e12fb0", func := "given.example/pub-antistrophe/laws.FnTrimNulls", spec := "fnTrimNulls", unfollowed := true, recurses := true, loops := true, apart := false }
def FnTrimNullsSaid : Prop := fnTrimNullsRow.holds Try.pinned (OpenSpec.ofChange fnTrimNullsSpec)

/-- ITS FALSE NEIGHBOUR: 'it returns false'. Refute it at one input. -/
def fnTrimNullsWrong : ChangeSpec := { name := "fnTrimNulls", fn := fun _ => fun
  | [d] => { results := [.lit (.bool false)], args := [d] }
  | _ => none }
def FnTrimNullsWrongFalsely : Prop := fnTrimNullsRow.holds Try.pinned (OpenSpec.ofChange fnTrimNullsWrong)

/-- 'laws.FnTablesCoalesce': WHATEVER THE INPUT: true; the input reads as it did. -/
def fnTablesCoalesceSpec : ChangeSpec := { name := "fnTablesCoalesce", fn := fun _ => fun
  | [d1, d2] => { results := [.lit (.bool true)], args := [d1, d2] }
  | _ => none }
def fnTablesCoalesceRow : OpenClaim := { program := "ytjfbjkodjjlkiaa", sum := "c2613681a910966c0331a7459c6a701c70308d9fc64b48e1f30c546b67e12fb0", func := "given.example/pub-antistrophe/laws.FnTablesCoalesce", spec := "fnTablesCoalesce", unfollowed := true, recurses := true, loops := true, apart := false }
def FnTablesCoalesceSaid : Prop := fnTablesCoalesceRow.holds Try.pinned (OpenSpec.ofChange fnTablesCoalesceSpec)

/-- ITS FALSE NEIGHBOUR: 'it returns false'. Refute it at one input. -/
def fnTablesCoalesceWrong : ChangeSpec := { name := "fnTablesCoalesce", fn := fun _ => fun
  | [d1, d2] => { results := [.lit (.bool false)], args := [d1, d2] }
  | _ => none }
def FnTablesCoalesceWrongFalsely : Prop := fnTablesCoalesceRow.holds Try.pinned (OpenSpec.ofChange fnTablesCoalesceWrong)

/-- 'laws.FnTablesOrder': WHATEVER THE INPUT: true; the input reads as it did. -/
def fnTablesOrderSpec : ChangeSpec := { name := "fnTablesOrder", fn := fun _ => fun
  | [d1, d2, d3] => { results := [.lit (.bool true)], args := [d1, d2, d3] }
  | _ => none }
def fnTablesOrderRow : OpenClaim := { program := "ytjfbjkodjjlkiaa", sum := "c2613681a910966c0331a7459c6a701c70308d9fc64b48e1f30c546b67e12fb0", func := "given.example/pub-antistrophe/laws.FnTablesOrder", spec := "fnTablesOrder", unfollowed := true, recurses := true, loops := true, apart := false }
def FnTablesOrderSaid : Prop := fnTablesOrderRow.holds Try.pinned (OpenSpec.ofChange fnTablesOrderSpec)

/-- ITS FALSE NEIGHBOUR: 'it returns false'. Refute it at one input. -/
def fnTablesOrderWrong : ChangeSpec := { name := "fnTablesOrder", fn := fun _ => fun
  | [d1, d2, d3] => { results := [.lit (.bool false)], args := [d1, d2, d3] }
  | _ => none }
def FnTablesOrderWrongFalsely : Prop := fnTablesOrderRow.holds Try.pinned (OpenSpec.ofChange fnTablesOrderWrong)

/-- 'laws.FnTablesAgain': WHATEVER THE INPUT: true; the input reads as it did. -/
def fnTablesAgainSpec : ChangeSpec := { name := "fnTablesAgain", fn := fun _ => fun
  | [d1, d2, d3] => { results := [.lit (.bool true)], args := [d1, d2, d3] }
  | _ => none }
def fnTablesAgainRow : OpenClaim := { program := "ytjfbjkodjjlkiaa", sum := "c2613681a910966c0331a7459c6a701c70308d9fc64b48e1f30c546b67e12fb0", func := "given.example/pub-antistrophe/laws.FnTablesAgain", spec := "fnTablesAgain", unfollowed := true, recurses := true, loops := true, apart := false }
def FnTablesAgainSaid : Prop := fnTablesAgainRow.holds Try.pinned (OpenSpec.ofChange fnTablesAgainSpec)

/-- ITS FALSE NEIGHBOUR: 'it returns false'. Refute it at one input. -/
def fnTablesAgainWrong : ChangeSpec := { name := "fnTablesAgain", fn := fun _ => fun
  | [d1, d2, d3] => { results := [.lit (.bool false)], args := [d1, d2, d3] }
  | _ => none }
def FnTablesAgainWrongFalsely : Prop := fnTablesAgainRow.holds Try.pinned (OpenSpec.ofChange fnTablesAgainWrong)

/-- 'laws.FnPathRoad': WHATEVER THE INPUT: true; the input reads as it did. -/
def fnPathRoadSpec : ChangeSpec := { name := "fnPathRoad", fn := fun _ => fun
  | [d1, d2] => { results := [.lit (.bool true)], args := [d1, d2] }
  | _ => none }
def fnPathRoadRow : OpenClaim := { program := "ytjfbjkodjjlkiaa", sum := "c2613681a910966c0331a7459c6a701c70308d9fc64b48e1f30c546b67e12fb0", func := "given.example/pub-antistrophe/laws.FnPathRoad", spec := "fnPathRoad", unfollowed := true, recurses := true, loops := true, apart := false }
def FnPathRoadSaid : Prop := fnPathRoadRow.holds Try.pinned (OpenSpec.ofChange fnPathRoadSpec)

/-- ITS FALSE NEIGHBOUR: 'it returns false'. Refute it at one input. -/
def fnPathRoadWrong : ChangeSpec := { name := "fnPathRoad", fn := fun _ => fun
  | [d1, d2] => { results := [.lit (.bool false)], args := [d1, d2] }
  | _ => none }
def FnPathRoadWrongFalsely : Prop := fnPathRoadRow.holds Try.pinned (OpenSpec.ofChange fnPathRoadWrong)

/-- 'laws.FnPathValue': WHATEVER THE INPUT: true; the input reads as it did. -/
def fnPathValueSpec : ChangeSpec := { name := "fnPathValue", fn := fun _ => fun
  | [d1, d2] => { results := [.lit (.bool true)], args := [d1, d2] }
  | _ => none }
def fnPathValueRow : OpenClaim := { program := "ytjfbjkodjjlkiaa", sum := "c2613681a910966c0331a7459c6a701c70308d9fc64b48e1f30c546b67e12fb0", func := "given.example/pub-antistrophe/laws.FnPathValue", spec := "fnPathValue", inPlace := ["internal/abi.NoEscape", "internal/bytealg.MakeNoZero"], unfollowed := true, recurses := true, loops := true, apart := false }
def FnPathValueSaid : Prop := fnPathValueRow.holds Try.pinned (OpenSpec.ofChange fnPathValueSpec)

/-- ITS FALSE NEIGHBOUR: 'it returns false'. Refute it at one input. -/
def fnPathValueWrong : ChangeSpec := { name := "fnPathValue", fn := fun _ => fun
  | [d1, d2] => { results := [.lit (.bool false)], args := [d1, d2] }
  | _ => none }
def FnPathValueWrongFalsely : Prop := fnPathValueRow.holds Try.pinned (OpenSpec.ofChange fnPathValueWrong)

/-- 'laws.FnChartMerge': WHATEVER THE INPUT: true; the input reads as it did. -/
def fnChartMergeSpec : ChangeSpec := { name := "fnChartMerge", fn := fun _ => fun
  | [d1, d2] => { results := [.lit (.bool true)], args := [d1, d2] }
  | _ => none }
def fnChartMergeRow : OpenClaim := { program := "ytjfbjkodjjlkiaa", sum := "c2613681a910966c0331a7459c6a701c70308d9fc64b48e1f30c546b67e12fb0", func := "given.example/pub-antistrophe/laws.FnChartMerge", spec := "fnChartMerge", unfollowed := true, recurses := true, loops := true, apart := false }
def FnChartMergeSaid : Prop := fnChartMergeRow.holds Try.pinned (OpenSpec.ofChange fnChartMergeSpec)

/-- ITS FALSE NEIGHBOUR: 'it returns false'. Refute it at one input. -/
def fnChartMergeWrong : ChangeSpec := { name := "fnChartMerge", fn := fun _ => fun
  | [d1, d2] => { results := [.lit (.bool false)], args := [d1, d2] }
  | _ => none }
def FnChartMergeWrongFalsely : Prop := fnChartMergeRow.holds Try.pinned (OpenSpec.ofChange fnChartMergeWrong)

/-- 'laws.FnChartApart': WHATEVER THE INPUT: true; the input reads as it did. -/
def fnChartApartSpec : ChangeSpec := { name := "fnChartApart", fn := fun _ => fun
  | [d1, d2] => { results := [.lit (.bool true)], args := [d1, d2] }
  | _ => none }
def fnChartApartRow : OpenClaim := { program := "ytjfbjkodjjlkiaa", sum := "c2613681a910966c0331a7459c6a701c70308d9fc64b48e1f30c546b67e12fb0", func := "given.example/pub-antistrophe/laws.FnChartApart", spec := "fnChartApart", unfollowed := true, recurses := true, loops := true, apart := false }
def FnChartApartSaid : Prop := fnChartApartRow.holds Try.pinned (OpenSpec.ofChange fnChartApartSpec)

/-- ITS FALSE NEIGHBOUR: 'it returns false'. Refute it at one input. -/
def fnChartApartWrong : ChangeSpec := { name := "fnChartApart", fn := fun _ => fun
  | [d1, d2] => { results := [.lit (.bool false)], args := [d1, d2] }
  | _ => none }
def FnChartApartWrongFalsely : Prop := fnChartApartRow.holds Try.pinned (OpenSpec.ofChange fnChartApartWrong)

/- THE SECOND FORM. 'bulk': how many values and letters a reading holds, each counted each time it is reached (what is shared counts as often as it is met; a slice's spare places count too). A statement '..UptoSaid' is the law's where the arguments, and the package variables that the reading takes, are together of bulk at most 1048576: NARROWER than '..Said'. Prove '..Said' where nothing that the law and all that it calls make is longer than what came in: it says more and counts as full. Else prove '..UptoSaid'. A law counts once. -/
mutual
def uptoBulk {H : Type} : DataW H → Nat
  | .lit (.string bytes) => bytes.length + 1
  | .lit _ => 1
  | .nil => 1
  | .ptr d => uptoBulk d + 1
  | .slice elems spare => uptoBulkAll elems + uptoBulkAll spare + 1
  | .agg parts => uptoBulkAll parts + 1
  | .iface _ d => uptoBulk d + 1
  | .map entries => uptoBulkEntries entries + 1
  | .held _ => 1
def uptoBulkAll {H : Type} : List (DataW H) → Nat
  | [] => 0
  | d :: r => uptoBulk d + uptoBulkAll r
def uptoBulkEntries {H : Type} : List (Lit × DataW H) → Nat
  | [] => 0
  | x :: r => uptoBulkEntry x + uptoBulkEntries r
def uptoBulkEntry {H : Type} : Lit × DataW H → Nat
  | (.string bytes, d) => bytes.length + uptoBulk d + 1
  | (_, d) => uptoBulk d + 1
 end
def uptoSmall : (H : Type) → List (DataW H) → Bool := fun _ ds => decide (uptoBulkAll ds ≤ 1048576)
def OpenSpec.upto (s : _root_.Go.ChangeSpec) : _root_.Go.OpenSpec := { _root_.Go.OpenSpec.ofChange s with cond := some uptoSmall }

/-- 'laws.FnTrimNulls', WHERE WHAT IT READS IS OF BULK AT MOST 1048576: true; the input reads as it did. -/
def fnTrimNullsUptoRow : OpenClaim := { program := "ytjfbjkodjjlkiaa", sum := "c2613681a910966c0331a7459c6a701c70308d9fc64b48e1f30c546b67e12fb0", func := "given.example/pub-antistrophe/laws.FnTrimNulls", spec := "fnTrimNulls", unfollowed := true, recurses := true, loops := true, apart := false, narrowed := true }
def FnTrimNullsUptoSaid : Prop := fnTrimNullsUptoRow.holds Try.pinned (OpenSpec.upto fnTrimNullsSpec)

/-- 'laws.FnTablesCoalesce', WHERE WHAT IT READS IS OF BULK AT MOST 1048576: true; the input reads as it did. -/
def fnTablesCoalesceUptoRow : OpenClaim := { program := "ytjfbjkodjjlkiaa", sum := "c2613681a910966c0331a7459c6a701c70308d9fc64b48e1f30c546b67e12fb0", func := "given.example/pub-antistrophe/laws.FnTablesCoalesce", spec := "fnTablesCoalesce", unfollowed := true, recurses := true, loops := true, apart := false, narrowed := true }
def FnTablesCoalesceUptoSaid : Prop := fnTablesCoalesceUptoRow.holds Try.pinned (OpenSpec.upto fnTablesCoalesceSpec)

/-- 'laws.FnTablesOrder', WHERE WHAT IT READS IS OF BULK AT MOST 1048576: true; the input reads as it did. -/
def fnTablesOrderUptoRow : OpenClaim := { program := "ytjfbjkodjjlkiaa", sum := "c2613681a910966c0331a7459c6a701c70308d9fc64b48e1f30c546b67e12fb0", func := "given.example/pub-antistrophe/laws.FnTablesOrder", spec := "fnTablesOrder", unfollowed := true, recurses := true, loops := true, apart := false, narrowed := true }
def FnTablesOrderUptoSaid : Prop := fnTablesOrderUptoRow.holds Try.pinned (OpenSpec.upto fnTablesOrderSpec)

/-- 'laws.FnTablesAgain', WHERE WHAT IT READS IS OF BULK AT MOST 1048576: true; the input reads as it did. -/
def fnTablesAgainUptoRow : OpenClaim := { program := "ytjfbjkodjjlkiaa", sum := "c2613681a910966c0331a7459c6a701c70308d9fc64b48e1f30c546b67e12fb0", func := "given.example/pub-antistrophe/laws.FnTablesAgain", spec := "fnTablesAgain", unfollowed := true, recurses := true, loops := true, apart := false, narrowed := true }
def FnTablesAgainUptoSaid : Prop := fnTablesAgainUptoRow.holds Try.pinned (OpenSpec.upto fnTablesAgainSpec)

/-- 'laws.FnPathRoad', WHERE WHAT IT READS IS OF BULK AT MOST 1048576: true; the input reads as it did. -/
def fnPathRoadUptoRow : OpenClaim := { program := "ytjfbjkodjjlkiaa", sum := "c2613681a910966c0331a7459c6a701c70308d9fc64b48e1f30c546b67e12fb0", func := "given.example/pub-antistrophe/laws.FnPathRoad", spec := "fnPathRoad", unfollowed := true, recurses := true, loops := true, apart := false, narrowed := true }
def FnPathRoadUptoSaid : Prop := fnPathRoadUptoRow.holds Try.pinned (OpenSpec.upto fnPathRoadSpec)

/-- 'laws.FnPathValue', WHERE WHAT IT READS IS OF BULK AT MOST 1048576: true; the input reads as it did. -/
def fnPathValueUptoRow : OpenClaim := { program := "ytjfbjkodjjlkiaa", sum := "c2613681a910966c0331a7459c6a701c70308d9fc64b48e1f30c546b67e12fb0", func := "given.example/pub-antistrophe/laws.FnPathValue", spec := "fnPathValue", inPlace := ["internal/abi.NoEscape", "internal/bytealg.MakeNoZero"], unfollowed := true, recurses := true, loops := true, apart := false, narrowed := true }
def FnPathValueUptoSaid : Prop := fnPathValueUptoRow.holds Try.pinned (OpenSpec.upto fnPathValueSpec)

/-- 'laws.FnChartMerge', WHERE WHAT IT READS IS OF BULK AT MOST 1048576: true; the input reads as it did. -/
def fnChartMergeUptoRow : OpenClaim := { program := "ytjfbjkodjjlkiaa", sum := "c2613681a910966c0331a7459c6a701c70308d9fc64b48e1f30c546b67e12fb0", func := "given.example/pub-antistrophe/laws.FnChartMerge", spec := "fnChartMerge", unfollowed := true, recurses := true, loops := true, apart := false, narrowed := true }
def FnChartMergeUptoSaid : Prop := fnChartMergeUptoRow.holds Try.pinned (OpenSpec.upto fnChartMergeSpec)

/-- 'laws.FnChartApart', WHERE WHAT IT READS IS OF BULK AT MOST 1048576: true; the input reads as it did. -/
def fnChartApartUptoRow : OpenClaim := { program := "ytjfbjkodjjlkiaa", sum := "c2613681a910966c0331a7459c6a701c70308d9fc64b48e1f30c546b67e12fb0", func := "given.example/pub-antistrophe/laws.FnChartApart", spec := "fnChartApart", unfollowed := true, recurses := true, loops := true, apart := false, narrowed := true }
def FnChartApartUptoSaid : Prop := fnChartApartUptoRow.holds Try.pinned (OpenSpec.upto fnChartApartSpec)

end Rows
end Go.Proofs.Ytjfbjkodjjlkiaa
