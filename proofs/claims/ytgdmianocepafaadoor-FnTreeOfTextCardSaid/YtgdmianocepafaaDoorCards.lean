/-
  DERIVED. GIVEN WITH THE SEED: THE CARDS: each row of YtgdmianocepafaaDoorRows.lean that lists a variable, with what it lists TIED to the program's text (the seventh form; the later family's looks); each row that meets fmt, with fmt's text TOLD by the authors' own Lean function (tested against real Go, not proved from fmt's source: count such statements apart). THE CARD IS WHAT COUNTS. Prove the row's statement (the work); the ties are given (YtgdmianocepafaaDoorTie.lean); close each card by the builder's one call (the guide's Derived/Test/ToyasCard.lean, 'card_holds'). Laid BY PROGRAM, IN A SANDBOX (cutbox-door.mjs). By AI agents, Wed Nov 11 2026. No macro, syntax, notation, axiom, sorry.
-/
import Derived.Test.YtgdmianocepafaaDoorRows
import GoSem.ClaimSeven
namespace Go.Proofs.YtgdmianocepafaaDoor
namespace Rows

/-- THE TIED CARD OF 'laws.FnTreeOfText'. -/
def fnTreeOfTextCard : Claim7 := { stood := { row := fnTreeOfTextRow, standIns := [], harness := (true, "cc61ab03dd7105640ff031b849a70fc9e0d3d51d2a5483ab1f71bc76f2491272"), looks := false }, kinds := [], alts := [], laidByText := true, laidKinds := [.data, .pinned], laidTests := true, laidLooks := .later }
def FnTreeOfTextCardSaid : Prop := Claim7.holds Tryd.pinned (.plain (OpenSpec.ofChange fnTreeOfTextSpec)) fnTreeOfTextCard

/-- THE SECOND FORM's CARD OF 'laws.FnTreeOfText'. -/
def fnTreeOfTextUptoCard : Claim7 := { stood := { row := fnTreeOfTextUptoRow, standIns := [], harness := (true, "cc61ab03dd7105640ff031b849a70fc9e0d3d51d2a5483ab1f71bc76f2491272"), looks := false }, kinds := [], alts := [], laidByText := true, laidKinds := [.data, .pinned], laidTests := true, laidLooks := .later }
def FnTreeOfTextUptoCardSaid : Prop := Claim7.holds Tryd.pinned (.plain (OpenSpec.upto fnTreeOfTextSpec)) fnTreeOfTextUptoCard
end Rows
end Go.Proofs.YtgdmianocepafaaDoor
