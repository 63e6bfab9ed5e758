/-
  DERIVED. GIVEN WITH THE SEED: THE CARDS: each row of YtfdgbgjbncakfaaDoorRows.lean that lists a variable, with what it lists TIED to the program's text (the seventh form; the later family's looks); each row that meets fmt, with fmt's text TOLD by the authors' own Lean function (tested against real Go, not proved from fmt's source: count such statements apart). THE CARD IS WHAT COUNTS. Prove the row's statement (the work); the ties are given (YtfdgbgjbncakfaaDoorTie.lean); close each card by the builder's one call (the guide's Derived/Test/ToyasCard.lean, 'card_holds'). Laid BY PROGRAM, IN A SANDBOX (cutbox-door.mjs). By AI agents, Wed Nov 11 2026. No macro, syntax, notation, axiom, sorry.
-/
import Derived.Test.YtfdgbgjbncakfaaDoorRows
import GoSem.ClaimSeven
namespace Go.Proofs.YtfdgbgjbncakfaaDoor
namespace Rows

/-- THE TIED CARD OF 'laws.FnGvkLess'. -/
def fnGvkLessCard : Claim7 := { stood := { row := fnGvkLessRow, standIns := [], harness := (true, "f753fbc8beb518265a74a36e10ce9b90640e03c947a109fd6deae1f7c881615d"), looks := false }, kinds := [], alts := [], laidByText := true, laidKinds := [.data, .data], laidTests := true, laidLooks := .later }
def FnGvkLessCardSaid : Prop := Claim7.holds Tryd.pinned (.plain (OpenSpec.ofChange fnGvkLessSpec)) fnGvkLessCard

/-- THE SECOND FORM's CARD OF 'laws.FnGvkLess'. -/
def fnGvkLessUptoCard : Claim7 := { stood := { row := fnGvkLessUptoRow, standIns := [], harness := (true, "f753fbc8beb518265a74a36e10ce9b90640e03c947a109fd6deae1f7c881615d"), looks := false }, kinds := [], alts := [], laidByText := true, laidKinds := [.data, .data], laidTests := true, laidLooks := .later }
def FnGvkLessUptoCardSaid : Prop := Claim7.holds Tryd.pinned (.plain (OpenSpec.upto fnGvkLessSpec)) fnGvkLessUptoCard
end Rows
end Go.Proofs.YtfdgbgjbncakfaaDoor
