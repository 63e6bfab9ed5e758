/-
  DERIVED. GIVEN WITH THE SEED: THE CARDS: each row of YtefejcggkkmhaaaDoorRows.lean that lists a variable, with what it lists TIED to the program's text (the seventh form; the later family's looks); each row that meets fmt, with fmt's text TOLD by the authors' own Lean function (tested against real Go, not proved from fmt's source: count such statements apart). THE CARD IS WHAT COUNTS. Prove the row's statement (the work); the ties are given (YtefejcggkkmhaaaDoorTie.lean); close each card by the builder's one call (the guide's Derived/Test/ToyasCard.lean, 'card_holds'). Laid BY PROGRAM, IN A SANDBOX (cutbox-door.mjs). By AI agents, Wed Nov 11 2026. No macro, syntax, notation, axiom, sorry.
-/
import Derived.Test.YtefejcggkkmhaaaDoorRows
import GoSem.ClaimSeven
namespace Go.Proofs.YtefejcggkkmhaaaDoor
namespace Rows

/-- THE TIED CARD OF 'laws.FnMetadataName'. -/
def fnMetadataNameCard : Claim7 := { stood := { row := fnMetadataNameRow, standIns := [], harness := (true, "061a317493e30d476ce9943d83f8b1e9efc62bf20fbf6758b4d05da743fbaefe"), looks := false }, kinds := [], alts := [], laidByText := true, laidKinds := [.sentinel], laidTests := true, laidLooks := .later }
def FnMetadataNameCardSaid : Prop := Claim7.holds Tryd.pinned (.plain (OpenSpec.ofChange fnMetadataNameSpec)) fnMetadataNameCard

/-- THE TIED CARD OF 'laws.FnKindLess'. -/
def fnKindLessCard : Claim7 := { stood := { row := fnKindLessRow, standIns := [], harness := (true, "061a317493e30d476ce9943d83f8b1e9efc62bf20fbf6758b4d05da743fbaefe"), looks := false }, kinds := [], alts := [], laidByText := true, laidKinds := [.widerDeep, .widerDeep], laidTests := true, laidLooks := .later }
def FnKindLessCardSaid : Prop := Claim7.holds Tryd.pinned (.plain (OpenSpec.ofChange fnKindLessSpec)) fnKindLessCard

/-- THE TIED CARD OF 'laws.FnKindOrder'. -/
def fnKindOrderCard : Claim7 := { stood := { row := fnKindOrderRow, standIns := [], harness := (true, "061a317493e30d476ce9943d83f8b1e9efc62bf20fbf6758b4d05da743fbaefe"), looks := false }, kinds := [], alts := [], laidByText := true, laidKinds := [.widerDeep, .widerDeep], laidTests := true, laidLooks := .later }
def FnKindOrderCardSaid : Prop := Claim7.holds Tryd.pinned (.plain (OpenSpec.ofChange fnKindOrderSpec)) fnKindOrderCard

/-- THE SECOND FORM's CARD OF 'laws.FnMetadataName'. -/
def fnMetadataNameUptoCard : Claim7 := { stood := { row := fnMetadataNameUptoRow, standIns := [], harness := (true, "061a317493e30d476ce9943d83f8b1e9efc62bf20fbf6758b4d05da743fbaefe"), looks := false }, kinds := [], alts := [], laidByText := true, laidKinds := [.sentinel], laidTests := true, laidLooks := .later }
def FnMetadataNameUptoCardSaid : Prop := Claim7.holds Tryd.pinned (.plain (OpenSpec.upto fnMetadataNameSpec)) fnMetadataNameUptoCard

/-- THE SECOND FORM's CARD OF 'laws.FnKindLess'. -/
def fnKindLessUptoCard : Claim7 := { stood := { row := fnKindLessUptoRow, standIns := [], harness := (true, "061a317493e30d476ce9943d83f8b1e9efc62bf20fbf6758b4d05da743fbaefe"), looks := false }, kinds := [], alts := [], laidByText := true, laidKinds := [.widerDeep, .widerDeep], laidTests := true, laidLooks := .later }
def FnKindLessUptoCardSaid : Prop := Claim7.holds Tryd.pinned (.plain (OpenSpec.upto fnKindLessSpec)) fnKindLessUptoCard

/-- THE SECOND FORM's CARD OF 'laws.FnKindOrder'. -/
def fnKindOrderUptoCard : Claim7 := { stood := { row := fnKindOrderUptoRow, standIns := [], harness := (true, "061a317493e30d476ce9943d83f8b1e9efc62bf20fbf6758b4d05da743fbaefe"), looks := false }, kinds := [], alts := [], laidByText := true, laidKinds := [.widerDeep, .widerDeep], laidTests := true, laidLooks := .later }
def FnKindOrderUptoCardSaid : Prop := Claim7.holds Tryd.pinned (.plain (OpenSpec.upto fnKindOrderSpec)) fnKindOrderUptoCard
end Rows
end Go.Proofs.YtefejcggkkmhaaaDoor
