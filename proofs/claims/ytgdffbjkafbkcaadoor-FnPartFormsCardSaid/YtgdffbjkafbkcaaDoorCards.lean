/-
  DERIVED. GIVEN WITH THE SEED: THE CARDS: each row of YtgdffbjkafbkcaaDoorRows.lean that lists a variable, with what it lists TIED to the program's text (the seventh form; the later family's looks); each row that meets fmt, with fmt's text TOLD by the authors' own Lean function (tested against real Go, not proved from fmt's source: count such statements apart). THE CARD IS WHAT COUNTS. Prove the row's statement (the work); the ties are given (YtgdffbjkafbkcaaDoorTie.lean); close each card by the builder's one call (the guide's Derived/Test/ToyasCard.lean, 'card_holds'). Laid BY PROGRAM, IN A SANDBOX (cutbox-door.mjs). By AI agents, Wed Nov 11 2026. No macro, syntax, notation, axiom, sorry.
-/
import Derived.Test.YtgdffbjkafbkcaaDoorRows
import GoSem.ClaimSeven
namespace Go.Proofs.YtgdffbjkafbkcaaDoor
namespace Rows

/-- THE TIED CARD OF 'laws.FnPartForms'. -/
def fnPartFormsCard : Claim7 := { stood := { row := fnPartFormsRow, standIns := [], harness := (true, "28714d5f1619fc0856d970d14df6ae05ad7d7eb318b02c193be7715cd2218128"), looks := true }, kinds := [], alts := [], laidByText := true, laidKinds := [.data, .data, .data, .sentinel, .sentinel], laidTests := true, laidLooks := .later }
def FnPartFormsCardSaid : Prop := Claim7.holds Tryd.pinned (.plain (OpenSpec.ofChange fnPartFormsSpec)) fnPartFormsCard

/-- THE TIED CARD OF 'laws.FnPartKind'. -/
def fnPartKindCard : Claim7 := { stood := { row := fnPartKindRow, standIns := [], harness := (true, "28714d5f1619fc0856d970d14df6ae05ad7d7eb318b02c193be7715cd2218128"), looks := true }, kinds := [], alts := [], laidByText := true, laidKinds := [.data, .data, .data, .sentinel, .sentinel], laidTests := true, laidLooks := .later }
def FnPartKindCardSaid : Prop := Claim7.holds Tryd.pinned (.plain (OpenSpec.ofChange fnPartKindSpec)) fnPartKindCard

/-- THE TIED CARD OF 'laws.FnMarkParts'. -/
def fnMarkPartsCard : Claim7 := { stood := { row := fnMarkPartsRow, standIns := [], harness := (true, "28714d5f1619fc0856d970d14df6ae05ad7d7eb318b02c193be7715cd2218128"), looks := true }, kinds := [], alts := [], laidByText := true, laidKinds := [.data, .data, .data, .data, .sentinel, .sentinel, .data, .data, .pinned], laidTests := true, laidLooks := .later }
def FnMarkPartsCardSaid : Prop := Claim7.holds Tryd.pinned (.plain (OpenSpec.ofChange fnMarkPartsSpec)) fnMarkPartsCard

/-- THE SECOND FORM's CARD OF 'laws.FnPartForms'. -/
def fnPartFormsUptoCard : Claim7 := { stood := { row := fnPartFormsUptoRow, standIns := [], harness := (true, "28714d5f1619fc0856d970d14df6ae05ad7d7eb318b02c193be7715cd2218128"), looks := true }, kinds := [], alts := [], laidByText := true, laidKinds := [.data, .data, .data, .sentinel, .sentinel], laidTests := true, laidLooks := .later }
def FnPartFormsUptoCardSaid : Prop := Claim7.holds Tryd.pinned (.plain (OpenSpec.upto fnPartFormsSpec)) fnPartFormsUptoCard

/-- THE SECOND FORM's CARD OF 'laws.FnPartKind'. -/
def fnPartKindUptoCard : Claim7 := { stood := { row := fnPartKindUptoRow, standIns := [], harness := (true, "28714d5f1619fc0856d970d14df6ae05ad7d7eb318b02c193be7715cd2218128"), looks := true }, kinds := [], alts := [], laidByText := true, laidKinds := [.data, .data, .data, .sentinel, .sentinel], laidTests := true, laidLooks := .later }
def FnPartKindUptoCardSaid : Prop := Claim7.holds Tryd.pinned (.plain (OpenSpec.upto fnPartKindSpec)) fnPartKindUptoCard

/-- THE SECOND FORM's CARD OF 'laws.FnMarkParts'. -/
def fnMarkPartsUptoCard : Claim7 := { stood := { row := fnMarkPartsUptoRow, standIns := [], harness := (true, "28714d5f1619fc0856d970d14df6ae05ad7d7eb318b02c193be7715cd2218128"), looks := true }, kinds := [], alts := [], laidByText := true, laidKinds := [.data, .data, .data, .data, .sentinel, .sentinel, .data, .data, .pinned], laidTests := true, laidLooks := .later }
def FnMarkPartsUptoCardSaid : Prop := Claim7.holds Tryd.pinned (.plain (OpenSpec.upto fnMarkPartsSpec)) fnMarkPartsUptoCard
end Rows
end Go.Proofs.YtgdffbjkafbkcaaDoor
