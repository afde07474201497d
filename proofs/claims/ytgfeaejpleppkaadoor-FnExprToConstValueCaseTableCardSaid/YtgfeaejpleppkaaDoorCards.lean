/-
  DERIVED. GIVEN WITH THE SEED: THE CARDS: each row of YtgfeaejpleppkaaDoorRows.lean that lists a variable, with what it lists TIED to the program's text (the seventh form; the later family's looks); each row that meets fmt, with fmt's text TOLD by the authors' own Lean function (tested against real Go, not proved from fmt's source: count such statements apart). THE CARD IS WHAT COUNTS. Prove the row's statement (the work); the ties are given (YtgfeaejpleppkaaDoorTie.lean); close each card by the builder's one call (the guide's Derived/Test/ToyasCard.lean, 'card_holds'). Laid BY PROGRAM, IN A SANDBOX (cutbox-door.mjs). By AI agents, Wed Nov 11 2026. No macro, syntax, notation, axiom, sorry.
-/
import Derived.Test.YtgfeaejpleppkaaDoorRows
import GoSem.ClaimSeven
namespace Go.Proofs.YtgfeaejpleppkaaDoor
namespace Rows

/-- THE TIED CARD OF 'n011_103.FnExprToConstValueDropSign'. -/
def fnExprToConstValueDropSignCard : Claim7 := { stood := { row := fnExprToConstValueDropSignRow, standIns := [], harness := (true, "b0ca77bc48f011b456cc7040b7c35c6a3c8a28d6b8d0f88b5f98931aa0637675"), looks := true }, kinds := [], alts := [], laidByText := true, laidKinds := [.data, .data, .data, .data, .pinned, .pinned], laidTests := true, laidLooks := .later }
def FnExprToConstValueDropSignCardSaid : Prop := Claim7.holds Tryd.pinned (.plain (OpenSpec.ofChange fnExprToConstValueDropSignSpec)) fnExprToConstValueDropSignCard

/-- THE TIED CARD OF 'n011_103.FnExprToConstValueRoundTrip'. -/
def fnExprToConstValueRoundTripCard : Claim7 := { stood := { row := fnExprToConstValueRoundTripRow, standIns := [], harness := (true, "b0ca77bc48f011b456cc7040b7c35c6a3c8a28d6b8d0f88b5f98931aa0637675"), looks := true }, kinds := [], alts := [], laidByText := true, laidKinds := [.data, .data, .data, .data, .pinned, .pinned], laidTests := true, laidLooks := .later }
def FnExprToConstValueRoundTripCardSaid : Prop := Claim7.holds Tryd.pinned (.plain (OpenSpec.ofChange fnExprToConstValueRoundTripSpec)) fnExprToConstValueRoundTripCard

/-- THE TIED CARD OF 'n011_103.FnExprToConstValueCaseTable'. -/
def fnExprToConstValueCaseTableCard : Claim7 := { stood := { row := fnExprToConstValueCaseTableRow, standIns := [], harness := (true, "b0ca77bc48f011b456cc7040b7c35c6a3c8a28d6b8d0f88b5f98931aa0637675"), looks := true }, kinds := [], alts := [], laidByText := true, laidKinds := [.data, .data, .data, .data, .pinned, .pinned], laidTests := true, laidLooks := .later }
def FnExprToConstValueCaseTableCardSaid : Prop := Claim7.holds Tryd.pinned (.plain (OpenSpec.ofChange fnExprToConstValueCaseTableSpec)) fnExprToConstValueCaseTableCard

/-- THE SECOND FORM's CARD OF 'n011_103.FnExprToConstValueDropSign'. -/
def fnExprToConstValueDropSignUptoCard : Claim7 := { stood := { row := fnExprToConstValueDropSignUptoRow, standIns := [], harness := (true, "b0ca77bc48f011b456cc7040b7c35c6a3c8a28d6b8d0f88b5f98931aa0637675"), looks := true }, kinds := [], alts := [], laidByText := true, laidKinds := [.data, .data, .data, .data, .pinned, .pinned], laidTests := true, laidLooks := .later }
def FnExprToConstValueDropSignUptoCardSaid : Prop := Claim7.holds Tryd.pinned (.plain (OpenSpec.upto fnExprToConstValueDropSignSpec)) fnExprToConstValueDropSignUptoCard

/-- THE SECOND FORM's CARD OF 'n011_103.FnExprToConstValueRoundTrip'. -/
def fnExprToConstValueRoundTripUptoCard : Claim7 := { stood := { row := fnExprToConstValueRoundTripUptoRow, standIns := [], harness := (true, "b0ca77bc48f011b456cc7040b7c35c6a3c8a28d6b8d0f88b5f98931aa0637675"), looks := true }, kinds := [], alts := [], laidByText := true, laidKinds := [.data, .data, .data, .data, .pinned, .pinned], laidTests := true, laidLooks := .later }
def FnExprToConstValueRoundTripUptoCardSaid : Prop := Claim7.holds Tryd.pinned (.plain (OpenSpec.upto fnExprToConstValueRoundTripSpec)) fnExprToConstValueRoundTripUptoCard

/-- THE SECOND FORM's CARD OF 'n011_103.FnExprToConstValueCaseTable'. -/
def fnExprToConstValueCaseTableUptoCard : Claim7 := { stood := { row := fnExprToConstValueCaseTableUptoRow, standIns := [], harness := (true, "b0ca77bc48f011b456cc7040b7c35c6a3c8a28d6b8d0f88b5f98931aa0637675"), looks := true }, kinds := [], alts := [], laidByText := true, laidKinds := [.data, .data, .data, .data, .pinned, .pinned], laidTests := true, laidLooks := .later }
def FnExprToConstValueCaseTableUptoCardSaid : Prop := Claim7.holds Tryd.pinned (.plain (OpenSpec.upto fnExprToConstValueCaseTableSpec)) fnExprToConstValueCaseTableUptoCard
end Rows
end Go.Proofs.YtgfeaejpleppkaaDoor
