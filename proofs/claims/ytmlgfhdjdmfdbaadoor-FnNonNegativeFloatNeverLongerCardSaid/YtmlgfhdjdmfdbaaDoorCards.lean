/-
  DERIVED. GIVEN WITH THE SEED: THE CARDS: each row of YtmlgfhdjdmfdbaaDoorRows.lean that lists a variable, with what it lists TIED to the program's text (the seventh form; the later family's looks); each row that meets fmt, with fmt's text TOLD by the authors' own Lean function (tested against real Go, not proved from fmt's source: count such statements apart). THE CARD IS WHAT COUNTS. Prove the row's statement (the work); the ties are given (YtmlgfhdjdmfdbaaDoorTie.lean); close each card by the builder's one call (the guide's Derived/Test/ToyasCard.lean, 'card_holds'). Laid BY PROGRAM, IN A SANDBOX (cutbox-door.mjs). By AI agents, Wed Nov 11 2026. No macro, syntax, notation, axiom, sorry.
-/
import Derived.Test.YtmlgfhdjdmfdbaaDoorRows
import GoSem.ClaimSeven
namespace Go.Proofs.YtmlgfhdjdmfdbaaDoor
namespace Rows

/-- THE TIED CARD OF 'n011_96.FnNonNegativeFloatNeverLonger'. -/
def fnNonNegativeFloatNeverLongerCard : Claim7 := { stood := { row := fnNonNegativeFloatNeverLongerRow, standIns := [], harness := (true, "98bfd256584c1b22aa9211072bd2d50420f8b49ca22e94f689b6e1ac06bf7dde"), looks := false }, kinds := [], alts := [], laidByText := true, laidKinds := [.data, .data, .data, .data, .pinned, .pinned], laidTests := true, laidLooks := .later }
def FnNonNegativeFloatNeverLongerCardSaid : Prop := Claim7.holds Tryd.pinned (.plain (OpenSpec.ofChange fnNonNegativeFloatNeverLongerSpec)) fnNonNegativeFloatNeverLongerCard

/-- THE SECOND FORM's CARD OF 'n011_96.FnNonNegativeFloatNeverLonger'. -/
def fnNonNegativeFloatNeverLongerUptoCard : Claim7 := { stood := { row := fnNonNegativeFloatNeverLongerUptoRow, standIns := [], harness := (true, "98bfd256584c1b22aa9211072bd2d50420f8b49ca22e94f689b6e1ac06bf7dde"), looks := false }, kinds := [], alts := [], laidByText := true, laidKinds := [.data, .data, .data, .data, .pinned, .pinned], laidTests := true, laidLooks := .later }
def FnNonNegativeFloatNeverLongerUptoCardSaid : Prop := Claim7.holds Tryd.pinned (.plain (OpenSpec.upto fnNonNegativeFloatNeverLongerSpec)) fnNonNegativeFloatNeverLongerUptoCard
end Rows
end Go.Proofs.YtmlgfhdjdmfdbaaDoor
