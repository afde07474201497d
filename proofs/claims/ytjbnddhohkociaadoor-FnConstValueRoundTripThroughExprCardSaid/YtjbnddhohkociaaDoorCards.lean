/-
  DERIVED. GIVEN WITH THE SEED: THE CARDS: each row of YtjbnddhohkociaaDoorRows.lean that lists a variable, with what it lists TIED to the program's text (the seventh form; the later family's looks); each row that meets fmt, with fmt's text TOLD by the authors' own Lean function (tested against real Go, not proved from fmt's source: count such statements apart). THE CARD IS WHAT COUNTS. Prove the row's statement (the work); the ties are given (YtjbnddhohkociaaDoorTie.lean); close each card by the builder's one call (the guide's Derived/Test/ToyasCard.lean, 'card_holds'). Laid BY PROGRAM, IN A SANDBOX (cutbox-door.mjs). By AI agents, Wed Nov 11 2026. No macro, syntax, notation, axiom, sorry.
-/
import Derived.Test.YtjbnddhohkociaaDoorRows
import GoSem.ClaimSeven
namespace Go.Proofs.YtjbnddhohkociaaDoor
namespace Rows

/-- THE TIED CARD OF 'n011_235.FnConstValueInliningIsIdempotent'. -/
def fnConstValueInliningIsIdempotentCard : Claim7 := { stood := { row := fnConstValueInliningIsIdempotentRow, standIns := [], harness := (true, "ca3e4c5979e228128177b0ca56bdbb52319c52035d074d38a01261285a2dd97c"), looks := true }, kinds := [], alts := [], laidByText := true, laidKinds := [.data, .data, .data, .data, .pinned, .pinned], laidTests := true, laidLooks := .later }
def FnConstValueInliningIsIdempotentCardSaid : Prop := Claim7.holds Tryd.pinned (.plain (OpenSpec.ofChange fnConstValueInliningIsIdempotentSpec)) fnConstValueInliningIsIdempotentCard

/-- THE TIED CARD OF 'n011_235.FnConstValueRoundTripThroughExpr'. -/
def fnConstValueRoundTripThroughExprCard : Claim7 := { stood := { row := fnConstValueRoundTripThroughExprRow, standIns := [], harness := (true, "ca3e4c5979e228128177b0ca56bdbb52319c52035d074d38a01261285a2dd97c"), looks := true }, kinds := [], alts := [], laidByText := true, laidKinds := [.data, .data, .data, .data, .pinned, .pinned], laidTests := true, laidLooks := .later }
def FnConstValueRoundTripThroughExprCardSaid : Prop := Claim7.holds Tryd.pinned (.plain (OpenSpec.ofChange fnConstValueRoundTripThroughExprSpec)) fnConstValueRoundTripThroughExprCard

/-- THE SECOND FORM's CARD OF 'n011_235.FnConstValueInliningIsIdempotent'. -/
def fnConstValueInliningIsIdempotentUptoCard : Claim7 := { stood := { row := fnConstValueInliningIsIdempotentUptoRow, standIns := [], harness := (true, "ca3e4c5979e228128177b0ca56bdbb52319c52035d074d38a01261285a2dd97c"), looks := true }, kinds := [], alts := [], laidByText := true, laidKinds := [.data, .data, .data, .data, .pinned, .pinned], laidTests := true, laidLooks := .later }
def FnConstValueInliningIsIdempotentUptoCardSaid : Prop := Claim7.holds Tryd.pinned (.plain (OpenSpec.upto fnConstValueInliningIsIdempotentSpec)) fnConstValueInliningIsIdempotentUptoCard

/-- THE SECOND FORM's CARD OF 'n011_235.FnConstValueRoundTripThroughExpr'. -/
def fnConstValueRoundTripThroughExprUptoCard : Claim7 := { stood := { row := fnConstValueRoundTripThroughExprUptoRow, standIns := [], harness := (true, "ca3e4c5979e228128177b0ca56bdbb52319c52035d074d38a01261285a2dd97c"), looks := true }, kinds := [], alts := [], laidByText := true, laidKinds := [.data, .data, .data, .data, .pinned, .pinned], laidTests := true, laidLooks := .later }
def FnConstValueRoundTripThroughExprUptoCardSaid : Prop := Claim7.holds Tryd.pinned (.plain (OpenSpec.upto fnConstValueRoundTripThroughExprSpec)) fnConstValueRoundTripThroughExprUptoCard
end Rows
end Go.Proofs.YtjbnddhohkociaaDoor
