/-
  DERIVED. GIVEN WITH THE SEED: THE CARDS: each row of YtbbanpfkicdnmaaFmtRows.lean that lists a variable, with what it lists TIED to the program's text (the seventh form; the later family's looks); each row that meets fmt, with fmt's text TOLD by the authors' own Lean function (tested against real Go, not proved from fmt's source: count such statements apart). THE CARD IS WHAT COUNTS. Prove the row's statement (the work); the ties are given (YtbbanpfkicdnmaaFmtTie.lean); close each card by the builder's one call (the guide's Derived/Test/ToyasCard.lean, 'card_holds'). Laid BY PROGRAM, IN A SANDBOX (cutbox-door.mjs). By AI agents, Wed Nov 11 2026. No macro, syntax, notation, axiom, sorry.
-/
import Derived.Test.YtbbanpfkicdnmaaFmtRows
import GoSem.ClaimSeven
namespace Go.Proofs.YtbbanpfkicdnmaaFmt
namespace Rows

/-- THE TOLD AND TIED CARD OF 'n011_165.FnPrintTokensSpacingStreamModel'. -/
def fnPrintTokensSpacingStreamModelCard : Claim7 := { stood := { row := fnPrintTokensSpacingStreamModelRow, standIns := [], harness := (true, "6238985633282f8561e015001a7b1b70f46e2b8d740d62389888e2bdbb13db9f"), looks := false }, told := true, laidByText := true, laidKinds := [.data, .data, .data, .data, .widerDeep, .pinned, .pinned], laidTests := true, laidLooks := .later, goes := false }
def FnPrintTokensSpacingStreamModelToldSaid : Prop := Claim7.holds Tryf.pinned (.plain (OpenSpec.ofChange fnPrintTokensSpacingStreamModelSpec)) fnPrintTokensSpacingStreamModelCard
/-- ITS FALSE NEIGHBOUR. Refute it at one input. -/
def FnPrintTokensSpacingStreamModelToldWrongFalsely : Prop := Claim7.holds Tryf.pinned (.plain (OpenSpec.ofChange fnPrintTokensSpacingStreamModelWrong)) fnPrintTokensSpacingStreamModelCard

/-- THE TOLD AND TIED CARD OF 'n011_165.FnPrintTokensCommaListLayout'. -/
def fnPrintTokensCommaListLayoutCard : Claim7 := { stood := { row := fnPrintTokensCommaListLayoutRow, standIns := [], harness := (true, "6238985633282f8561e015001a7b1b70f46e2b8d740d62389888e2bdbb13db9f"), looks := false }, told := true, laidByText := true, laidKinds := [.data, .data, .data, .data, .widerDeep, .pinned, .pinned], laidTests := true, laidLooks := .later, goes := false }
def FnPrintTokensCommaListLayoutToldSaid : Prop := Claim7.holds Tryf.pinned (.plain (OpenSpec.ofChange fnPrintTokensCommaListLayoutSpec)) fnPrintTokensCommaListLayoutCard
/-- ITS FALSE NEIGHBOUR. Refute it at one input. -/
def FnPrintTokensCommaListLayoutToldWrongFalsely : Prop := Claim7.holds Tryf.pinned (.plain (OpenSpec.ofChange fnPrintTokensCommaListLayoutWrong)) fnPrintTokensCommaListLayoutCard
end Rows
end Go.Proofs.YtbbanpfkicdnmaaFmt
