/-
  DERIVED. GIVEN WITH THE SEED: THE CARDS: each row of YtgfiigonjleeeaaFmtRows.lean that lists a variable, with what it lists TIED to the program's text (the seventh form; the later family's looks); each row that meets fmt, with fmt's text TOLD by the authors' own Lean function (tested against real Go, not proved from fmt's source: count such statements apart). THE CARD IS WHAT COUNTS. Prove the row's statement (the work); the ties are given (YtgfiigonjleeeaaFmtTie.lean); close each card by the builder's one call (the guide's Derived/Test/ToyasCard.lean, 'card_holds'). Laid BY PROGRAM, IN A SANDBOX (cutbox-door.mjs). By AI agents, Wed Nov 11 2026. No macro, syntax, notation, axiom, sorry.
-/
import Derived.Test.YtgfiigonjleeeaaFmtRows
import GoSem.ClaimSeven
namespace Go.Proofs.YtgfiigonjleeeaaFmt
namespace Rows

/-- THE TOLD AND TIED CARD OF 'n011_276.FnPseudoClassEmptyArgsIsBareNamePlusParens'. -/
def fnPseudoClassEmptyArgsIsBareNamePlusParensCard : Claim7 := { stood := { row := fnPseudoClassEmptyArgsIsBareNamePlusParensRow, standIns := [], harness := (true, "3c4698b673459ac6a2fbef7c6ec50d60b98707d843becfff6d67c132cbde0ab7"), looks := false }, told := true, laidByText := true, laidKinds := [.data, .data, .data, .data, .widerDeep, .pinned, .pinned], laidTests := true, laidLooks := .later, goes := false }
def FnPseudoClassEmptyArgsIsBareNamePlusParensToldSaid : Prop := Claim7.holds Tryf.pinned (.plain (OpenSpec.ofChange fnPseudoClassEmptyArgsIsBareNamePlusParensSpec)) fnPseudoClassEmptyArgsIsBareNamePlusParensCard
/-- ITS FALSE NEIGHBOUR. Refute it at one input. -/
def FnPseudoClassEmptyArgsIsBareNamePlusParensToldWrongFalsely : Prop := Claim7.holds Tryf.pinned (.plain (OpenSpec.ofChange fnPseudoClassEmptyArgsIsBareNamePlusParensWrong)) fnPseudoClassEmptyArgsIsBareNamePlusParensCard

/-- THE TOLD AND TIED CARD OF 'n011_276.FnPseudoClassCaseTable'. -/
def fnPseudoClassCaseTableCard : Claim7 := { stood := { row := fnPseudoClassCaseTableRow, standIns := [], harness := (true, "3c4698b673459ac6a2fbef7c6ec50d60b98707d843becfff6d67c132cbde0ab7"), looks := false }, told := true, laidByText := true, laidKinds := [.data, .data, .data, .data, .widerDeep, .pinned, .pinned], laidTests := true, laidLooks := .later, goes := false }
def FnPseudoClassCaseTableToldSaid : Prop := Claim7.holds Tryf.pinned (.plain (OpenSpec.ofChange fnPseudoClassCaseTableSpec)) fnPseudoClassCaseTableCard
/-- ITS FALSE NEIGHBOUR. Refute it at one input. -/
def FnPseudoClassCaseTableToldWrongFalsely : Prop := Claim7.holds Tryf.pinned (.plain (OpenSpec.ofChange fnPseudoClassCaseTableWrong)) fnPseudoClassCaseTableCard
end Rows
end Go.Proofs.YtgfiigonjleeeaaFmt
