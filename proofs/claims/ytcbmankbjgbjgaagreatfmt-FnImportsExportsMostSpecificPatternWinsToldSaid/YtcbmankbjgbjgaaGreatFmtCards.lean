/-
  DERIVED. GIVEN WITH THE SEED: THE CARDS: each row of YtcbmankbjgbjgaaGreatFmtRows.lean that lists a variable, with what it lists TIED to the program's text (the seventh form; the later family's looks); each row that meets fmt, with fmt's text TOLD by the authors' own Lean function (tested against real Go, not proved from fmt's source: count such statements apart). THE CARD IS WHAT COUNTS. Prove the row's statement (the work); the ties are given (YtcbmankbjgbjgaaGreatFmtTie.lean); close each card by the builder's one call (the guide's Derived/Test/ToyasCard.lean, 'card_holds'). Laid BY PROGRAM, IN A SANDBOX (cutbox-door.mjs). By AI agents, Wed Nov 11 2026. No macro, syntax, notation, axiom, sorry.
-/
import Derived.Test.YtcbmankbjgbjgaaGreatFmtRows
import GoSem.ClaimSeven
namespace Go.Proofs.YtcbmankbjgbjgaaGreatFmt
namespace Rows

/-- THE TOLD CARD OF 'n011_278.FnExportsMainEntryTable'. -/
def fnExportsMainEntryTableCard : Claim7 := { stood := { row := fnExportsMainEntryTableRow, standIns := [], harness := (true, "43c095291c4f7ef07784db4d645841559d5ad52fa02b814722f948088595ab89"), looks := false }, told := true, goes := false }
def FnExportsMainEntryTableToldSaid : Prop := Claim7.holds Tryz.pinned (.plain (OpenSpec.ofChange fnExportsMainEntryTableSpec)) fnExportsMainEntryTableCard
/-- ITS FALSE NEIGHBOUR. Refute it at one input. -/
def FnExportsMainEntryTableToldWrongFalsely : Prop := Claim7.holds Tryz.pinned (.plain (OpenSpec.ofChange fnExportsMainEntryTableWrong)) fnExportsMainEntryTableCard

/-- THE TOLD CARD OF 'n011_278.FnImportsExportsExactKeysFirstMatch'. -/
def fnImportsExportsExactKeysFirstMatchCard : Claim7 := { stood := { row := fnImportsExportsExactKeysFirstMatchRow, standIns := [], harness := (true, "43c095291c4f7ef07784db4d645841559d5ad52fa02b814722f948088595ab89"), looks := false }, told := true, goes := false }
def FnImportsExportsExactKeysFirstMatchToldSaid : Prop := Claim7.holds Tryz.pinned (.plain (OpenSpec.ofChange fnImportsExportsExactKeysFirstMatchSpec)) fnImportsExportsExactKeysFirstMatchCard
/-- ITS FALSE NEIGHBOUR. Refute it at one input. -/
def FnImportsExportsExactKeysFirstMatchToldWrongFalsely : Prop := Claim7.holds Tryz.pinned (.plain (OpenSpec.ofChange fnImportsExportsExactKeysFirstMatchWrong)) fnImportsExportsExactKeysFirstMatchCard

/-- THE TOLD CARD OF 'n011_278.FnImportsExportsMostSpecificPatternWins'. -/
def fnImportsExportsMostSpecificPatternWinsCard : Claim7 := { stood := { row := fnImportsExportsMostSpecificPatternWinsRow, standIns := [], harness := (true, "43c095291c4f7ef07784db4d645841559d5ad52fa02b814722f948088595ab89"), looks := false }, told := true, goes := false }
def FnImportsExportsMostSpecificPatternWinsToldSaid : Prop := Claim7.holds Tryz.pinned (.plain (OpenSpec.ofChange fnImportsExportsMostSpecificPatternWinsSpec)) fnImportsExportsMostSpecificPatternWinsCard
/-- ITS FALSE NEIGHBOUR. Refute it at one input. -/
def FnImportsExportsMostSpecificPatternWinsToldWrongFalsely : Prop := Claim7.holds Tryz.pinned (.plain (OpenSpec.ofChange fnImportsExportsMostSpecificPatternWinsWrong)) fnImportsExportsMostSpecificPatternWinsCard
end Rows
end Go.Proofs.YtcbmankbjgbjgaaGreatFmt
