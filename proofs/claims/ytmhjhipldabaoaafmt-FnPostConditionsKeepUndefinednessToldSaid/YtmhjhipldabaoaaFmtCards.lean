/-
  DERIVED. GIVEN WITH THE SEED: THE CARDS: each row of YtmhjhipldabaoaaFmtRows.lean that lists a variable, with what it lists TIED to the program's text (the seventh form; the later family's looks); each row that meets fmt, with fmt's text TOLD by the authors' own Lean function (tested against real Go, not proved from fmt's source: count such statements apart). THE CARD IS WHAT COUNTS. Prove the row's statement (the work); the ties are given (YtmhjhipldabaoaaFmtTie.lean); close each card by the builder's one call (the guide's Derived/Test/ToyasCard.lean, 'card_holds'). Laid BY PROGRAM, IN A SANDBOX (cutbox-door.mjs). By AI agents, Wed Nov 11 2026. No macro, syntax, notation, axiom, sorry.
-/
import Derived.Test.YtmhjhipldabaoaaFmtRows
import GoSem.ClaimSeven
namespace Go.Proofs.YtmhjhipldabaoaaFmt
namespace Rows

/-- THE TOLD AND TIED CARD OF 'n011_98.FnPostConditionsKeepUndefinedness'. -/
def fnPostConditionsKeepUndefinednessCard : Claim7 := { stood := { row := fnPostConditionsKeepUndefinednessRow, standIns := [], harness := (true, "15f9da5a2bcd37bd5510bae5f0e66be73a0ba9e0faeb4aafe011044cec621071"), looks := false }, told := true, laidByText := true, laidKinds := [.data], laidTests := true, laidLooks := .later, goes := false }
def FnPostConditionsKeepUndefinednessToldSaid : Prop := Claim7.holds Tryf.pinned (.plain (OpenSpec.ofChange fnPostConditionsKeepUndefinednessSpec)) fnPostConditionsKeepUndefinednessCard
/-- ITS FALSE NEIGHBOUR. Refute it at one input. -/
def FnPostConditionsKeepUndefinednessToldWrongFalsely : Prop := Claim7.holds Tryf.pinned (.plain (OpenSpec.ofChange fnPostConditionsKeepUndefinednessWrong)) fnPostConditionsKeepUndefinednessCard

/-- THE TOLD AND TIED CARD OF 'n011_98.FnPostConditionsMatchesModel'. -/
def fnPostConditionsMatchesModelCard : Claim7 := { stood := { row := fnPostConditionsMatchesModelRow, standIns := [], harness := (true, "15f9da5a2bcd37bd5510bae5f0e66be73a0ba9e0faeb4aafe011044cec621071"), looks := false }, told := true, laidByText := true, laidKinds := [.data], laidTests := true, laidLooks := .later, goes := false }
def FnPostConditionsMatchesModelToldSaid : Prop := Claim7.holds Tryf.pinned (.plain (OpenSpec.ofChange fnPostConditionsMatchesModelSpec)) fnPostConditionsMatchesModelCard
/-- ITS FALSE NEIGHBOUR. Refute it at one input. -/
def FnPostConditionsMatchesModelToldWrongFalsely : Prop := Claim7.holds Tryf.pinned (.plain (OpenSpec.ofChange fnPostConditionsMatchesModelWrong)) fnPostConditionsMatchesModelCard

/-- THE TOLD AND TIED CARD OF 'n011_98.FnPostConditionsOnlyShortensAndRestricts'. -/
def fnPostConditionsOnlyShortensAndRestrictsCard : Claim7 := { stood := { row := fnPostConditionsOnlyShortensAndRestrictsRow, standIns := [], harness := (true, "15f9da5a2bcd37bd5510bae5f0e66be73a0ba9e0faeb4aafe011044cec621071"), looks := false }, told := true, laidByText := true, laidKinds := [.data], laidTests := true, laidLooks := .later, goes := false }
def FnPostConditionsOnlyShortensAndRestrictsToldSaid : Prop := Claim7.holds Tryf.pinned (.plain (OpenSpec.ofChange fnPostConditionsOnlyShortensAndRestrictsSpec)) fnPostConditionsOnlyShortensAndRestrictsCard
/-- ITS FALSE NEIGHBOUR. Refute it at one input. -/
def FnPostConditionsOnlyShortensAndRestrictsToldWrongFalsely : Prop := Claim7.holds Tryf.pinned (.plain (OpenSpec.ofChange fnPostConditionsOnlyShortensAndRestrictsWrong)) fnPostConditionsOnlyShortensAndRestrictsCard
end Rows
end Go.Proofs.YtmhjhipldabaoaaFmt
