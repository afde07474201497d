/-
  DERIVED. GIVEN WITH THE SEED: THE CARDS: each row of YtadmncfemgmioaaGreatFmtRows.lean that lists a variable, with what it lists TIED to the program's text (the seventh form; the later family's looks); each row that meets fmt, with fmt's text TOLD by the authors' own Lean function (tested against real Go, not proved from fmt's source: count such statements apart). THE CARD IS WHAT COUNTS. Prove the row's statement (the work); the ties are given (YtadmncfemgmioaaGreatFmtTie.lean); close each card by the builder's one call (the guide's Derived/Test/ToyasCard.lean, 'card_holds'). Laid BY PROGRAM, IN A SANDBOX (cutbox-door.mjs). By AI agents, Wed Nov 11 2026. No macro, syntax, notation, axiom, sorry.
-/
import Derived.Test.YtadmncfemgmioaaGreatFmtRows
import GoSem.ClaimSeven
namespace Go.Proofs.YtadmncfemgmioaaGreatFmt
namespace Rows

/-- THE TOLD AND TIED CARD OF 'n011_303.FnComplexSelectorsConcatenate'. -/
def fnComplexSelectorsConcatenateCard : Claim7 := { stood := { row := fnComplexSelectorsConcatenateRow, standIns := [], harness := (true, "c207b6ab80231b3e7fcaa76cdf2400140d534031343793990e51471286e628e4"), looks := true }, told := true, laidByText := true, laidKinds := [.data, .data, .data, .data, .widerDeep, .pinned, .pinned], laidTests := true, laidLooks := .later, goes := false }
def FnComplexSelectorsConcatenateToldSaid : Prop := Claim7.holds Tryz.pinned (.plain (OpenSpec.ofChange fnComplexSelectorsConcatenateSpec)) fnComplexSelectorsConcatenateCard
/-- ITS FALSE NEIGHBOUR. Refute it at one input. -/
def FnComplexSelectorsConcatenateToldWrongFalsely : Prop := Claim7.holds Tryz.pinned (.plain (OpenSpec.ofChange fnComplexSelectorsConcatenateWrong)) fnComplexSelectorsConcatenateCard
end Rows
end Go.Proofs.YtadmncfemgmioaaGreatFmt
