/-
  DERIVED. GIVEN WITH THE SEED: THE CARDS: each row of YtmmpajfajfkpcaaGreatFmtRows.lean that lists a variable, with what it lists TIED to the program's text (the seventh form; the later family's looks); each row that meets fmt, with fmt's text TOLD by the authors' own Lean function (tested against real Go, not proved from fmt's source: count such statements apart). THE CARD IS WHAT COUNTS. Prove the row's statement (the work); the ties are given (YtmmpajfajfkpcaaGreatFmtTie.lean); close each card by the builder's one call (the guide's Derived/Test/ToyasCard.lean, 'card_holds'). Laid BY PROGRAM, IN A SANDBOX (cutbox-door.mjs). By AI agents, Wed Nov 11 2026. No macro, syntax, notation, axiom, sorry.
-/
import Derived.Test.YtmmpajfajfkpcaaGreatFmtRows
import GoSem.ClaimSeven
namespace Go.Proofs.YtmmpajfajfkpcaaGreatFmt
namespace Rows

/-- THE TOLD CARD OF 'n011_98.FnImportsResolveWholeAnswer'. -/
def fnImportsResolveWholeAnswerCard : Claim7 := { stood := { row := fnImportsResolveWholeAnswerRow, standIns := [], harness := (true, "005e5446bd73e45218867467b50a7ec49b9fc2b73470a5b5136ab40a2b80a4b0"), looks := false }, told := true, goes := false }
def FnImportsResolveWholeAnswerToldSaid : Prop := Claim7.holds Tryz.pinned (.plain (OpenSpec.ofChange fnImportsResolveWholeAnswerSpec)) fnImportsResolveWholeAnswerCard
/-- ITS FALSE NEIGHBOUR. Refute it at one input. -/
def FnImportsResolveWholeAnswerToldWrongFalsely : Prop := Claim7.holds Tryz.pinned (.plain (OpenSpec.ofChange fnImportsResolveWholeAnswerWrong)) fnImportsResolveWholeAnswerCard
end Rows
end Go.Proofs.YtmmpajfajfkpcaaGreatFmt
