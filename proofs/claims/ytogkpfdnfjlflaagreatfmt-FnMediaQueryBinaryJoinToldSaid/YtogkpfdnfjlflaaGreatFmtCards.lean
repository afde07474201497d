/-
  DERIVED. GIVEN WITH THE SEED: THE CARDS: each row of YtogkpfdnfjlflaaGreatFmtRows.lean that lists a variable, with what it lists TIED to the program's text (the seventh form; the later family's looks); each row that meets fmt, with fmt's text TOLD by the authors' own Lean function (tested against real Go, not proved from fmt's source: count such statements apart). THE CARD IS WHAT COUNTS. Prove the row's statement (the work); the ties are given (YtogkpfdnfjlflaaGreatFmtTie.lean); close each card by the builder's one call (the guide's Derived/Test/ToyasCard.lean, 'card_holds'). Laid BY PROGRAM, IN A SANDBOX (cutbox-door.mjs). By AI agents, Wed Nov 11 2026. No macro, syntax, notation, axiom, sorry.
-/
import Derived.Test.YtogkpfdnfjlflaaGreatFmtRows
import GoSem.ClaimSeven
namespace Go.Proofs.YtogkpfdnfjlflaaGreatFmt
namespace Rows

/-- THE TOLD AND TIED CARD OF 'n011_234.FnMediaQueryNotTable'. -/
def fnMediaQueryNotTableCard : Claim7 := { stood := { row := fnMediaQueryNotTableRow, standIns := [], harness := (true, "6709ac79c7da80c7f2119cce783880bd366f9648782c66a67689cf4238021422"), looks := true }, told := true, laidByText := true, laidKinds := [.data, .data, .data, .data, .widerDeep, .pinned, .pinned], laidTests := true, laidLooks := .later, goes := false }
def FnMediaQueryNotTableToldSaid : Prop := Claim7.holds Tryz.pinned (.plain (OpenSpec.ofChange fnMediaQueryNotTableSpec)) fnMediaQueryNotTableCard
/-- ITS FALSE NEIGHBOUR. Refute it at one input. -/
def FnMediaQueryNotTableToldWrongFalsely : Prop := Claim7.holds Tryz.pinned (.plain (OpenSpec.ofChange fnMediaQueryNotTableWrong)) fnMediaQueryNotTableCard

/-- THE TOLD AND TIED CARD OF 'n011_234.FnMediaQueryBinaryJoin'. -/
def fnMediaQueryBinaryJoinCard : Claim7 := { stood := { row := fnMediaQueryBinaryJoinRow, standIns := [], harness := (true, "6709ac79c7da80c7f2119cce783880bd366f9648782c66a67689cf4238021422"), looks := true }, told := true, laidByText := true, laidKinds := [.data, .data, .data, .data, .widerDeep, .pinned, .pinned], laidTests := true, laidLooks := .later, goes := false }
def FnMediaQueryBinaryJoinToldSaid : Prop := Claim7.holds Tryz.pinned (.plain (OpenSpec.ofChange fnMediaQueryBinaryJoinSpec)) fnMediaQueryBinaryJoinCard
/-- ITS FALSE NEIGHBOUR. Refute it at one input. -/
def FnMediaQueryBinaryJoinToldWrongFalsely : Prop := Claim7.holds Tryz.pinned (.plain (OpenSpec.ofChange fnMediaQueryBinaryJoinWrong)) fnMediaQueryBinaryJoinCard
end Rows
end Go.Proofs.YtogkpfdnfjlflaaGreatFmt
