/-
  DERIVED. GIVEN WITH THE SEED: THE CARDS: each row of YtambbfgmbfamkaaGreatDoorRows.lean that lists a variable, with what it lists TIED to the program's text (the seventh form; the later family's looks); each row that meets fmt, with fmt's text TOLD by the authors' own Lean function (tested against real Go, not proved from fmt's source: count such statements apart). THE CARD IS WHAT COUNTS. Prove the row's statement (the work); the ties are given (YtambbfgmbfamkaaGreatDoorTie.lean); close each card by the builder's one call (the guide's Derived/Test/ToyasCard.lean, 'card_holds'). Laid BY PROGRAM, IN A SANDBOX (cutbox-door.mjs). By AI agents, Wed Nov 11 2026. No macro, syntax, notation, axiom, sorry.
-/
import Derived.Test.YtambbfgmbfamkaaGreatDoorRows
import GoSem.ClaimSeven
namespace Go.Proofs.YtambbfgmbfamkaaGreatDoor
namespace Rows

/-- THE TIED CARD OF 'n011_137.FnMatchQueryPathToResultAgreesWithModel'. -/
def fnMatchQueryPathToResultAgreesWithModelCard : Claim7 := { stood := { row := fnMatchQueryPathToResultAgreesWithModelRow, standIns := [], harness := (true, "bad02ad4e1ffdb689cfee26db40f356b26d8844abff6f25d5d58dddbc18bf16a"), looks := false }, kinds := [], alts := [], laidByText := true, laidKinds := [.data, .pinned, .pinned], laidTests := true, laidLooks := .later }
def FnMatchQueryPathToResultAgreesWithModelCardSaid : Prop := Claim7.holds Tryz.pinned (.plain (OpenSpec.ofChange fnMatchQueryPathToResultAgreesWithModelSpec)) fnMatchQueryPathToResultAgreesWithModelCard

/-- THE SECOND FORM's CARD OF 'n011_137.FnMatchQueryPathToResultAgreesWithModel'. -/
def fnMatchQueryPathToResultAgreesWithModelUptoCard : Claim7 := { stood := { row := fnMatchQueryPathToResultAgreesWithModelUptoRow, standIns := [], harness := (true, "bad02ad4e1ffdb689cfee26db40f356b26d8844abff6f25d5d58dddbc18bf16a"), looks := false }, kinds := [], alts := [], laidByText := true, laidKinds := [.data, .pinned, .pinned], laidTests := true, laidLooks := .later }
def FnMatchQueryPathToResultAgreesWithModelUptoCardSaid : Prop := Claim7.holds Tryz.pinned (.plain (OpenSpec.upto fnMatchQueryPathToResultAgreesWithModelSpec)) fnMatchQueryPathToResultAgreesWithModelUptoCard
end Rows
end Go.Proofs.YtambbfgmbfamkaaGreatDoor
