/-
  DERIVED. GIVEN WITH THE SEED: THE CARDS: each row of YtflpmhjfchpplaaDoorRows.lean that lists a variable, with what it lists TIED to the program's text (the seventh form; the later family's looks); each row that meets fmt, with fmt's text TOLD by the authors' own Lean function (tested against real Go, not proved from fmt's source: count such statements apart). THE CARD IS WHAT COUNTS. Prove the row's statement (the work); the ties are given (YtflpmhjfchpplaaDoorTie.lean); close each card by the builder's one call (the guide's Derived/Test/ToyasCard.lean, 'card_holds'). Laid BY PROGRAM, IN A SANDBOX (cutbox-door.mjs). By AI agents, Wed Nov 11 2026. No macro, syntax, notation, axiom, sorry.
-/
import Derived.Test.YtflpmhjfchpplaaDoorRows
import GoSem.ClaimSeven
namespace Go.Proofs.YtflpmhjfchpplaaDoor
namespace Rows

/-- THE TIED CARD OF 'n011_245.FnGuessMimeTypePlainTextForUnknownExt'. -/
def fnGuessMimeTypePlainTextForUnknownExtCard : Claim7 := { stood := { row := fnGuessMimeTypePlainTextForUnknownExtRow, standIns := [], harness := (true, "023ec8dff5100efa7365414df919352013f146da26eefe91ac18879f074fb24a"), looks := false }, kinds := [], alts := [], laidByText := true, laidKinds := [.data, .mapped, .pinned, .pinned], laidTests := true, laidLooks := .later }
def FnGuessMimeTypePlainTextForUnknownExtCardSaid : Prop := Claim7.holds Tryd.pinned (.plain (OpenSpec.ofChange fnGuessMimeTypePlainTextForUnknownExtSpec)) fnGuessMimeTypePlainTextForUnknownExtCard

/-- THE TIED CARD OF 'n011_245.FnGuessMimeTypeSniffsMagicForUnknownExt'. -/
def fnGuessMimeTypeSniffsMagicForUnknownExtCard : Claim7 := { stood := { row := fnGuessMimeTypeSniffsMagicForUnknownExtRow, standIns := [], harness := (true, "023ec8dff5100efa7365414df919352013f146da26eefe91ac18879f074fb24a"), looks := false }, kinds := [], alts := [], laidByText := true, laidKinds := [.data, .mapped, .pinned, .pinned], laidTests := true, laidLooks := .later }
def FnGuessMimeTypeSniffsMagicForUnknownExtCardSaid : Prop := Claim7.holds Tryd.pinned (.plain (OpenSpec.ofChange fnGuessMimeTypeSniffsMagicForUnknownExtSpec)) fnGuessMimeTypeSniffsMagicForUnknownExtCard

/-- THE SECOND FORM's CARD OF 'n011_245.FnGuessMimeTypePlainTextForUnknownExt'. -/
def fnGuessMimeTypePlainTextForUnknownExtUptoCard : Claim7 := { stood := { row := fnGuessMimeTypePlainTextForUnknownExtUptoRow, standIns := [], harness := (true, "023ec8dff5100efa7365414df919352013f146da26eefe91ac18879f074fb24a"), looks := false }, kinds := [], alts := [], laidByText := true, laidKinds := [.data, .mapped, .pinned, .pinned], laidTests := true, laidLooks := .later }
def FnGuessMimeTypePlainTextForUnknownExtUptoCardSaid : Prop := Claim7.holds Tryd.pinned (.plain (OpenSpec.upto fnGuessMimeTypePlainTextForUnknownExtSpec)) fnGuessMimeTypePlainTextForUnknownExtUptoCard

/-- THE SECOND FORM's CARD OF 'n011_245.FnGuessMimeTypeSniffsMagicForUnknownExt'. -/
def fnGuessMimeTypeSniffsMagicForUnknownExtUptoCard : Claim7 := { stood := { row := fnGuessMimeTypeSniffsMagicForUnknownExtUptoRow, standIns := [], harness := (true, "023ec8dff5100efa7365414df919352013f146da26eefe91ac18879f074fb24a"), looks := false }, kinds := [], alts := [], laidByText := true, laidKinds := [.data, .mapped, .pinned, .pinned], laidTests := true, laidLooks := .later }
def FnGuessMimeTypeSniffsMagicForUnknownExtUptoCardSaid : Prop := Claim7.holds Tryd.pinned (.plain (OpenSpec.upto fnGuessMimeTypeSniffsMagicForUnknownExtSpec)) fnGuessMimeTypeSniffsMagicForUnknownExtUptoCard
end Rows
end Go.Proofs.YtflpmhjfchpplaaDoor
