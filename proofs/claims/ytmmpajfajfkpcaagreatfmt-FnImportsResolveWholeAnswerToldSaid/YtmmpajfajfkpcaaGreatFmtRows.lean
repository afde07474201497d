/-
  No cell of these rows narrows 'for every input' (looked for: loops, veiled, ifaces, maps, wideKeys, modest, calm, conditions, laid).
  DERIVED. THE GIVEN ROWS OF THIS SEAT. 1 by the template 'for every input the law returns true; each argument reads behind the call as it read before'; 0 by the template 'total and deterministic' (their statements: YtmmpajfajfkpcaaGreatFmtTotals.lean).
  GIVEN WITH THE SEED: the statements are not yours to turn. If you find one false, say at which input.
  Laid BY PROGRAM, IN A SANDBOX (cutbox-rows.mjs): the forced cells as the released guide's own fill.sh prints them over the translation 43b21e25065c7aed… (all of the seat's roots in one cut). By AI agents, Wed Nov 11 2026. No macro, syntax, notation, axiom, sorry.
-/
import Derived.Test.YtmmpajfajfkpcaaGreatFmtChecked
import GoSem.Claim
import GoSem.ClaimJoined
import GoSem.ClaimMapViews
import Derived.JoinedTies
import Derived.KernelRfl
namespace Go.Proofs.YtmmpajfajfkpcaaGreatFmt
/- THE CELL 'sum', in the pinned program and in every row, IS THE sha256 OF THE DUMP (.gsa) THAT YtmmpajfajfkpcaaGreatFmtProg.lean LOADS. Nothing in Lean hashes anything: it is a label: what it is worth is what the hold of that sum in a sandbox is worth. -/
noncomputable def Tryz.pinned : Pinned := { name := "ytmmpajfajfkpcaagreatfmt", sum := "43b21e25065c7aeda7b738f41ce1fb11fe589f4a8d36934b1f8f33d1327eeac3", checked := Tryz.checked }
namespace Rows
def none {H : Type} : Left H := { results := [], args := [] }

/-- 'n011_98.FnImportsResolveWholeAnswer': WHATEVER THE INPUT: true; the input reads as it did. -/
def fnImportsResolveWholeAnswerSpec : ChangeSpec := { name := "fnImportsResolveWholeAnswer", fn := fun _ => fun
  | [d1, d2, d3, d4, d5, d6] => { results := [.lit (.bool true)], args := [d1, d2, d3, d4, d5, d6] }
  | _ => none }
def fnImportsResolveWholeAnswerRow : OpenClaim := { program := "ytmmpajfajfkpcaagreatfmt", sum := "43b21e25065c7aeda7b738f41ce1fb11fe589f4a8d36934b1f8f33d1327eeac3", func := "github.com/evanw/esbuild/n011_98.FnImportsResolveWholeAnswer", spec := "fnImportsResolveWholeAnswer", stops := ["fmt.Sprintf"], inPlace := ["fmt.Sprintf", "internal/bytealg.IndexByteString", "internal/abi.NoEscape", "internal/bytealg.MakeNoZero"], recurses := true, plainKeys := false, apart := false }
/-- NO THEOREM (fmt's text is open here; it may be false): for the released tool's asking of the row's closed facts alone. THE STATEMENT IS 'FnImportsResolveWholeAnswerToldSaid' (YtmmpajfajfkpcaaGreatFmtCards.lean). -/
def FnImportsResolveWholeAnswerFormAsk : Prop := fnImportsResolveWholeAnswerRow.holds Tryz.pinned (OpenSpec.ofChange fnImportsResolveWholeAnswerSpec)

/-- ITS FALSE NEIGHBOUR: 'it returns false'. Refute it at one input. -/
def fnImportsResolveWholeAnswerWrong : ChangeSpec := { name := "fnImportsResolveWholeAnswer", fn := fun _ => fun
  | [d1, d2, d3, d4, d5, d6] => { results := [.lit (.bool false)], args := [d1, d2, d3, d4, d5, d6] }
  | _ => none }
def FnImportsResolveWholeAnswerWrongFormAsk : Prop := fnImportsResolveWholeAnswerRow.holds Tryz.pinned (OpenSpec.ofChange fnImportsResolveWholeAnswerWrong)

end Rows
end Go.Proofs.YtmmpajfajfkpcaaGreatFmt
