/-
  No cell of these rows narrows 'for every input' (looked for: loops, veiled, ifaces, maps, wideKeys, modest, calm, conditions, laid).
  DERIVED. THE GIVEN ROWS OF THIS SEAT. 3 by the template 'for every input the law returns true; each argument reads behind the call as it read before'; 0 by the template 'total and deterministic' (their statements: YtcbmankbjgbjgaaGreatFmtTotals.lean).
  GIVEN WITH THE SEED: the statements are not yours to turn. If you find one false, say at which input.
  Laid BY PROGRAM, IN A SANDBOX (cutbox-rows.mjs): the forced cells as the released guide's own fill.sh prints them over the translation d01d3cd6c08b5422… (all of the seat's roots in one cut). By AI agents, Wed Nov 11 2026. No macro, syntax, notation, axiom, sorry.
-/
import Derived.Test.YtcbmankbjgbjgaaGreatFmtChecked
import GoSem.Claim
import GoSem.ClaimJoined
import GoSem.ClaimMapViews
import Derived.JoinedTies
import Derived.KernelRfl
namespace Go.Proofs.YtcbmankbjgbjgaaGreatFmt
/- THE CELL 'sum', in the pinned program and in every row, IS THE sha256 OF THE DUMP (.gsa) THAT YtcbmankbjgbjgaaGreatFmtProg.lean LOADS. Nothing in Lean hashes anything: it is a label: what it is worth is what the hold of that sum in a sandbox is worth. -/
noncomputable def Tryz.pinned : Pinned := { name := "ytcbmankbjgbjgaagreatfmt", sum := "d01d3cd6c08b542266dfa131d6ea53fdee77602f9f4f304982dc90e8462231fd", checked := Tryz.checked }
namespace Rows
def none {H : Type} : Left H := { results := [], args := [] }

/-- 'n011_278.FnExportsMainEntryTable': WHATEVER THE INPUT: true; the input reads as it did. -/
def fnExportsMainEntryTableSpec : ChangeSpec := { name := "fnExportsMainEntryTable", fn := fun _ => fun
  | [d1, d2, d3] => { results := [.lit (.bool true)], args := [d1, d2, d3] }
  | _ => none }
def fnExportsMainEntryTableRow : OpenClaim := { program := "ytcbmankbjgbjgaagreatfmt", sum := "d01d3cd6c08b542266dfa131d6ea53fdee77602f9f4f304982dc90e8462231fd", func := "github.com/evanw/esbuild/n011_278.FnExportsMainEntryTable", spec := "fnExportsMainEntryTable", stops := ["fmt.Sprintf"], inPlace := ["fmt.Sprintf", "internal/bytealg.IndexByteString", "internal/abi.NoEscape", "internal/bytealg.MakeNoZero"], unfollowed := true, recurses := true, plainKeys := false, apart := false }
/-- NO THEOREM (fmt's text is open here; it may be false): for the released tool's asking of the row's closed facts alone. THE STATEMENT IS 'FnExportsMainEntryTableToldSaid' (YtcbmankbjgbjgaaGreatFmtCards.lean). -/
def FnExportsMainEntryTableFormAsk : Prop := fnExportsMainEntryTableRow.holds Tryz.pinned (OpenSpec.ofChange fnExportsMainEntryTableSpec)

/-- ITS FALSE NEIGHBOUR: 'it returns false'. Refute it at one input. -/
def fnExportsMainEntryTableWrong : ChangeSpec := { name := "fnExportsMainEntryTable", fn := fun _ => fun
  | [d1, d2, d3] => { results := [.lit (.bool false)], args := [d1, d2, d3] }
  | _ => none }
def FnExportsMainEntryTableWrongFormAsk : Prop := fnExportsMainEntryTableRow.holds Tryz.pinned (OpenSpec.ofChange fnExportsMainEntryTableWrong)

/-- 'n011_278.FnImportsExportsExactKeysFirstMatch': WHATEVER THE INPUT: true; the input reads as it did. -/
def fnImportsExportsExactKeysFirstMatchSpec : ChangeSpec := { name := "fnImportsExportsExactKeysFirstMatch", fn := fun _ => fun
  | [d1, d2, d3, d4] => { results := [.lit (.bool true)], args := [d1, d2, d3, d4] }
  | _ => none }
def fnImportsExportsExactKeysFirstMatchRow : OpenClaim := { program := "ytcbmankbjgbjgaagreatfmt", sum := "d01d3cd6c08b542266dfa131d6ea53fdee77602f9f4f304982dc90e8462231fd", func := "github.com/evanw/esbuild/n011_278.FnImportsExportsExactKeysFirstMatch", spec := "fnImportsExportsExactKeysFirstMatch", stops := ["fmt.Sprintf"], inPlace := ["fmt.Sprintf", "internal/bytealg.IndexByteString", "internal/abi.NoEscape", "internal/bytealg.MakeNoZero"], unfollowed := true, recurses := true, plainKeys := false, apart := false }
/-- NO THEOREM (fmt's text is open here; it may be false): for the released tool's asking of the row's closed facts alone. THE STATEMENT IS 'FnImportsExportsExactKeysFirstMatchToldSaid' (YtcbmankbjgbjgaaGreatFmtCards.lean). -/
def FnImportsExportsExactKeysFirstMatchFormAsk : Prop := fnImportsExportsExactKeysFirstMatchRow.holds Tryz.pinned (OpenSpec.ofChange fnImportsExportsExactKeysFirstMatchSpec)

/-- ITS FALSE NEIGHBOUR: 'it returns false'. Refute it at one input. -/
def fnImportsExportsExactKeysFirstMatchWrong : ChangeSpec := { name := "fnImportsExportsExactKeysFirstMatch", fn := fun _ => fun
  | [d1, d2, d3, d4] => { results := [.lit (.bool false)], args := [d1, d2, d3, d4] }
  | _ => none }
def FnImportsExportsExactKeysFirstMatchWrongFormAsk : Prop := fnImportsExportsExactKeysFirstMatchRow.holds Tryz.pinned (OpenSpec.ofChange fnImportsExportsExactKeysFirstMatchWrong)

/-- 'n011_278.FnImportsExportsMostSpecificPatternWins': WHATEVER THE INPUT: true; the input reads as it did. -/
def fnImportsExportsMostSpecificPatternWinsSpec : ChangeSpec := { name := "fnImportsExportsMostSpecificPatternWins", fn := fun _ => fun
  | [d1, d2, d3, d4] => { results := [.lit (.bool true)], args := [d1, d2, d3, d4] }
  | _ => none }
def fnImportsExportsMostSpecificPatternWinsRow : OpenClaim := { program := "ytcbmankbjgbjgaagreatfmt", sum := "d01d3cd6c08b542266dfa131d6ea53fdee77602f9f4f304982dc90e8462231fd", func := "github.com/evanw/esbuild/n011_278.FnImportsExportsMostSpecificPatternWins", spec := "fnImportsExportsMostSpecificPatternWins", stops := ["fmt.Sprintf"], inPlace := ["fmt.Sprintf", "internal/bytealg.IndexByteString", "internal/abi.NoEscape", "internal/bytealg.MakeNoZero"], unfollowed := true, recurses := true, plainKeys := false, apart := false }
/-- NO THEOREM (fmt's text is open here; it may be false): for the released tool's asking of the row's closed facts alone. THE STATEMENT IS 'FnImportsExportsMostSpecificPatternWinsToldSaid' (YtcbmankbjgbjgaaGreatFmtCards.lean). -/
def FnImportsExportsMostSpecificPatternWinsFormAsk : Prop := fnImportsExportsMostSpecificPatternWinsRow.holds Tryz.pinned (OpenSpec.ofChange fnImportsExportsMostSpecificPatternWinsSpec)

/-- ITS FALSE NEIGHBOUR: 'it returns false'. Refute it at one input. -/
def fnImportsExportsMostSpecificPatternWinsWrong : ChangeSpec := { name := "fnImportsExportsMostSpecificPatternWins", fn := fun _ => fun
  | [d1, d2, d3, d4] => { results := [.lit (.bool false)], args := [d1, d2, d3, d4] }
  | _ => none }
def FnImportsExportsMostSpecificPatternWinsWrongFormAsk : Prop := fnImportsExportsMostSpecificPatternWinsRow.holds Tryz.pinned (OpenSpec.ofChange fnImportsExportsMostSpecificPatternWinsWrong)

end Rows
end Go.Proofs.YtcbmankbjgbjgaaGreatFmt
