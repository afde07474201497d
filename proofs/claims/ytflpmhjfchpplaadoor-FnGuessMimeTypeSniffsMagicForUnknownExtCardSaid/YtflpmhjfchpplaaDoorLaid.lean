/-
  Proved: what the listed variables of the rows give the walk: the map without the key, the tables. No statement of the seat stands here.
-/
import Derived.Test.YtflpmhjfchpplaaDoorLawb
import Derived.Test.YtflpmhjfchpplaaDoorRows
import Derived.ProofKit
import Derived.MakeChecks
import Derived.LaidMore
import Derived.Maps.StringElems
import Derived.Lib.LaidCase
import Derived.Lib.LaidU8
namespace Go.Proofs.YtflpmhjfchpplaaDoor
open Go.ChangeShapes Go.WideShapes Go.ChangeAt Go.WideMaps Go.WideElems Go.RowKit
set_option linter.unusedSimpArgs false
set_option linter.unusedVariables false
set_option maxRecDepth 100000
theorem first_eq : (Rows.laid_unicode_utf8_first : DataW Unit) = Lib.firstData := by kernel_rfl
theorem accept_eq : (Rows.laid_unicode_utf8_acceptRanges : DataW Unit) = Lib.acceptData := by kernel_rfl
theorem case_eq : (Rows.laid_unicode_CaseRanges : DataW Unit) = Lib.caseData := by kernel_rfl
theorem law9 : KeyLaw Tryd.prog 9 := string_law Tryd.underlying9
theorem gMap : Tryd.prog.globalNamed "github.com/evanw/esbuild/internal/helpers.builtinTypesLower" = some 0 := by kernel_rfl
theorem tMap : (Tryd.prog.globals[0]?).map (·.type) = some 30 := by kernel_rfl
theorem zero9 (W : World) : (zeroValue 9).run Tryd.prog W = .ok (.string ⟨#[]⟩) W := by kernel_rfl
def dotKey (p : Lit × DataW Unit) : Bool := match p.1 with
  | .string (46 :: _) => true
  | _ => false
/-- Every key of the map begins with a dot. -/
theorem no_key (l : List UInt8) (h : l.head? ≠ some 46) (z : DataW Unit) : (Rows.laid_github_com_evanw_esbuild_internal_helpers_builtinTypesLower : DataW Unit).atKey (.string l) z = z := by
  obtain ⟨es, he, ha⟩ : ∃ es, (Rows.laid_github_com_evanw_esbuild_internal_helpers_builtinTypesLower : DataW Unit) = .map es ∧ es.all dotKey = true := ⟨_, rfl, by kernel_rfl⟩
  rw [he]
  unfold DataW.atKey
  have : es.find? (fun p => p.1.sameKey (.string l)) = none := by
    rw [List.find?_eq_none]
    intro p hp hs
    have h1 := List.all_eq_true.1 ha p hp
    unfold dotKey at h1
    split at h1
    · rename_i t ht
      rw [ht] at hs
      have e : (46 :: t) = l := by simpa [Lit.sameKey] using hs
      rw [← e] at h
      exact h rfl
    · cases h1
  simp only [this]
theorem of_laid {W : World} (h : laidMetH Tryd.prog Rows.fnGuessMimeTypePlainTextForUnknownExtRow.laid W) : ∃ bm, MapP W bm := by
  rw [MakeChecks.laidMetH_plain _ _ _ (by kernel_rfl)] at h
  have h1 := Lib.laidMet.reads (n := "unicode/utf8.first") (d := Rows.laid_unicode_utf8_first) h (by simp [Rows.fnGuessMimeTypePlainTextForUnknownExtRow])
  have h2 := Lib.laidMet.reads (n := "unicode/utf8.acceptRanges") (d := Rows.laid_unicode_utf8_acceptRanges) h (by simp [Rows.fnGuessMimeTypePlainTextForUnknownExtRow])
  have h3 := Lib.laidMet.reads (n := "unicode.CaseRanges") (d := Rows.laid_unicode_CaseRanges) h (by simp [Rows.fnGuessMimeTypePlainTextForUnknownExtRow])
  have h4 := Lib.laidMet.reads (n := "github.com/evanw/esbuild/internal/helpers.builtinTypesLower") (d := Rows.laid_github_com_evanw_esbuild_internal_helpers_builtinTypesLower) h (by simp [Rows.fnGuessMimeTypePlainTextForUnknownExtRow])
  rw [first_eq] at h1
  rw [accept_eq] at h2
  rw [case_eq] at h3
  have htab := utf8Tabs_of_reads (ρ := Tryd.lays159_ren) { Tryd.lays159 with } ⟨by kernel_rfl, by kernel_rfl, by kernel_rfl, by kernel_rfl, by kernel_rfl, by kernel_rfl, by kernel_rfl⟩ h1 h2
  have hcas := caseVar_of_reads (ρ := Tryd.lays159_ren) { Tryd.lays159 with } (by kernel_rfl) ⟨by kernel_rfl, by kernel_rfl, by kernel_rfl, by kernel_rfl, by kernel_rfl, by kernel_rfl⟩ h3
  obtain ⟨g, t, cs, fuel, p, e1, e2, e3, e4⟩ := h4
  obtain rfl := Option.some.inj (gMap.symm.trans e1)
  obtain rfl := Option.some.inj (tMap.symm.trans e2)
  rcases open_map Tryd.underlying30 e4 with ⟨_, hx⟩ | ⟨bm, es, clock, m, rfl, hcs, hb, _, F, hx⟩
  · exact absurd (congrArg Prod.fst hx) (by intro e; cases e)
  simp only [Prod.mk.injEq] at hx
  have hcell : W.cell? ⟨0, 0, none⟩ = some (.map (some bm)) := by
    have := World.var?_cell e1 e3 0
    rw [Array.eq_one_of_toList hcs] at this
    simpa using this
  refine ⟨bm, hcell, fun W' hc s hs hz => ?_, hcas, htab⟩
  have hb' := hc.heap hb (fun h => h)
  rcases fit_lookup (w := W') law9 Tryd.underlying30 (zero9 W') hb' F (keyOf_string_mk (s := s) Tryd.underlying9 (by unfold maxLen; omega)) with ⟨hrun, _⟩ | ⟨v, y, _, hRv, hat, _⟩
  · exact hrun
  · exfalso
    have h5 := hat .nil
    rw [← hx.1, no_key _ hs] at h5
    obtain ⟨b, rfl, hy, _⟩ := WideElems.elemAt_string Tryd.underlying9 hRv
    rw [hy] at h5
    cases h5
end Go.Proofs.YtflpmhjfchpplaaDoor
