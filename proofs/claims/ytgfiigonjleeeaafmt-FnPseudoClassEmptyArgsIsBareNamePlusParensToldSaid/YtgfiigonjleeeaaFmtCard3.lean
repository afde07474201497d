/-
  Proved: FnPseudoClassEmptyArgsIsBareNamePlusParens, told and tied, as it is stated (the card). Conditions: those of the row (what the listed variables hold when the call begins; fmt's text told).
-/
import Derived.Test.YtgfiigonjleeeaaFmtTab
import Derived.Test.YtgfiigonjleeeaaFmtLaw3
import Derived.Test.YtgfiigonjleeeaaFmtLaid
namespace Go.Proofs.YtgfiigonjleeeaaFmt
open Go.ChangeShapes Go.WideShapes Go.ChangeAt Go.RowKit
open Go.Extern.Stop Go.Stop Go.Extern
open Go.ChangeMaps (open_string shut_string)
theorem met3 (os : Os) (args : Array Value) : laidMetH Tryf.prog Rows.fnPseudoClassEmptyArgsIsBareNamePlusParensRow.laid ((World.laidAll Tryf.prog os Rows.fnPseudoClassEmptyArgsIsBareNamePlusParensRow.laid).forCall (fun _ _ => 0) ⟨#[], args, []⟩).memory := by
  rw [MakeChecks.laidMetH_plain _ _ _ (by kernel_rfl)]
  exact laidMet_laidAll _ (by kernel_rfl) (by kernel_rfl)
theorem shapedZ3 (os : Os) (tape : Tape) : ((World.laidAll Tryf.prog os Rows.fnPseudoClassEmptyArgsIsBareNamePlusParensRow.laid).forCall tape ⟨#[], #[.string ⟨#[]⟩, .bool false, .bool false, .bool false, .bool false], []⟩).variablesZipB Tryf.prog = true := by kernel_rfl
theorem restZ3 (os : Os) : (((World.laidAll Tryf.prog os Rows.fnPseudoClassEmptyArgsIsBareNamePlusParensRow.laid).forCall (fun _ _ => 0) ⟨#[], #[.string ⟨#[]⟩, .bool false, .bool false, .bool false, .bool false], []⟩).heap.toList.drop Tryf.prog.globals.size).take ((begin Tryf.prog (fun _ _ => 0) default).world.heap.size - Tryf.prog.globals.size) =
      (begin Tryf.prog (fun _ _ => 0) default).world.heap.toList.drop Tryf.prog.globals.size := by kernel_rfl
theorem okZ3 (os : Os) : Input.okWideB Tryf.prog ((World.laidAll Tryf.prog os Rows.fnPseudoClassEmptyArgsIsBareNamePlusParensRow.laid).forCall (fun _ _ => 0) ⟨#[], #[.string ⟨#[]⟩, .bool false, .bool false, .bool false, .bool false], []⟩) 3 ⟨#[], #[.string ⟨#[]⟩, .bool false, .bool false, .bool false, .bool false], []⟩ = true := by kernel_rfl
theorem reads3 (os : Os) {H : Type} (enc : TypeId × Value → H) : (DataW.whole enc Tryf.prog ((World.laidAll Tryf.prog os Rows.fnPseudoClassEmptyArgsIsBareNamePlusParensRow.laid).forCall (fun _ _ => 0) ⟨#[], #[.string ⟨#[]⟩, .bool false, .bool false, .bool false, .bool false], []⟩).memory Tryf.f3.params.toList (OpenSpec.ofChange Rows.fnPseudoClassEmptyArgsIsBareNamePlusParensSpec).vars false #[Value.string ⟨#[]⟩, .bool false, .bool false, .bool false, .bool false].toList 8).isSome = true := by kernel_rfl
theorem sized3 (os : Os) {H : Type} (enc : TypeId × Value → H) : (OpenSpec.ofChange Rows.fnPseudoClassEmptyArgsIsBareNamePlusParensSpec).bare.sizedB enc Tryf.prog Tryf.f3 false ((World.laidAll Tryf.prog os Rows.fnPseudoClassEmptyArgsIsBareNamePlusParensRow.laid).forCall (fun _ _ => 0) ⟨#[], #[.string ⟨#[]⟩, .bool false, .bool false, .bool false, .bool false], []⟩).memory #[.string ⟨#[]⟩, .bool false, .bool false, .bool false, .bool false] 8 = true := by kernel_rfl
theorem noDomain3 : Rows.fnPseudoClassEmptyArgsIsBareNamePlusParensRow.domain = [] := rfl
set_option maxRecDepth 100000 in
set_option maxHeartbeats 4000000 in
theorem lifted3 (os : Os) (started : os.Started) (H : Type) (enc : TypeId × Value → H) :
    ReturnsInTold none {} Tryf.checked os 3 .any Input.okWide ((OpenSpec.ofChange Rows.fnPseudoClassEmptyArgsIsBareNamePlusParensSpec).preRow enc Tryf.prog Tryf.f3 Rows.fnPseudoClassEmptyArgsIsBareNamePlusParensRow.domain false Rows.fnPseudoClassEmptyArgsIsBareNamePlusParensRow.laid) (fun F => ((OpenSpec.ofChange Rows.fnPseudoClassEmptyArgsIsBareNamePlusParensSpec).at F).post enc Tryf.prog Tryf.f3 false true false false) (aloneAtReturn Tryf.prog) nothingAlways := by
  obtain ⟨x, hx⟩ := Option.isSome_iff_exists.1 (reads3 os enc)
  refine returnsInTold_of_row (C := Tryf.checked) (s := OpenSpec.ofChange Rows.fnPseudoClassEmptyArgsIsBareNamePlusParensSpec) (by kernel_rfl) own started (by kernel_rfl) Tryf.func3
    (witness_zip (enc := enc) (C := Tryf.checked) (World.laidAll Tryf.prog os Rows.fnPseudoClassEmptyArgsIsBareNamePlusParensRow.laid) #[.string ⟨#[]⟩, .bool false, .bool false, .bool false, .bool false] (World.laidAll_os _ _ _) (shapedZ3 os) (restZ3 os) (okZ3 os)
      (OpenSpec.preRow_of_cond 8 hx (by rw [noDomain3]; rfl) (fun k hk => by cases hk) (sized3 os enc) (met3 os _))) ?_
  intro F W base args ds gs before _ hF hval0 hW _ _ _ hL _
  have hval : ∀ (j : Nat) t v, Tryf.f3.params[j]? = some t → args[j]? = some v → Value.okWide Tryf.prog W .any base t v := hval0
  have hW' := hW
  obtain ⟨p, q, hA0, hV, rfl, hfz, hnd⟩ := hW
  have hA : DataW.TrodAll enc Tryf.prog W 0 (fun _ => true) true Tryf.f3.params.toList args.toList ds p := hA0
  rw [Tryf.params3] at hA hval
  obtain ⟨v0, vs0, d0, ds0, p0, q0, hargs, rfl, rfl, h0, r0⟩ := trodAll_cons hA
  obtain ⟨v1, vs1, d1, ds1, p1, q1, rfl, rfl, rfl, h1, r1⟩ := trodAll_cons r0
  obtain ⟨v2, vs2, d2, ds2, p2, q2, rfl, rfl, rfl, h2, r2⟩ := trodAll_cons r1
  obtain ⟨v3, vs3, d3, ds3, p3, q3, rfl, rfl, rfl, h3, r3⟩ := trodAll_cons r2
  obtain ⟨v4, vs4, d4, ds4, p4, q4, rfl, rfl, rfl, h4, r4⟩ := trodAll_cons r3
  obtain ⟨rfl, rfl, rfl⟩ := trodAll_nil r4
  obtain rfl : args = #[v0, v1, v2, v3, v4] := by cases args; simp_all
  have hV0 : DataW.TrodVars enc Tryf.prog W (fun _ => true) ["github.com/evanw/esbuild/internal/sourcemap.base64", "github.com/evanw/esbuild/internal/ast.InvalidRef"] gs q := hV
  obtain ⟨g0, t0, cs0, f0, e0, pl0, g1, t1, cs1, f1, e1, pl1, rfl, _⟩ := trodVars_two hV0
  obtain ⟨x0, rfl, rfl, rfl, w0⟩ := open_string Tryf.underlying9 (hval 0 9 v0 rfl rfl) h0
  obtain ⟨x1, rfl, rfl, rfl⟩ := open_bool Tryf.underlying4 (hval 1 4 v1 rfl rfl) h1
  obtain ⟨x2, rfl, rfl, rfl⟩ := open_bool Tryf.underlying4 (hval 2 4 v2 rfl rfl) h2
  obtain ⟨x3, rfl, rfl, rfl⟩ := open_bool Tryf.underlying4 (hval 3 4 v3 rfl rfl) h3
  obtain ⟨x4, rfl, rfl, rfl⟩ := open_bool Tryf.underlying4 (hval 4 4 v4 rfl rfl) h4
  clear hA0 hval0
  have hU := of_laid hL
  refine (law3 F.told x0 x1 x2 x3 x4 W hU hF (hex_ok F)).mono fun e W' ⟨he, hc⟩ => ?_
  subst he
  have bel : Below W.heap.size W W' := hc.below (Nat.le_refl _) (fun _ _ h => h.elim)
  exact ⟨_, rfl, _, _, _, [], _, _, hW', trodAll_mk1 (shut_bool Tryf.underlying4 _), (trodAll_cons_mk (shut_string Tryf.underlying9 w0) (trodAll_cons_mk (shut_bool Tryf.underlying4 x1) (trodAll_cons_mk (shut_bool Tryf.underlying4 x2) (trodAll_cons_mk (shut_bool Tryf.underlying4 x3) (trodAll_cons_mk (shut_bool Tryf.underlying4 x4) trodAll_mk0))))), bel.trodVars laidOut rowed hV0, bel.frame _, fun h => by cases h⟩

theorem card3 : Rows.FnPseudoClassEmptyArgsIsBareNamePlusParensToldSaid :=
  Claim7.holds_of_told_tied_any_at .later 3 Tryf.f3 "fmt.Sprintf" [] [] _ _ _ _ _ (by kernel_rfl) rfl rfl rfl laidOut (by kernel_rfl) rfl ⟨rfl, rfl, rfl, rfl, rfl, rfl, rfl⟩ rfl rfl (by kernel_rfl) (by kernel_rfl) Tryf.func3 (by kernel_rfl)
    (of_decide_eq_true (by kernel_rfl)) (by unfold Func.isWrapper; first | (rw [if_pos (by decide +kernel)]; kernel_rfl) | (rw [if_neg (by decide +kernel)]; exact ⟨rfl, rfl⟩)) stops.symm rfl stopKnobs.symm (by kernel_rfl)
    (by kernel_rfl) (by kernel_rfl) (by kernel_rfl) (by kernel_rfl) (by kernel_rfl) (by kernel_rfl) (by kernel_rfl) (by kernel_rfl) (by kernel_rfl) rfl (by kernel_rfl) rfl rfl
    rfl rfl
    rfl (by kernel_rfl) (by kernel_rfl) (by kernel_rfl) (by decide) (by kernel_rfl) fnPseudoClassEmptyArgsIsBareNamePlusParens_row_tie
    (OpenClaim.moreEntering_of (by kernel_rfl) (by kernel_rfl) (by kernel_rfl) (by kernel_rfl) (by kernel_rfl) (by kernel_rfl) (by kernel_rfl) (by kernel_rfl) (by kernel_rfl) (by kernel_rfl))
    ⟨_, WideRow.started_initial, quietAt _⟩
    (fun os started _ H enc _ => lifted3 os started H enc)
#print axioms card3
end Go.Proofs.YtgfiigonjleeeaaFmt
