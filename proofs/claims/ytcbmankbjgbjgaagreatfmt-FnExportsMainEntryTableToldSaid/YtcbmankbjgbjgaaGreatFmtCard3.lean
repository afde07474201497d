/-
  Proved: FnExportsMainEntryTable, told, as it is stated (the card). Conditions: those of the row (fmt's text told).
-/
import Derived.Test.YtcbmankbjgbjgaaGreatFmtTab
import Derived.Test.YtcbmankbjgbjgaaGreatFmtLaw3
import Derived.MakeChecks
namespace Go.Proofs.YtcbmankbjgbjgaaGreatFmt
open Go.ChangeShapes Go.WideShapes Go.ChangeAt Go.RowKit
open Go.Extern.Stop Go.Stop Go.Extern
open Go.ChangeMaps (open_string shut_string)
theorem met3 (os : Os) (args : Array Value) : laidMetH Tryz.prog Rows.fnExportsMainEntryTableRow.laid ((World.laidAll Tryz.prog os Rows.fnExportsMainEntryTableRow.laid).forCall (fun _ _ => 0) ⟨#[], args, []⟩).memory := by
  rw [MakeChecks.laidMetH_plain _ _ _ (by kernel_rfl)]
  exact laidMet_laidAll _ (by kernel_rfl) (by kernel_rfl)
theorem shapedZ3 (os : Os) (tape : Tape) : ((World.laidAll Tryz.prog os Rows.fnExportsMainEntryTableRow.laid).forCall tape ⟨#[], #[.string ⟨#[]⟩, .string ⟨#[]⟩, .bool false], []⟩).variablesZipB Tryz.prog = true := by kernel_rfl
theorem restZ3 (os : Os) : (((World.laidAll Tryz.prog os Rows.fnExportsMainEntryTableRow.laid).forCall (fun _ _ => 0) ⟨#[], #[.string ⟨#[]⟩, .string ⟨#[]⟩, .bool false], []⟩).heap.toList.drop Tryz.prog.globals.size).take ((begin Tryz.prog (fun _ _ => 0) default).world.heap.size - Tryz.prog.globals.size) =
      (begin Tryz.prog (fun _ _ => 0) default).world.heap.toList.drop Tryz.prog.globals.size := by kernel_rfl
theorem okZ3 (os : Os) : Input.okWideB Tryz.prog ((World.laidAll Tryz.prog os Rows.fnExportsMainEntryTableRow.laid).forCall (fun _ _ => 0) ⟨#[], #[.string ⟨#[]⟩, .string ⟨#[]⟩, .bool false], []⟩) 3 ⟨#[], #[.string ⟨#[]⟩, .string ⟨#[]⟩, .bool false], []⟩ = true := by kernel_rfl
theorem reads3 (os : Os) {H : Type} (enc : TypeId × Value → H) : (DataW.whole enc Tryz.prog ((World.laidAll Tryz.prog os Rows.fnExportsMainEntryTableRow.laid).forCall (fun _ _ => 0) ⟨#[], #[.string ⟨#[]⟩, .string ⟨#[]⟩, .bool false], []⟩).memory Tryz.f3.params.toList (OpenSpec.ofChange Rows.fnExportsMainEntryTableSpec).vars false #[Value.string ⟨#[]⟩, .string ⟨#[]⟩, .bool false].toList 8).isSome = true := by kernel_rfl
theorem sized3 (os : Os) {H : Type} (enc : TypeId × Value → H) : (OpenSpec.ofChange Rows.fnExportsMainEntryTableSpec).bare.sizedB enc Tryz.prog Tryz.f3 false ((World.laidAll Tryz.prog os Rows.fnExportsMainEntryTableRow.laid).forCall (fun _ _ => 0) ⟨#[], #[.string ⟨#[]⟩, .string ⟨#[]⟩, .bool false], []⟩).memory #[.string ⟨#[]⟩, .string ⟨#[]⟩, .bool false] 8 = true := by kernel_rfl
theorem noDomain3 : Rows.fnExportsMainEntryTableRow.domain = [] := rfl
set_option maxRecDepth 100000 in
set_option maxHeartbeats 4000000 in
theorem lifted3 (os : Os) (started : os.Started) (H : Type) (enc : TypeId × Value → H) :
    ReturnsInTold none {} Tryz.checked os 3 .any Input.okWide ((OpenSpec.ofChange Rows.fnExportsMainEntryTableSpec).preRow enc Tryz.prog Tryz.f3 Rows.fnExportsMainEntryTableRow.domain false Rows.fnExportsMainEntryTableRow.laid) (fun F => ((OpenSpec.ofChange Rows.fnExportsMainEntryTableSpec).at F).post enc Tryz.prog Tryz.f3 false true false false) (aloneAtReturn Tryz.prog) nothingAlways := by
  obtain ⟨x, hx⟩ := Option.isSome_iff_exists.1 (reads3 os enc)
  refine returnsInTold_of_row (C := Tryz.checked) (s := OpenSpec.ofChange Rows.fnExportsMainEntryTableSpec) (by kernel_rfl) own started (by kernel_rfl) Tryz.func3
    (witness_zip (enc := enc) (C := Tryz.checked) (World.laidAll Tryz.prog os Rows.fnExportsMainEntryTableRow.laid) #[.string ⟨#[]⟩, .string ⟨#[]⟩, .bool false] (World.laidAll_os _ _ _) (shapedZ3 os) (restZ3 os) (okZ3 os)
      (OpenSpec.preRow_of_cond 8 hx (by rw [noDomain3]; rfl) (fun k hk => by cases hk) (sized3 os enc) (met3 os _))) ?_
  intro F W base args ds gs before _ hF hval0 hW _ _ _ hL _
  have hval : ∀ (j : Nat) t v, Tryz.f3.params[j]? = some t → args[j]? = some v → Value.okWide Tryz.prog W .any base t v := hval0
  have hW' := hW
  obtain ⟨p, q, hA0, hV, rfl, hfz, hnd⟩ := hW
  have hA : DataW.TrodAll enc Tryz.prog W 0 (fun _ => true) true Tryz.f3.params.toList args.toList ds p := hA0
  rw [Tryz.params3] at hA hval
  obtain ⟨v0, vs0, d0, ds0, p0, q0, hargs, rfl, rfl, h0, r0⟩ := trodAll_cons hA
  obtain ⟨v1, vs1, d1, ds1, p1, q1, rfl, rfl, rfl, h1, r1⟩ := trodAll_cons r0
  obtain ⟨v2, vs2, d2, ds2, p2, q2, rfl, rfl, rfl, h2, r2⟩ := trodAll_cons r1
  obtain ⟨rfl, rfl, rfl⟩ := trodAll_nil r2
  obtain rfl : args = #[v0, v1, v2] := by cases args; simp_all
  have hV0 : DataW.TrodVars enc Tryz.prog W (fun _ => true) [] gs q := hV
  obtain ⟨rfl, rfl⟩ := trodVars_none hV
  obtain ⟨x0, rfl, rfl, rfl, w0⟩ := open_string Tryz.underlying9 (hval 0 9 v0 rfl rfl) h0
  obtain ⟨x1, rfl, rfl, rfl, w1⟩ := open_string Tryz.underlying9 (hval 1 9 v1 rfl rfl) h1
  obtain ⟨x2, rfl, rfl, rfl⟩ := open_bool Tryz.underlying4 (hval 2 4 v2 rfl rfl) h2
  clear hA0 hval0
  refine (law3 F.told x0 x1 x2 W hF).mono fun e W' ⟨he, hc⟩ => ?_
  subst he
  have bel : Below W.heap.size W W' := hc.below (Nat.le_refl _) (fun _ _ h => h.elim)
  exact ⟨_, rfl, _, _, _, [], _, [], hW', trodAll_mk1 (shut_bool Tryz.underlying4 _), (trodAll_cons_mk (shut_string Tryz.underlying9 w0) (trodAll_cons_mk (shut_string Tryz.underlying9 w1) (trodAll_cons_mk (shut_bool Tryz.underlying4 x2) trodAll_mk0))), rfl, bel.frame _, fun h => by cases h⟩

theorem card3 : Rows.FnExportsMainEntryTableToldSaid :=
  Claim7.holds_of_told_any 3 Tryz.f3 "fmt.Sprintf" [] [] _ _ _ (by kernel_rfl) rfl rfl rfl laidOut (by kernel_rfl) rfl ⟨rfl, rfl, rfl, rfl, rfl, rfl, rfl⟩ rfl rfl (by kernel_rfl) (by kernel_rfl) Tryz.func3 (by kernel_rfl)
    (of_decide_eq_true (by kernel_rfl)) (by unfold Func.isWrapper; first | (rw [if_pos (by decide +kernel)]; kernel_rfl) | (rw [if_neg (by decide +kernel)]; exact ⟨rfl, rfl⟩)) stops.symm rfl stopKnobs.symm (by kernel_rfl)
    (by kernel_rfl) (by kernel_rfl) (by kernel_rfl) (by kernel_rfl) (by kernel_rfl) (by kernel_rfl) (by kernel_rfl) (by kernel_rfl) (by kernel_rfl) rfl (by kernel_rfl) rfl rfl
    rfl rfl
    rfl (by kernel_rfl) (by kernel_rfl) (by kernel_rfl) (by decide) (by kernel_rfl)
    (OpenClaim.moreEntering_of (by kernel_rfl) (by kernel_rfl) (by kernel_rfl) (by kernel_rfl) (by kernel_rfl) (by kernel_rfl) (by kernel_rfl) (by kernel_rfl) (by kernel_rfl) (by kernel_rfl))
    ⟨_, WideRow.started_initial, quietAt _⟩
    (fun os started _ H enc _ => lifted3 os started H enc)
#print axioms card3
end Go.Proofs.YtcbmankbjgbjgaaGreatFmt
