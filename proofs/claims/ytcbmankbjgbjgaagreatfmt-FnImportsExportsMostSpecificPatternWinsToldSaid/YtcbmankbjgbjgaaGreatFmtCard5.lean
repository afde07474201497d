/-
  Proved: FnImportsExportsMostSpecificPatternWins, told, as it is stated (the card). Conditions: those of the row (fmt's text told).
-/
import Derived.Test.YtcbmankbjgbjgaaGreatFmtTab
import Derived.Test.YtcbmankbjgbjgaaGreatFmtLaw5
import Derived.MakeChecks
namespace Go.Proofs.YtcbmankbjgbjgaaGreatFmt
open Go.ChangeShapes Go.WideShapes Go.ChangeAt Go.RowKit
open Go.Extern.Stop Go.Stop Go.Extern
open Go.ChangeMaps (open_string shut_string)
theorem met5 (os : Os) (args : Array Value) : laidMetH Tryz.prog Rows.fnImportsExportsMostSpecificPatternWinsRow.laid ((World.laidAll Tryz.prog os Rows.fnImportsExportsMostSpecificPatternWinsRow.laid).forCall (fun _ _ => 0) ⟨#[], args, []⟩).memory := by
  rw [MakeChecks.laidMetH_plain _ _ _ (by kernel_rfl)]
  exact laidMet_laidAll _ (by kernel_rfl) (by kernel_rfl)
theorem shapedZ5 (os : Os) (tape : Tape) : ((World.laidAll Tryz.prog os Rows.fnImportsExportsMostSpecificPatternWinsRow.laid).forCall tape ⟨#[], #[.string ⟨#[]⟩, .slice none 0 0, .slice none 0 0, .bool false], []⟩).variablesZipB Tryz.prog = true := by kernel_rfl
theorem restZ5 (os : Os) : (((World.laidAll Tryz.prog os Rows.fnImportsExportsMostSpecificPatternWinsRow.laid).forCall (fun _ _ => 0) ⟨#[], #[.string ⟨#[]⟩, .slice none 0 0, .slice none 0 0, .bool false], []⟩).heap.toList.drop Tryz.prog.globals.size).take ((begin Tryz.prog (fun _ _ => 0) default).world.heap.size - Tryz.prog.globals.size) =
      (begin Tryz.prog (fun _ _ => 0) default).world.heap.toList.drop Tryz.prog.globals.size := by kernel_rfl
theorem okZ5 (os : Os) : Input.okWideB Tryz.prog ((World.laidAll Tryz.prog os Rows.fnImportsExportsMostSpecificPatternWinsRow.laid).forCall (fun _ _ => 0) ⟨#[], #[.string ⟨#[]⟩, .slice none 0 0, .slice none 0 0, .bool false], []⟩) 5 ⟨#[], #[.string ⟨#[]⟩, .slice none 0 0, .slice none 0 0, .bool false], []⟩ = true := by kernel_rfl
theorem reads5 (os : Os) {H : Type} (enc : TypeId × Value → H) : (DataW.whole enc Tryz.prog ((World.laidAll Tryz.prog os Rows.fnImportsExportsMostSpecificPatternWinsRow.laid).forCall (fun _ _ => 0) ⟨#[], #[.string ⟨#[]⟩, .slice none 0 0, .slice none 0 0, .bool false], []⟩).memory Tryz.f5.params.toList (OpenSpec.ofChange Rows.fnImportsExportsMostSpecificPatternWinsSpec).vars false #[Value.string ⟨#[]⟩, .slice none 0 0, .slice none 0 0, .bool false].toList 8).isSome = true := by kernel_rfl
theorem sized5 (os : Os) {H : Type} (enc : TypeId × Value → H) : (OpenSpec.ofChange Rows.fnImportsExportsMostSpecificPatternWinsSpec).bare.sizedB enc Tryz.prog Tryz.f5 false ((World.laidAll Tryz.prog os Rows.fnImportsExportsMostSpecificPatternWinsRow.laid).forCall (fun _ _ => 0) ⟨#[], #[.string ⟨#[]⟩, .slice none 0 0, .slice none 0 0, .bool false], []⟩).memory #[.string ⟨#[]⟩, .slice none 0 0, .slice none 0 0, .bool false] 8 = true := by kernel_rfl
theorem noDomain5 : Rows.fnImportsExportsMostSpecificPatternWinsRow.domain = [] := rfl
set_option maxRecDepth 100000 in
set_option maxHeartbeats 4000000 in
theorem lifted5 (os : Os) (started : os.Started) (H : Type) (enc : TypeId × Value → H) :
    ReturnsInTold none {} Tryz.checked os 5 .any Input.okWide ((OpenSpec.ofChange Rows.fnImportsExportsMostSpecificPatternWinsSpec).preRow enc Tryz.prog Tryz.f5 Rows.fnImportsExportsMostSpecificPatternWinsRow.domain false Rows.fnImportsExportsMostSpecificPatternWinsRow.laid) (fun F => ((OpenSpec.ofChange Rows.fnImportsExportsMostSpecificPatternWinsSpec).at F).post enc Tryz.prog Tryz.f5 false true false false) (aloneAtReturn Tryz.prog) nothingAlways := by
  obtain ⟨x, hx⟩ := Option.isSome_iff_exists.1 (reads5 os enc)
  refine returnsInTold_of_row (C := Tryz.checked) (s := OpenSpec.ofChange Rows.fnImportsExportsMostSpecificPatternWinsSpec) (by kernel_rfl) own started (by kernel_rfl) Tryz.func5
    (witness_zip (enc := enc) (C := Tryz.checked) (World.laidAll Tryz.prog os Rows.fnImportsExportsMostSpecificPatternWinsRow.laid) #[.string ⟨#[]⟩, .slice none 0 0, .slice none 0 0, .bool false] (World.laidAll_os _ _ _) (shapedZ5 os) (restZ5 os) (okZ5 os)
      (OpenSpec.preRow_of_cond 8 hx (by rw [noDomain5]; rfl) (fun k hk => by cases hk) (sized5 os enc) (met5 os _))) ?_
  intro F W base args ds gs before _ hF hval0 hW _ _ _ hL _
  have hval : ∀ (j : Nat) t v, Tryz.f5.params[j]? = some t → args[j]? = some v → Value.okWide Tryz.prog W .any base t v := hval0
  have hW' := hW
  obtain ⟨p, q, hA0, hV, rfl, hfz, hnd⟩ := hW
  have hA : DataW.TrodAll enc Tryz.prog W 0 (fun _ => true) true Tryz.f5.params.toList args.toList ds p := hA0
  rw [Tryz.params5] at hA hval
  obtain ⟨v0, vs0, d0, ds0, p0, q0, hargs, rfl, rfl, h0, r0⟩ := trodAll_cons hA
  obtain ⟨v1, vs1, d1, ds1, p1, q1, rfl, rfl, rfl, h1, r1⟩ := trodAll_cons r0
  obtain ⟨v2, vs2, d2, ds2, p2, q2, rfl, rfl, rfl, h2, r2⟩ := trodAll_cons r1
  obtain ⟨v3, vs3, d3, ds3, p3, q3, rfl, rfl, rfl, h3, r3⟩ := trodAll_cons r2
  obtain ⟨rfl, rfl, rfl⟩ := trodAll_nil r3
  obtain rfl : args = #[v0, v1, v2, v3] := by cases args; simp_all
  have hV0 : DataW.TrodVars enc Tryz.prog W (fun _ => true) [] gs q := hV
  obtain ⟨rfl, rfl⟩ := trodVars_none hV
  obtain ⟨x0, rfl, rfl, rfl, w0⟩ := open_string Tryz.underlying9 (hval 0 9 v0 rfl rfl) h0
  obtain ⟨a1, n1, c1, rfl⟩ := okWide_slice Tryz.underlying24 (hval 1 24 v1 rfl rfl)
  have k1 := h1
  have lt1 : ∀ x ∈ p1, x.block < W.heap.size := by obtain ⟨m, hm⟩ := k1; exact DataW.trod_lt m _ _ _ hm
  obtain ⟨z1, nil1, cap1, max1, w1⟩ : ∃ zs : List ByteArray, (a1 = none → n1 = 0 ∧ c1 = 0) ∧ n1 ≤ c1 ∧ c1 ≤ 9223372036854775807 ∧ Reads W a1 n1 (fun i => .string (zs.getD i ByteArray.empty)) := by
    obtain ⟨fuel, hf⟩ := h1
    rcases open_strings Tryz.underlying24 Tryz.underlying9 (by kernel_rfl) hf with ⟨hcs, _⟩ | ⟨x, l, c, zs, hcs, _, hl, hm, hz, _, hcell, hwz⟩
    · simp [Value.cells] at hcs
      obtain ⟨rfl, rfl, rfl⟩ := hcs
      exact ⟨[], by simp, by simp, by simp, .inl rfl⟩
    · simp [Value.cells] at hcs
      obtain ⟨rfl, rfl, rfl⟩ := hcs
      have hz1 : zs.length = c1 := by simpa using hz
      exact ⟨zs, (fun h => by cases h), hl, (by unfold maxLen at hm; omega), reads_of_cells (fun i hi => hcell i (by omega))⟩
  obtain ⟨a2, n2, c2, rfl⟩ := okWide_slice Tryz.underlying24 (hval 2 24 v2 rfl rfl)
  have k2 := h2
  have lt2 : ∀ x ∈ p2, x.block < W.heap.size := by obtain ⟨m, hm⟩ := k2; exact DataW.trod_lt m _ _ _ hm
  obtain ⟨z2, nil2, cap2, max2, w2⟩ : ∃ zs : List ByteArray, (a2 = none → n2 = 0 ∧ c2 = 0) ∧ n2 ≤ c2 ∧ c2 ≤ 9223372036854775807 ∧ Reads W a2 n2 (fun i => .string (zs.getD i ByteArray.empty)) := by
    obtain ⟨fuel, hf⟩ := h2
    rcases open_strings Tryz.underlying24 Tryz.underlying9 (by kernel_rfl) hf with ⟨hcs, _⟩ | ⟨x, l, c, zs, hcs, _, hl, hm, hz, _, hcell, hwz⟩
    · simp [Value.cells] at hcs
      obtain ⟨rfl, rfl, rfl⟩ := hcs
      exact ⟨[], by simp, by simp, by simp, .inl rfl⟩
    · simp [Value.cells] at hcs
      obtain ⟨rfl, rfl, rfl⟩ := hcs
      have hz1 : zs.length = c2 := by simpa using hz
      exact ⟨zs, (fun h => by cases h), hl, (by unfold maxLen at hm; omega), reads_of_cells (fun i hi => hcell i (by omega))⟩
  obtain ⟨x3, rfl, rfl, rfl⟩ := open_bool Tryz.underlying4 (hval 3 4 v3 rfl rfl) h3
  clear hA0 hval0
  refine (law5 F.told x0 a1 a2 n1 c1 n2 c2 (fun i => z1.getD i ByteArray.empty) (fun i => z2.getD i ByteArray.empty) x3 W hF w1 w2 nil1 nil2).mono fun e W' ⟨he, hc⟩ => ?_
  subst he
  have bel : Below W.heap.size W W' := hc.below (Nat.le_refl _) (fun _ _ h => h.elim)
  exact ⟨_, rfl, _, _, _, [], _, [], hW', trodAll_mk1 (shut_bool Tryz.underlying4 _), (trodAll_cons_mk (shut_string Tryz.underlying9 w0) (trodAll_cons_mk (Below.trod laidOut (by kernel_rfl) (of_decide_eq_true (by kernel_rfl)) k1 bel lt1) (trodAll_cons_mk (Below.trod laidOut (by kernel_rfl) (of_decide_eq_true (by kernel_rfl)) k2 bel lt2) (trodAll_cons_mk (shut_bool Tryz.underlying4 x3) trodAll_mk0)))), rfl, bel.frame _, fun h => by cases h⟩

theorem card5 : Rows.FnImportsExportsMostSpecificPatternWinsToldSaid :=
  Claim7.holds_of_told_any 5 Tryz.f5 "fmt.Sprintf" [] [] _ _ _ (by kernel_rfl) rfl rfl rfl laidOut (by kernel_rfl) rfl ⟨rfl, rfl, rfl, rfl, rfl, rfl, rfl⟩ rfl rfl (by kernel_rfl) (by kernel_rfl) Tryz.func5 (by kernel_rfl)
    (of_decide_eq_true (by kernel_rfl)) (by unfold Func.isWrapper; first | (rw [if_pos (by decide +kernel)]; kernel_rfl) | (rw [if_neg (by decide +kernel)]; exact ⟨rfl, rfl⟩)) stops.symm rfl stopKnobs.symm (by kernel_rfl)
    (by kernel_rfl) (by kernel_rfl) (by kernel_rfl) (by kernel_rfl) (by kernel_rfl) (by kernel_rfl) (by kernel_rfl) (by kernel_rfl) (by kernel_rfl) rfl (by kernel_rfl) rfl rfl
    rfl rfl
    rfl (by kernel_rfl) (by kernel_rfl) (by kernel_rfl) (by decide) (by kernel_rfl)
    (OpenClaim.moreEntering_of (by kernel_rfl) (by kernel_rfl) (by kernel_rfl) (by kernel_rfl) (by kernel_rfl) (by kernel_rfl) (by kernel_rfl) (by kernel_rfl) (by kernel_rfl) (by kernel_rfl))
    ⟨_, WideRow.started_initial, quietAt _⟩
    (fun os started _ H enc _ => lifted5 os started H enc)
#print axioms card5
end Go.Proofs.YtcbmankbjgbjgaaGreatFmt
