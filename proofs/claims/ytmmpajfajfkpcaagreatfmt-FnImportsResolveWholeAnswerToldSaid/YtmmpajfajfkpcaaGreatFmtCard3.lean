/-
  Proved: FnImportsResolveWholeAnswer, told and tied, as it is stated (the card). Conditions: those of the row (what the listed variables hold when the call begins; fmt's text told).
-/
import Derived.Test.YtmmpajfajfkpcaaGreatFmtTab
import Derived.Test.YtmmpajfajfkpcaaGreatFmtLaw
import Derived.MakeChecks
namespace Go.Proofs.YtmmpajfajfkpcaaGreatFmt
open Go.ChangeShapes Go.WideShapes Go.ChangeAt Go.RowKit
open Go.Extern.Stop Go.Stop Go.Extern
open Go.ChangeMaps (open_string shut_string)
theorem met3 (os : Os) (args : Array Value) : laidMetH Tryz.prog Rows.fnImportsResolveWholeAnswerRow.laid ((World.laidAll Tryz.prog os Rows.fnImportsResolveWholeAnswerRow.laid).forCall (fun _ _ => 0) ⟨#[], args, []⟩).memory := by
  rw [MakeChecks.laidMetH_plain _ _ _ (by kernel_rfl)]
  exact laidMet_laidAll _ (by kernel_rfl) (by kernel_rfl)
theorem shapedZ3 (os : Os) (tape : Tape) : ((World.laidAll Tryz.prog os Rows.fnImportsResolveWholeAnswerRow.laid).forCall tape ⟨#[], #[.string ⟨#[]⟩, .int .u8 0, .slice none 0 0, .int .i32 0, .int .i32 0, .slice none 0 0], []⟩).variablesZipB Tryz.prog = true := by kernel_rfl
theorem restZ3 (os : Os) : (((World.laidAll Tryz.prog os Rows.fnImportsResolveWholeAnswerRow.laid).forCall (fun _ _ => 0) ⟨#[], #[.string ⟨#[]⟩, .int .u8 0, .slice none 0 0, .int .i32 0, .int .i32 0, .slice none 0 0], []⟩).heap.toList.drop Tryz.prog.globals.size).take ((begin Tryz.prog (fun _ _ => 0) default).world.heap.size - Tryz.prog.globals.size) =
      (begin Tryz.prog (fun _ _ => 0) default).world.heap.toList.drop Tryz.prog.globals.size := by kernel_rfl
theorem okZ3 (os : Os) : Input.okWideB Tryz.prog ((World.laidAll Tryz.prog os Rows.fnImportsResolveWholeAnswerRow.laid).forCall (fun _ _ => 0) ⟨#[], #[.string ⟨#[]⟩, .int .u8 0, .slice none 0 0, .int .i32 0, .int .i32 0, .slice none 0 0], []⟩) 3 ⟨#[], #[.string ⟨#[]⟩, .int .u8 0, .slice none 0 0, .int .i32 0, .int .i32 0, .slice none 0 0], []⟩ = true := by kernel_rfl
theorem reads3 (os : Os) {H : Type} (enc : TypeId × Value → H) : (DataW.whole enc Tryz.prog ((World.laidAll Tryz.prog os Rows.fnImportsResolveWholeAnswerRow.laid).forCall (fun _ _ => 0) ⟨#[], #[.string ⟨#[]⟩, .int .u8 0, .slice none 0 0, .int .i32 0, .int .i32 0, .slice none 0 0], []⟩).memory Tryz.f3.params.toList (OpenSpec.ofChange Rows.fnImportsResolveWholeAnswerSpec).vars false #[Value.string ⟨#[]⟩, .int .u8 0, .slice none 0 0, .int .i32 0, .int .i32 0, .slice none 0 0].toList 8).isSome = true := by kernel_rfl
theorem sized3 (os : Os) {H : Type} (enc : TypeId × Value → H) : (OpenSpec.ofChange Rows.fnImportsResolveWholeAnswerSpec).bare.sizedB enc Tryz.prog Tryz.f3 false ((World.laidAll Tryz.prog os Rows.fnImportsResolveWholeAnswerRow.laid).forCall (fun _ _ => 0) ⟨#[], #[.string ⟨#[]⟩, .int .u8 0, .slice none 0 0, .int .i32 0, .int .i32 0, .slice none 0 0], []⟩).memory #[.string ⟨#[]⟩, .int .u8 0, .slice none 0 0, .int .i32 0, .int .i32 0, .slice none 0 0] 8 = true := by kernel_rfl
theorem noDomain3 : Rows.fnImportsResolveWholeAnswerRow.domain = [] := rfl
set_option maxRecDepth 100000 in
set_option maxHeartbeats 4000000 in
theorem lifted3 (os : Os) (started : os.Started) (H : Type) (enc : TypeId × Value → H) :
    ReturnsInTold none {} Tryz.checked os 3 .any Input.okWide ((OpenSpec.ofChange Rows.fnImportsResolveWholeAnswerSpec).preRow enc Tryz.prog Tryz.f3 Rows.fnImportsResolveWholeAnswerRow.domain false Rows.fnImportsResolveWholeAnswerRow.laid) (fun F => ((OpenSpec.ofChange Rows.fnImportsResolveWholeAnswerSpec).at F).post enc Tryz.prog Tryz.f3 false true false false) (aloneAtReturn Tryz.prog) nothingAlways := by
  obtain ⟨x, hx⟩ := Option.isSome_iff_exists.1 (reads3 os enc)
  refine returnsInTold_of_row (C := Tryz.checked) (s := OpenSpec.ofChange Rows.fnImportsResolveWholeAnswerSpec) (by kernel_rfl) own started (by kernel_rfl) Tryz.func3
    (witness_zip (enc := enc) (C := Tryz.checked) (World.laidAll Tryz.prog os Rows.fnImportsResolveWholeAnswerRow.laid) #[.string ⟨#[]⟩, .int .u8 0, .slice none 0 0, .int .i32 0, .int .i32 0, .slice none 0 0] (World.laidAll_os _ _ _) (shapedZ3 os) (restZ3 os) (okZ3 os)
      (OpenSpec.preRow_of_cond 8 hx (by rw [noDomain3]; rfl) (fun k hk => by cases hk) (sized3 os enc) (met3 os _))) ?_
  intro F W base args ds gs before _ _ hval0 hW _ _ _ hL _
  have hval : ∀ (j : Nat) t v, Tryz.f3.params[j]? = some t → args[j]? = some v → Value.okWide Tryz.prog W .any base t v := hval0
  have hW' := hW
  obtain ⟨p, q, hA0, hV, rfl, hfz, hnd⟩ := hW
  have hA : DataW.TrodAll enc Tryz.prog W 0 (fun _ => true) true Tryz.f3.params.toList args.toList ds p := hA0
  rw [Tryz.params3] at hA hval
  obtain ⟨v0, vs0, d0, ds0, p0, q0, hargs, rfl, rfl, h0, r0⟩ := trodAll_cons hA
  obtain ⟨v1, vs1, d1, ds1, p1, q1, rfl, rfl, rfl, h1, r1⟩ := trodAll_cons r0
  obtain ⟨v2, vs2, d2, ds2, p2, q2, rfl, rfl, rfl, h2, r2⟩ := trodAll_cons r1
  obtain ⟨v3, vs3, d3, ds3, p3, q3, rfl, rfl, rfl, h3, r3⟩ := trodAll_cons r2
  obtain ⟨v4, vs4, d4, ds4, p4, q4, rfl, rfl, rfl, h4, r4⟩ := trodAll_cons r3
  obtain ⟨v5, vs5, d5, ds5, p5, q5, rfl, rfl, rfl, h5, r5⟩ := trodAll_cons r4
  obtain ⟨rfl, rfl, rfl⟩ := trodAll_nil r5
  obtain rfl : args = #[v0, v1, v2, v3, v4, v5] := by cases args; simp_all
  have hV0 : DataW.TrodVars enc Tryz.prog W (fun _ => true) [] gs q := hV
  obtain ⟨rfl, rfl⟩ := trodVars_none hV
  obtain ⟨x0, rfl, rfl, rfl, w0⟩ := open_string Tryz.underlying9 (hval 0 9 v0 rfl rfl) h0
  obtain ⟨x1, rfl, rfl, rfl, w1⟩ := open_int Tryz.underlying5 (hval 1 5 v1 rfl rfl) h1
  obtain ⟨a2, n2, c2, rfl⟩ := okWide_slice Tryz.underlying22 (hval 2 22 v2 rfl rfl)
  have k2 := h2
  have lt2 : ∀ x ∈ p2, x.block < W.heap.size := by obtain ⟨m, hm⟩ := k2; exact DataW.trod_lt m _ _ _ hm
  obtain ⟨z2, nil2, cap2, max2, w2⟩ : ∃ zs : List ByteArray, (a2 = none → n2 = 0 ∧ c2 = 0) ∧ n2 ≤ c2 ∧ c2 ≤ 9223372036854775807 ∧ Reads W a2 n2 (fun i => .string (zs.getD i ByteArray.empty)) := by
    obtain ⟨fuel, hf⟩ := h2
    rcases open_strings Tryz.underlying22 Tryz.underlying9 (by kernel_rfl) hf with ⟨hcs, _⟩ | ⟨x, l, c, zs, hcs, _, hl, hm, hz, _, hcell, hwz⟩
    · simp [Value.cells] at hcs
      obtain ⟨rfl, rfl, rfl⟩ := hcs
      exact ⟨[], by simp, by simp, by simp, .inl rfl⟩
    · simp [Value.cells] at hcs
      obtain ⟨rfl, rfl, rfl⟩ := hcs
      have hz1 : zs.length = c2 := by simpa using hz
      exact ⟨zs, (fun h => by cases h), hl, (by unfold maxLen at hm; omega), reads_of_cells (fun i hi => hcell i (by omega))⟩
  obtain ⟨x3, rfl, rfl, rfl, w3⟩ := open_int Tryz.underlying21 (hval 3 21 v3 rfl rfl) h3
  obtain ⟨x4, rfl, rfl, rfl, w4⟩ := open_int Tryz.underlying21 (hval 4 21 v4 rfl rfl) h4
  obtain ⟨a5, n5, c5, rfl⟩ := okWide_slice Tryz.underlying22 (hval 5 22 v5 rfl rfl)
  have k5 := h5
  have lt5 : ∀ x ∈ p5, x.block < W.heap.size := by obtain ⟨m, hm⟩ := k5; exact DataW.trod_lt m _ _ _ hm
  obtain ⟨z5, nil5, cap5, max5, w5⟩ : ∃ zs : List ByteArray, (a5 = none → n5 = 0 ∧ c5 = 0) ∧ n5 ≤ c5 ∧ c5 ≤ 9223372036854775807 ∧ Reads W a5 n5 (fun i => .string (zs.getD i ByteArray.empty)) := by
    obtain ⟨fuel, hf⟩ := h5
    rcases open_strings Tryz.underlying22 Tryz.underlying9 (by kernel_rfl) hf with ⟨hcs, _⟩ | ⟨x, l, c, zs, hcs, _, hl, hm, hz, _, hcell, hwz⟩
    · simp [Value.cells] at hcs
      obtain ⟨rfl, rfl, rfl⟩ := hcs
      exact ⟨[], by simp, by simp, by simp, .inl rfl⟩
    · simp [Value.cells] at hcs
      obtain ⟨rfl, rfl, rfl⟩ := hcs
      have hz1 : zs.length = c5 := by simpa using hz
      exact ⟨zs, (fun h => by cases h), hl, (by unfold maxLen at hm; omega), reads_of_cells (fun i hi => hcell i (by omega))⟩
  clear hA0 hval0
  refine (law3 x0 x1 x3 x4 a2 a5 n2 c2 n5 c5 (fun i => z2.getD i ByteArray.empty) (fun i => z5.getD i ByteArray.empty) W w2 w5 nil2 nil5).mono fun e W' ⟨he, hc⟩ => ?_
  subst he
  have bel : Below W.heap.size W W' := hc.below (Nat.le_refl _) (fun _ _ h => h.elim)
  exact ⟨_, rfl, _, _, _, [], _, [], hW', trodAll_mk1 (shut_bool Tryz.underlying4 _), (trodAll_cons_mk (shut_string Tryz.underlying9 w0) (trodAll_cons_mk (shut_int Tryz.underlying5 w1) (trodAll_cons_mk (Below.trod laidOut (by kernel_rfl) (of_decide_eq_true (by kernel_rfl)) k2 bel lt2) (trodAll_cons_mk (shut_int Tryz.underlying21 w3) (trodAll_cons_mk (shut_int Tryz.underlying21 w4) (trodAll_cons_mk (Below.trod laidOut (by kernel_rfl) (of_decide_eq_true (by kernel_rfl)) k5 bel lt5) trodAll_mk0)))))), rfl, bel.frame _, fun h => by cases h⟩

theorem card3 : Rows.FnImportsResolveWholeAnswerToldSaid :=
  Claim7.holds_of_told_any 3 Tryz.f3 "fmt.Sprintf" [] [] _ _ _ (by kernel_rfl) rfl rfl rfl laidOut (by kernel_rfl) rfl ⟨rfl, rfl, rfl, rfl, rfl, rfl, rfl⟩ rfl rfl (by kernel_rfl) (by kernel_rfl) Tryz.func3 (by kernel_rfl)
    (of_decide_eq_true (by kernel_rfl)) (by unfold Func.isWrapper; first | (rw [if_pos (by decide +kernel)]; kernel_rfl) | (rw [if_neg (by decide +kernel)]; exact ⟨rfl, rfl⟩)) stops.symm rfl stopKnobs.symm (by kernel_rfl)
    (by kernel_rfl) (by kernel_rfl) (by kernel_rfl) (by kernel_rfl) (by kernel_rfl) (by kernel_rfl) (by kernel_rfl) (by kernel_rfl) (by kernel_rfl) rfl (by kernel_rfl) rfl rfl
    rfl rfl
    rfl (by kernel_rfl) (by kernel_rfl) (by kernel_rfl) (by decide) (by kernel_rfl)
    (OpenClaim.moreEntering_of (by kernel_rfl) (by kernel_rfl) (by kernel_rfl) (by kernel_rfl) (by kernel_rfl) (by kernel_rfl) (by kernel_rfl) (by kernel_rfl) (by kernel_rfl) (by kernel_rfl))
    ⟨_, WideRow.started_initial, quietAt _⟩
    (fun os started _ H enc _ => lifted3 os started H enc)
#print axioms card3
end Go.Proofs.YtmmpajfajfkpcaaGreatFmt
