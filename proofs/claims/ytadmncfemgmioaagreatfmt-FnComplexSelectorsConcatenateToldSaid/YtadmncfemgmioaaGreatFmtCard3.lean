/-
  Proved: FnComplexSelectorsConcatenate, told and tied, as it is stated (the card). Conditions: those of the row (what the listed variables hold when the call begins; fmt's text told).
-/
import Derived.Test.YtadmncfemgmioaaGreatFmtTab
import Derived.Test.YtadmncfemgmioaaGreatFmtOpen
import Derived.Deep.Matrix
namespace Go.Proofs.YtadmncfemgmioaaGreatFmt
open Go.ChangeShapes Go.WideShapes Go.ChangeAt Go.RowKit
open Go.Extern.Stop Go.Stop Go.Extern
open Go.ChangeMaps (open_string shut_string)
theorem met3 (os : Os) (args : Array Value) : laidMetH Tryz.prog Rows.fnComplexSelectorsConcatenateRow.laid ((World.laidAll Tryz.prog os Rows.fnComplexSelectorsConcatenateRow.laid).forCall (fun _ _ => 0) ⟨#[], args, []⟩).memory := by
  rw [MakeChecks.laidMetH_plain _ _ _ (by kernel_rfl)]
  exact laidMet_laidAll _ (by kernel_rfl) (by kernel_rfl)
theorem shapedZ3 (os : Os) (tape : Tape) : ((World.laidAll Tryz.prog os Rows.fnComplexSelectorsConcatenateRow.laid).forCall tape ⟨#[], #[.bool false, .slice none 0 0, .slice none 0 0, .int .i32 0, .int .u8 0], []⟩).variablesZipB Tryz.prog = true := by kernel_rfl
theorem restZ3 (os : Os) : (((World.laidAll Tryz.prog os Rows.fnComplexSelectorsConcatenateRow.laid).forCall (fun _ _ => 0) ⟨#[], #[.bool false, .slice none 0 0, .slice none 0 0, .int .i32 0, .int .u8 0], []⟩).heap.toList.drop Tryz.prog.globals.size).take ((begin Tryz.prog (fun _ _ => 0) default).world.heap.size - Tryz.prog.globals.size) =
      (begin Tryz.prog (fun _ _ => 0) default).world.heap.toList.drop Tryz.prog.globals.size := by kernel_rfl
theorem okZ3 (os : Os) : Input.okWideB Tryz.prog ((World.laidAll Tryz.prog os Rows.fnComplexSelectorsConcatenateRow.laid).forCall (fun _ _ => 0) ⟨#[], #[.bool false, .slice none 0 0, .slice none 0 0, .int .i32 0, .int .u8 0], []⟩) 3 ⟨#[], #[.bool false, .slice none 0 0, .slice none 0 0, .int .i32 0, .int .u8 0], []⟩ = true := by kernel_rfl
theorem reads3 (os : Os) {H : Type} (enc : TypeId × Value → H) : (DataW.whole enc Tryz.prog ((World.laidAll Tryz.prog os Rows.fnComplexSelectorsConcatenateRow.laid).forCall (fun _ _ => 0) ⟨#[], #[.bool false, .slice none 0 0, .slice none 0 0, .int .i32 0, .int .u8 0], []⟩).memory Tryz.f3.params.toList (OpenSpec.ofChange Rows.fnComplexSelectorsConcatenateSpec).vars false #[Value.bool false, .slice none 0 0, .slice none 0 0, .int .i32 0, .int .u8 0].toList 8).isSome = true := by kernel_rfl
theorem sized3 (os : Os) {H : Type} (enc : TypeId × Value → H) : (OpenSpec.ofChange Rows.fnComplexSelectorsConcatenateSpec).bare.sizedB enc Tryz.prog Tryz.f3 false ((World.laidAll Tryz.prog os Rows.fnComplexSelectorsConcatenateRow.laid).forCall (fun _ _ => 0) ⟨#[], #[.bool false, .slice none 0 0, .slice none 0 0, .int .i32 0, .int .u8 0], []⟩).memory #[.bool false, .slice none 0 0, .slice none 0 0, .int .i32 0, .int .u8 0] 8 = true := by kernel_rfl
theorem noDomain3 : Rows.fnComplexSelectorsConcatenateRow.domain = [] := rfl
set_option maxRecDepth 100000 in
set_option maxHeartbeats 4000000 in
theorem lifted3 (os : Os) (started : os.Started) (H : Type) (enc : TypeId × Value → H) :
    ReturnsInTold none {} Tryz.checked os 3 .any Input.okWide ((OpenSpec.ofChange Rows.fnComplexSelectorsConcatenateSpec).preRow enc Tryz.prog Tryz.f3 Rows.fnComplexSelectorsConcatenateRow.domain false Rows.fnComplexSelectorsConcatenateRow.laid) (fun F => ((OpenSpec.ofChange Rows.fnComplexSelectorsConcatenateSpec).at F).post enc Tryz.prog Tryz.f3 false true false false) (aloneAtReturn Tryz.prog) nothingAlways := by
  obtain ⟨x, hx⟩ := Option.isSome_iff_exists.1 (reads3 os enc)
  refine returnsInTold_of_row (C := Tryz.checked) (s := OpenSpec.ofChange Rows.fnComplexSelectorsConcatenateSpec) (by kernel_rfl) own started (by kernel_rfl) Tryz.func3
    (witness_zip (enc := enc) (C := Tryz.checked) (World.laidAll Tryz.prog os Rows.fnComplexSelectorsConcatenateRow.laid) #[.bool false, .slice none 0 0, .slice none 0 0, .int .i32 0, .int .u8 0] (World.laidAll_os _ _ _) (shapedZ3 os) (restZ3 os) (okZ3 os)
      (OpenSpec.preRow_of_cond 8 hx (by rw [noDomain3]; rfl) (fun k hk => by cases hk) (sized3 os enc) (met3 os _))) ?_
  intro F W base args ds gs before _ _ hval0 hW _ _ _ hL _
  have hval : ∀ (j : Nat) t v, Tryz.f3.params[j]? = some t → args[j]? = some v → Value.okWide Tryz.prog W .any base t v := hval0
  have hW' := hW
  obtain ⟨p, q, hA0, hV, rfl, hfz, hnd⟩ := hW
  have hA : DataW.TrodAll enc Tryz.prog W 0 (fun _ => true) true Tryz.f3.params.toList args.toList ds p := hA0
  rw [Tryz.params3] at hA hval
  obtain ⟨v0, vs0, d0, ds0, p0, q0, hargs, rfl, rfl, h0, r0⟩ := trodAll_cons hA
  obtain ⟨v1, vs1, d1, ds1, p1, q1, rfl, rfl, rfl, h1, r1⟩ := trodAll_cons r0
  obtain ⟨v2, vs2, d2, ds2, p2, q2, rfl, rfl, rfl, h2, r2⟩ := trodAll_cons r1
  obtain ⟨v3, vs3, d3, ds3, p3, q3, rfl, rfl, rfl, h3, r3⟩ := trodAll_cons r2
  obtain ⟨v4, vs4, d4, ds4, p4, q4, rfl, rfl, rfl, h4, r4⟩ := trodAll_cons r3
  obtain ⟨rfl, rfl, rfl⟩ := trodAll_nil r4
  obtain rfl : args = #[v0, v1, v2, v3, v4] := by cases args; simp_all
  have hV0 : DataW.TrodVars enc Tryz.prog W (fun _ => true) ["github.com/evanw/esbuild/internal/sourcemap.base64", "github.com/evanw/esbuild/internal/ast.InvalidRef"] gs q := hV
  obtain ⟨g0, t0, cs0, f0, e0, pl0, g1, t1, cs1, f1, e1, pl1, rfl, _⟩ := trodVars_two hV0
  obtain ⟨x0, rfl, rfl, rfl⟩ := open_bool Tryz.underlying4 (hval 0 4 v0 rfl rfl) h0
  obtain ⟨a1, n1, c1, rfl⟩ := okWide_slice Tryz.underlying22 (hval 1 22 v1 rfl rfl)
  have k1 := h1
  have lt1 : ∀ x ∈ p1, x.block < W.heap.size := by obtain ⟨m, hm⟩ := k1; exact DataW.trod_lt m _ _ _ hm
  obtain ⟨X1, ca1, cc1, w1⟩ : ∃ X ca cc, Nested W a1 n1 X ca cc := by
    obtain ⟨fuel, hf⟩ := h1
    rcases Go.Deep.open_int_rows Tryz.underlying22 Tryz.underlying27 Tryz.underlying5 (by kernel_rfl) (by kernel_rfl) hf with ⟨hcs, _⟩ | ⟨x, len, cap, Ar, Lr, Cr, Zr, hcs, _, hl, _, _, hrows⟩
    · simp [Value.cells] at hcs
      obtain ⟨rfl, rfl, rfl⟩ := hcs
      exact ⟨fun _ => [], fun _ => none, fun _ => 0, .inl rfl, fun i hi => by omega⟩
    · simp [Value.cells] at hcs
      obtain ⟨rfl, rfl, rfl⟩ := hcs
      obtain ⟨X, hX⟩ := nested_of_rows (w := W) (x := x) (len := n1) (A := Ar) (L := Lr) (C := Cr) (Z := Zr) (fun r hr => by
        have h := hrows r (by omega)
        exact ⟨h.1, h.2.1, h.2.2.2.1, h.2.2.2.2.1, h.2.2.2.2.2.1, fun a' ha => (h.2.2.2.2.2.2 a' ha).2⟩)
      exact ⟨X, Ar, Cr, hX⟩
  obtain ⟨a2, n2, c2, rfl⟩ := okWide_slice Tryz.underlying22 (hval 2 22 v2 rfl rfl)
  have k2 := h2
  have lt2 : ∀ x ∈ p2, x.block < W.heap.size := by obtain ⟨m, hm⟩ := k2; exact DataW.trod_lt m _ _ _ hm
  obtain ⟨X2, ca2, cc2, w2⟩ : ∃ X ca cc, Nested W a2 n2 X ca cc := by
    obtain ⟨fuel, hf⟩ := h2
    rcases Go.Deep.open_int_rows Tryz.underlying22 Tryz.underlying27 Tryz.underlying5 (by kernel_rfl) (by kernel_rfl) hf with ⟨hcs, _⟩ | ⟨x, len, cap, Ar, Lr, Cr, Zr, hcs, _, hl, _, _, hrows⟩
    · simp [Value.cells] at hcs
      obtain ⟨rfl, rfl, rfl⟩ := hcs
      exact ⟨fun _ => [], fun _ => none, fun _ => 0, .inl rfl, fun i hi => by omega⟩
    · simp [Value.cells] at hcs
      obtain ⟨rfl, rfl, rfl⟩ := hcs
      obtain ⟨X, hX⟩ := nested_of_rows (w := W) (x := x) (len := n2) (A := Ar) (L := Lr) (C := Cr) (Z := Zr) (fun r hr => by
        have h := hrows r (by omega)
        exact ⟨h.1, h.2.1, h.2.2.2.1, h.2.2.2.2.1, h.2.2.2.2.2.1, fun a' ha => (h.2.2.2.2.2.2 a' ha).2⟩)
      exact ⟨X, Ar, Cr, hX⟩
  obtain ⟨x3, rfl, rfl, rfl, w3⟩ := open_int Tryz.underlying21 (hval 3 21 v3 rfl rfl) h3
  obtain ⟨x4, rfl, rfl, rfl, w4⟩ := open_int Tryz.underlying5 (hval 4 5 v4 rfl rfl) h4
  clear hA0 hval0
  refine (law3 x0 a1 a2 n1 c1 n2 c2 X1 X2 ca1 ca2 cc1 cc2 x4 x3 (i32_lo w3) W w1 w2).mono fun e W' ⟨he, hc⟩ => ?_
  subst he
  have bel : Below W.heap.size W W' := hc.below (Nat.le_refl _) (fun _ _ h => h.elim)
  exact ⟨_, rfl, _, _, _, [], _, _, hW', trodAll_mk1 (shut_bool Tryz.underlying4 _), (trodAll_cons_mk (shut_bool Tryz.underlying4 x0) (trodAll_cons_mk (Below.trod laidOut (by kernel_rfl) (of_decide_eq_true (by kernel_rfl)) k1 bel lt1) (trodAll_cons_mk (Below.trod laidOut (by kernel_rfl) (of_decide_eq_true (by kernel_rfl)) k2 bel lt2) (trodAll_cons_mk (shut_int Tryz.underlying21 w3) (trodAll_cons_mk (shut_int Tryz.underlying5 w4) trodAll_mk0))))), bel.trodVars laidOut rowed hV0, bel.frame _, fun h => by cases h⟩

theorem card3 : Rows.FnComplexSelectorsConcatenateToldSaid :=
  Claim7.holds_of_told_tied_any_at .later 3 Tryz.f3 "fmt.Sprintf" [] [] _ _ _ _ _ (by kernel_rfl) rfl rfl rfl laidOut (by kernel_rfl) rfl ⟨rfl, rfl, rfl, rfl, rfl, rfl, rfl⟩ rfl rfl (by kernel_rfl) (by kernel_rfl) Tryz.func3 (by kernel_rfl)
    (of_decide_eq_true (by kernel_rfl)) (by unfold Func.isWrapper; first | (rw [if_pos (by decide +kernel)]; kernel_rfl) | (rw [if_neg (by decide +kernel)]; exact ⟨rfl, rfl⟩)) stops.symm rfl stopKnobs.symm (by kernel_rfl)
    (by kernel_rfl) (by kernel_rfl) (by kernel_rfl) (by kernel_rfl) (by kernel_rfl) (by kernel_rfl) (by kernel_rfl) (by kernel_rfl) (by kernel_rfl) rfl (by kernel_rfl) rfl rfl
    rfl rfl
    rfl (by kernel_rfl) (by kernel_rfl) (by kernel_rfl) (by decide) (by kernel_rfl) fnComplexSelectorsConcatenate_row_tie
    (OpenClaim.moreEntering_of (by kernel_rfl) (by kernel_rfl) (by kernel_rfl) (by kernel_rfl) (by kernel_rfl) (by kernel_rfl) (by kernel_rfl) (by kernel_rfl) (by kernel_rfl) (by kernel_rfl))
    ⟨_, WideRow.started_initial, quietAt _⟩
    (fun os started _ H enc _ => lifted3 os started H enc)
#print axioms card3
end Go.Proofs.YtadmncfemgmioaaGreatFmt
