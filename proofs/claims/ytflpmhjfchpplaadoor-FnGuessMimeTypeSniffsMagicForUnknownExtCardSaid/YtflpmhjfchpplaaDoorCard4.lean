/-
  Proved: FnGuessMimeTypeSniffsMagicForUnknownExt, tied, as it is stated (the card). Conditions: those of the row (what the listed variables hold when the call begins).
-/
import Derived.Test.YtflpmhjfchpplaaDoorWit
namespace Go.Proofs.YtflpmhjfchpplaaDoor
open Go.ChangeShapes Go.WideShapes Go.ChangeAt Go.RowKit
open Go.ChangeMaps (open_string shut_string)
set_option linter.unusedVariables false
set_option maxRecDepth 100000 in
set_option maxHeartbeats 4000000 in
theorem lifted4 (os : Os) (started : os.Started) (H : Type) (enc : TypeId × Value → H) :
    ReturnsInHanded {} Tryd.checked os 4 .any (fun w args => (Rows.fnGuessMimeTypeSniffsMagicForUnknownExtSpec.pre enc Tryd.prog Tryd.f4 Rows.fnGuessMimeTypeSniffsMagicForUnknownExtRow.domain false w args ∧ laidMetH Tryd.prog Rows.fnGuessMimeTypeSniffsMagicForUnknownExtRow.laid w) ∧ sizedMet enc Tryd.prog Tryd.f4 (OpenSpec.ofChange Rows.fnGuessMimeTypeSniffsMagicForUnknownExtSpec) false w args)
      (Rows.fnGuessMimeTypeSniffsMagicForUnknownExtSpec.post enc Tryd.prog Tryd.f4 false true false false) := by
  refine returnsInHanded_of_change_and (C := Tryd.checked) (X := fun w _ => laidMetH Tryd.prog Rows.fnGuessMimeTypeSniffsMagicForUnknownExtRow.laid w) (fun _ _ _ hh h => h.of_heap hh) own started (by kernel_rfl) Tryd.func4
    (ChangeSpec.witness_shaped (enc := enc) (C := Tryd.checked) (os := os) (X := fun w _ => laidMetH Tryd.prog Rows.fnGuessMimeTypeSniffsMagicForUnknownExtRow.laid w) false (startW os) #[.string ⟨#[]⟩, .string ⟨#[]⟩, .int .u8 0] 8 (start_os os)
      (World.shaped_of_ZipB (by kernel_rfl) (by kernel_rfl)) (by kernel_rfl) (by kernel_rfl) (by kernel_rfl) (met os _)) ?_
  intro W base args ds gs before hval0 hW _ _ hL _
  have hval : ∀ (j : Nat) t v, Tryd.f4.params[j]? = some t → args[j]? = some v → Value.okWide Tryd.prog W .any base t v := hval0
  have hW' := hW
  obtain ⟨p, q, hA0, hV, rfl, hfz, hnd⟩ := hW
  have hA : DataW.TrodAll enc Tryd.prog W 0 (fun _ => true) true Tryd.f4.params.toList args.toList ds p := hA0
  rw [Tryd.params4] at hA hval
  obtain ⟨v0, vs0, d0, ds0, p0, q0, hargs, rfl, rfl, h0, r0⟩ := trodAll_cons hA
  obtain ⟨v1, vs1, d1, ds1, p1, q1, rfl, rfl, rfl, h1, r1⟩ := trodAll_cons r0
  obtain ⟨v2, vs2, d2, ds2, p2, q2, rfl, rfl, rfl, h2, r2⟩ := trodAll_cons r1
  obtain ⟨rfl, rfl, rfl⟩ := trodAll_nil r2
  obtain rfl : args = #[v0, v1, v2] := by cases args; simp_all
  have hV0 : DataW.TrodVars enc Tryd.prog W (fun _ => true) ["github.com/evanw/esbuild/internal/helpers.builtinTypesLower"] gs q := hV
  obtain ⟨g0, t0, cs0, f0, e0, pl0, rfl, _⟩ := trodVars_one hV0
  obtain ⟨x0, rfl, rfl, rfl, w0⟩ := open_string Tryd.underlying9 (hval 0 9 v0 rfl rfl) h0
  obtain ⟨x1, rfl, rfl, rfl, w1⟩ := open_string Tryd.underlying9 (hval 1 9 v1 rfl rfl) h1
  obtain ⟨x2, rfl, rfl, rfl, w2⟩ := open_int Tryd.underlying5 (hval 2 5 v2 rfl rfl) h2
  clear hA0 hval0
  obtain ⟨bm, hM⟩ := of_laid hL
  refine (law4 x0 x1 x2 (u8_lo w2) (u8_hi w2) bm W hM).mono fun e W' ⟨he, hc⟩ => ?_
  subst he
  have bel : Below W.heap.size W W' := hc.below (Nat.le_refl _) (fun _ _ h => h.elim)
  exact ⟨_, rfl, _, _, _, [], _, _, hW', trodAll_mk1 (shut_bool Tryd.underlying4 _), (trodAll_cons_mk (shut_string Tryd.underlying9 w0) (trodAll_cons_mk (shut_string Tryd.underlying9 w1) (trodAll_cons_mk (shut_int Tryd.underlying5 w2) trodAll_mk0))), bel.trodVars laidOut (by kernel_rfl) hV0, bel.frame _, fun h => by cases h⟩
theorem law_holds4 : Rows.FnGuessMimeTypeSniffsMagicForUnknownExtSaid :=
  OpenClaim.holds_of_wide 4 Tryd.f4 rfl rfl rfl rfl rfl rfl rfl ⟨rfl, rfl, rfl, rfl, rfl⟩ rfl rfl rfl rfl rfl (by kernel_rfl) Tryd.func4 (by kernel_rfl)
    (of_decide_eq_true (by kernel_rfl)) (by unfold Func.isWrapper; first | (rw [if_pos (by decide +kernel)]; kernel_rfl) | (rw [if_neg (by decide +kernel)]; exact ⟨rfl, rfl⟩))
    (fun os started H enc _ => lifted4 os started H enc)
theorem card4 : Rows.FnGuessMimeTypeSniffsMagicForUnknownExtCardSaid :=
  Claim7.holds_tied_plain_at .later [] [.data, .mapped, .pinned, .pinned] true (true, "023ec8dff5100efa7365414df919352013f146da26eefe91ac18879f074fb24a") false
    law_holds4 (fun _ h => by cases h) (by kernel_rfl) (fun _ h => by cases h) fnGuessMimeTypeSniffsMagicForUnknownExt_row_tie rfl ⟨rfl, rfl⟩ (by kernel_rfl) rfl
    (fun f fn hf hfn => by
      obtain rfl : f = 4 := Option.some.inj ((show Tryd.prog.funcNamed "github.com/evanw/esbuild/n011_245.FnGuessMimeTypeSniffsMagicForUnknownExt" = some 4 by kernel_rfl).symm.trans hf) |>.symm
      obtain rfl : fn = Tryd.f4 := (Option.some.inj (Tryd.func4.symm.trans hfn)).symm
      exact ⟨by kernel_rfl, fun j t ht => by
        rw [Tryd.params4] at ht
        have hm : t ∈ [9, 9, 5] := by simpa using Array.mem_of_getElem? ht
        have hall : ([9, 9, 5].all fun u => !Tryd.prog.wantsStandIn u) = true := by kernel_rfl
        exact (show Tryd.prog.wantsStandIn t = false by simpa using List.all_eq_true.1 hall t hm)⟩)
    (by kernel_rfl)
#print axioms card4
end Go.Proofs.YtflpmhjfchpplaaDoor
