/-
  Proved: FnNonNegativeFloatNeverLonger, tied, as it is stated (the card). Conditions: those of the row (what the listed variables hold when the call begins).
-/
import Derived.Test.YtmlgfhdjdmfdbaaDoorNy
import Derived.Test.YtmlgfhdjdmfdbaaDoorTie
import Derived.Test.YtmlgfhdjdmfdbaaDoorCards
import Derived.ProofKit
import Derived.LaidMore
import Derived.OpenShut
import Derived.OpenVars
import Derived.Laws.Cover2
import Derived.SevenTiedAt
import Derived.MakeChecks
import Derived.Stop.Joined
import Derived.Lay
namespace Go.Proofs.YtmlgfhdjdmfdbaaDoor
open Go.ChangeShapes Go.WideShapes Go.ChangeAt Go.RowKit
set_option linter.unusedVariables false
theorem own : ownKnob Tryd.prog.godebug = none := by kernel_rfl
theorem laidOut : laidOutB Tryd.prog = true := by kernel_rfl
theorem met (os : Os) (args : Array Value) : laidMetH Tryd.prog Rows.fnNonNegativeFloatNeverLongerRow.laid ((World.laidAll Tryd.prog os Rows.fnNonNegativeFloatNeverLongerRow.laid).forCall (fun _ _ => 0) ⟨#[], args, []⟩).memory := by
  rw [MakeChecks.laidMetH_plain _ _ _ (by kernel_rfl)]
  exact laidMet_laidAll _ (by kernel_rfl) (by kernel_rfl)
theorem getD_all' {p : Int → Bool} {l : List Int} {d : Int} (h : ∀ z ∈ l, p z = true) (hd : p d = true) : ∀ i, p (l.getD i d) = true := by
  intro i
  rw [List.getD_eq_getElem?_getD]
  cases hi : l[i]? with
  | none => exact hd
  | some z => exact h z (List.mem_of_getElem? hi)
set_option maxRecDepth 100000 in
set_option maxHeartbeats 4000000 in
theorem lifted (os : Os) (started : os.Started) (H : Type) (enc : TypeId × Value → H) :
    ReturnsInHanded {} Tryd.checked os 3 .any (fun w args => (Rows.fnNonNegativeFloatNeverLongerSpec.pre enc Tryd.prog Tryd.f3 Rows.fnNonNegativeFloatNeverLongerRow.domain false w args ∧ laidMetH Tryd.prog Rows.fnNonNegativeFloatNeverLongerRow.laid w) ∧ sizedMet enc Tryd.prog Tryd.f3 (OpenSpec.ofChange Rows.fnNonNegativeFloatNeverLongerSpec) false w args)
      (Rows.fnNonNegativeFloatNeverLongerSpec.post enc Tryd.prog Tryd.f3 false true false false) := by
  refine returnsInHanded_of_change_and (C := Tryd.checked) (X := fun w _ => laidMetH Tryd.prog Rows.fnNonNegativeFloatNeverLongerRow.laid w) (fun _ _ _ hh h => h.of_heap hh) own started (by kernel_rfl) Tryd.func3
    (ChangeSpec.witness_shaped (enc := enc) (C := Tryd.checked) (os := os) (X := fun w _ => laidMetH Tryd.prog Rows.fnNonNegativeFloatNeverLongerRow.laid w) false (World.laidAll Tryd.prog os Rows.fnNonNegativeFloatNeverLongerRow.laid) #[.float .f64 0] 8 (World.laidAll_os _ _ _)
      (World.shaped_of_ZipB (by kernel_rfl) (by kernel_rfl)) (by kernel_rfl) (by kernel_rfl) (by kernel_rfl) (met os _)) ?_
  intro W base args ds gs before hval0 hW _ _ hL _
  have hval : ∀ (j : Nat) t v, Tryd.f3.params[j]? = some t → args[j]? = some v → Value.okWide Tryd.prog W .any base t v := hval0
  have hW' := hW
  obtain ⟨p, q, hA0, hV, rfl, hfz, hnd⟩ := hW
  have hA : DataW.TrodAll enc Tryd.prog W 0 (fun _ => true) true Tryd.f3.params.toList args.toList ds p := hA0
  rw [Tryd.params3] at hA hval
  obtain ⟨v0, vs0, d0, ds0, p0, q0, hargs, rfl, rfl, h0, r0⟩ := trodAll_cons hA
  obtain ⟨rfl, rfl, rfl⟩ := trodAll_nil r0
  obtain rfl : args = #[v0] := by cases args; simp_all
  obtain ⟨rfl, rfl⟩ := trodVars_none hV
  simp only [List.append_nil] at hW'
  obtain ⟨x2, rfl, rfl, rfl, w2⟩ := open_float Tryd.underlying22 (hval 0 22 v0 rfl rfl) h0
  have hb : x2 < 18446744073709551616 := by simpa [Lit.wf] using w2
  clear hA0 hval0
  refine (lawAll x2 hb W (of_laid hL)).mono fun e W' ⟨he, hc⟩ => ?_
  subst he
  have bel : Below W.heap.size W W' := hc.below (Nat.le_refl _) (fun _ _ h => h.elim)
  exact ⟨_, rfl, _, _, _, [], _, _, hW', trodAll_mk1 (shut_bool Tryd.underlying4 _), (trodAll_cons_mk (shut_float Tryd.underlying22 w2) trodAll_mk0), rfl, bel.frame _, fun h => by cases h⟩

theorem law_holds : Rows.FnNonNegativeFloatNeverLongerSaid :=
  OpenClaim.holds_of_wide 3 Tryd.f3 rfl rfl rfl rfl rfl rfl rfl ⟨rfl, rfl, rfl, rfl, rfl⟩ rfl rfl rfl rfl rfl (by kernel_rfl) Tryd.func3 (by kernel_rfl)
    (of_decide_eq_true (by kernel_rfl)) (by unfold Func.isWrapper; first | (rw [if_pos (by decide +kernel)]; kernel_rfl) | (rw [if_neg (by decide +kernel)]; exact ⟨rfl, rfl⟩))
    (fun os started H enc _ => lifted os started H enc)
theorem card_holds : Rows.FnNonNegativeFloatNeverLongerCardSaid :=
  Claim7.holds_tied_plain_at .later [] [.data, .data, .data, .data, .pinned, .pinned] true (true, "98bfd256584c1b22aa9211072bd2d50420f8b49ca22e94f689b6e1ac06bf7dde") false
    law_holds (fun _ h => by cases h) (by kernel_rfl) (fun _ h => by cases h) fnNonNegativeFloatNeverLonger_row_tie rfl ⟨rfl, rfl⟩ (by kernel_rfl) rfl
    (fun f fn hf hfn => by
      obtain rfl : f = 3 := Option.some.inj ((show Tryd.prog.funcNamed "github.com/evanw/esbuild/n011_96.FnNonNegativeFloatNeverLonger" = some 3 by kernel_rfl).symm.trans hf) |>.symm
      obtain rfl : fn = Tryd.f3 := (Option.some.inj (Tryd.func3.symm.trans hfn)).symm
      exact ⟨by kernel_rfl, fun j t ht => by
        rw [Tryd.params3] at ht
        have hm : t ∈ [22] := by simpa using Array.mem_of_getElem? ht
        have hall : ([22].all fun u => !Tryd.prog.wantsStandIn u) = true := by kernel_rfl
        exact (show Tryd.prog.wantsStandIn t = false by simpa using List.all_eq_true.1 hall t hm)⟩)
    (by kernel_rfl)
#print axioms card_holds
end Go.Proofs.YtmlgfhdjdmfdbaaDoor
