/-
  Proved: FnMatchQueryPathToResultAgreesWithModel, tied, as it is stated (the card). Conditions: those of the row (what the listed variables hold when the call begins).
-/
import Derived.Test.YtambbfgmbfamkaaGreatDoorLawj
import Derived.Test.YtambbfgmbfamkaaGreatDoorTie
import Derived.Test.YtambbfgmbfamkaaGreatDoorCards
import Derived.ProofKit
import Derived.LaidMore
import Derived.OpenShut
import Derived.OpenVars
import Derived.SliceStrings
import Derived.Laws.Cover2
import Derived.SevenTiedAt
import Derived.MakeChecks
import Derived.Stop.Joined
import Derived.Lay
namespace Go.Proofs.YtambbfgmbfamkaaGreatDoor
open Go.ChangeShapes Go.WideShapes Go.ChangeAt Go.RowKit
open Go.ChangeMaps (open_string shut_string)
set_option linter.unusedVariables false
theorem own : ownKnob Tryz.prog.godebug = none := by kernel_rfl
theorem laidOut : laidOutB Tryz.prog = true := by kernel_rfl
theorem met (os : Os) (args : Array Value) : laidMetH Tryz.prog Rows.fnMatchQueryPathToResultAgreesWithModelRow.laid ((World.laidAll Tryz.prog os Rows.fnMatchQueryPathToResultAgreesWithModelRow.laid).forCall (fun _ _ => 0) ⟨#[], args, []⟩).memory := by
  rw [MakeChecks.laidMetH_plain _ _ _ (by kernel_rfl)]
  exact laidMet_laidAll _ (by kernel_rfl) (by kernel_rfl)
set_option maxRecDepth 100000 in
set_option maxHeartbeats 4000000 in
theorem lifted (os : Os) (started : os.Started) (H : Type) (enc : TypeId × Value → H) :
    ReturnsInHanded {} Tryz.checked os 3 .any (fun w args => (Rows.fnMatchQueryPathToResultAgreesWithModelSpec.pre enc Tryz.prog Tryz.f3 Rows.fnMatchQueryPathToResultAgreesWithModelRow.domain false w args ∧ laidMetH Tryz.prog Rows.fnMatchQueryPathToResultAgreesWithModelRow.laid w) ∧ sizedMet enc Tryz.prog Tryz.f3 (OpenSpec.ofChange Rows.fnMatchQueryPathToResultAgreesWithModelSpec) false w args)
      (Rows.fnMatchQueryPathToResultAgreesWithModelSpec.post enc Tryz.prog Tryz.f3 false true false false) := by
  refine returnsInHanded_of_change_and (C := Tryz.checked) (X := fun w _ => laidMetH Tryz.prog Rows.fnMatchQueryPathToResultAgreesWithModelRow.laid w) (fun _ _ _ hh h => h.of_heap hh) own started (by kernel_rfl) Tryz.func3
    (ChangeSpec.witness_shaped (enc := enc) (C := Tryz.checked) (os := os) (X := fun w _ => laidMetH Tryz.prog Rows.fnMatchQueryPathToResultAgreesWithModelRow.laid w) false (World.laidAll Tryz.prog os Rows.fnMatchQueryPathToResultAgreesWithModelRow.laid) #[.string ⟨#[]⟩, .slice none 0 0, .slice none 0 0, .slice none 0 0] 8 (World.laidAll_os _ _ _)
      (World.shaped_of_ZipB (by kernel_rfl) (by kernel_rfl)) (by kernel_rfl) (by kernel_rfl) (by kernel_rfl) (met os _)) ?_
  intro W base args ds gs before hval0 hW _ _ hL _
  have hval : ∀ (j : Nat) t v, Tryz.f3.params[j]? = some t → args[j]? = some v → Value.okWide Tryz.prog W .any base t v := hval0
  have hW' := hW
  obtain ⟨p, q, hA0, hV, rfl, hfz, hnd⟩ := hW
  have hA : DataW.TrodAll enc Tryz.prog W 0 (fun _ => true) true Tryz.f3.params.toList args.toList ds p := hA0
  rw [Tryz.params3] at hA hval
  obtain ⟨v0, vs0, d0, ds0, p0, q0, hargs, rfl, rfl, h0, r0⟩ := trodAll_cons hA
  obtain ⟨v1, vs1, d1, ds1, p1, q1, rfl, rfl, rfl, h1, r1⟩ := trodAll_cons r0
  obtain ⟨v2, vs2, d2, ds2, p2, q2, rfl, rfl, rfl, h2, r2⟩ := trodAll_cons r1
  obtain ⟨v3, vs3, d3, ds3, p3, q3, rfl, rfl, rfl, h3, r3⟩ := trodAll_cons r2
  obtain ⟨rfl, rfl, rfl⟩ := trodAll_nil r3
  obtain rfl : args = #[v0, v1, v2, v3] := by cases args; simp_all
  obtain ⟨rfl, rfl⟩ := trodVars_none hV
  simp only [List.append_nil] at hW'
  obtain ⟨x0, rfl, rfl, rfl, w0⟩ := open_string Tryz.underlying9 (hval 0 9 v0 rfl rfl) h0
  obtain ⟨a1, n1, c1, rfl⟩ := okWide_slice Tryz.underlying22 (hval 1 22 v1 rfl rfl)
  have k1 := h1
  have lt1 : ∀ x ∈ p1, x.block < W.heap.size := by obtain ⟨m, hm⟩ := k1; exact DataW.trod_lt m _ _ _ hm
  obtain ⟨z1, w1⟩ : ∃ zs : List ByteArray, Reads W a1 n1 (strAt fun i => zs.getD i ByteArray.empty) := by
    obtain ⟨fuel, hf⟩ := h1
    rcases open_strings Tryz.underlying22 Tryz.underlying9 (by kernel_rfl) hf with ⟨hcs, _⟩ | ⟨x, l, c, zs, hcs, _, hl, hm, hz, _, hcell, hwz⟩
    · simp [Value.cells] at hcs
      obtain ⟨rfl, rfl, rfl⟩ := hcs
      exact ⟨[], .inl rfl⟩
    · simp [Value.cells] at hcs
      obtain ⟨rfl, rfl, rfl⟩ := hcs
      have hz1 : zs.length = c1 := by simpa using hz
      exact ⟨zs, reads_of_cells (fun i hi => hcell i (by omega))⟩
  obtain ⟨a2, n2, c2, rfl⟩ := okWide_slice Tryz.underlying22 (hval 2 22 v2 rfl rfl)
  have k2 := h2
  have lt2 : ∀ x ∈ p2, x.block < W.heap.size := by obtain ⟨m, hm⟩ := k2; exact DataW.trod_lt m _ _ _ hm
  obtain ⟨z2, w2⟩ : ∃ zs : List ByteArray, Reads W a2 n2 (strAt fun i => zs.getD i ByteArray.empty) := by
    obtain ⟨fuel, hf⟩ := h2
    rcases open_strings Tryz.underlying22 Tryz.underlying9 (by kernel_rfl) hf with ⟨hcs, _⟩ | ⟨x, l, c, zs, hcs, _, hl, hm, hz, _, hcell, hwz⟩
    · simp [Value.cells] at hcs
      obtain ⟨rfl, rfl, rfl⟩ := hcs
      exact ⟨[], .inl rfl⟩
    · simp [Value.cells] at hcs
      obtain ⟨rfl, rfl, rfl⟩ := hcs
      have hz1 : zs.length = c2 := by simpa using hz
      exact ⟨zs, reads_of_cells (fun i hi => hcell i (by omega))⟩
  obtain ⟨a3, n3, c3, rfl⟩ := okWide_slice Tryz.underlying22 (hval 3 22 v3 rfl rfl)
  have k3 := h3
  have lt3 : ∀ x ∈ p3, x.block < W.heap.size := by obtain ⟨m, hm⟩ := k3; exact DataW.trod_lt m _ _ _ hm
  obtain ⟨z3, w3⟩ : ∃ zs : List ByteArray, Reads W a3 n3 (strAt fun i => zs.getD i ByteArray.empty) := by
    obtain ⟨fuel, hf⟩ := h3
    rcases open_strings Tryz.underlying22 Tryz.underlying9 (by kernel_rfl) hf with ⟨hcs, _⟩ | ⟨x, l, c, zs, hcs, _, hl, hm, hz, _, hcell, hwz⟩
    · simp [Value.cells] at hcs
      obtain ⟨rfl, rfl, rfl⟩ := hcs
      exact ⟨[], .inl rfl⟩
    · simp [Value.cells] at hcs
      obtain ⟨rfl, rfl, rfl⟩ := hcs
      have hz1 : zs.length = c3 := by simpa using hz
      exact ⟨zs, reads_of_cells (fun i hi => hcell i (by omega))⟩
  clear hA0 hval0
  refine (law3 x0 _ _ _ a1 a2 a3 n1 c1 n2 c2 n3 c3 W w1 w2 w3).mono fun e W' ⟨he, hc⟩ => ?_
  subst he
  have bel : Below W.heap.size W W' := hc.below (Nat.le_refl _) (fun _ _ h => h.elim)
  exact ⟨_, rfl, _, _, _, [], _, _, hW', trodAll_mk1 (shut_bool Tryz.underlying4 _), (trodAll_cons_mk (shut_string Tryz.underlying9 w0) (trodAll_cons_mk (Below.trod laidOut (by kernel_rfl) (of_decide_eq_true (by kernel_rfl)) k1 bel lt1) (trodAll_cons_mk (Below.trod laidOut (by kernel_rfl) (of_decide_eq_true (by kernel_rfl)) k2 bel lt2) (trodAll_cons_mk (Below.trod laidOut (by kernel_rfl) (of_decide_eq_true (by kernel_rfl)) k3 bel lt3) trodAll_mk0)))), rfl, bel.frame _, fun h => by cases h⟩
theorem law_holds : Rows.FnMatchQueryPathToResultAgreesWithModelSaid :=
  OpenClaim.holds_of_wide 3 Tryz.f3 rfl rfl rfl rfl rfl rfl rfl ⟨rfl, rfl, rfl, rfl, rfl⟩ rfl rfl rfl rfl rfl (by kernel_rfl) Tryz.func3 (by kernel_rfl)
    (of_decide_eq_true (by kernel_rfl)) (by unfold Func.isWrapper; first | (rw [if_pos (by decide +kernel)]; kernel_rfl) | (rw [if_neg (by decide +kernel)]; exact ⟨rfl, rfl⟩))
    (fun os started H enc _ => lifted os started H enc)
theorem card_holds : Rows.FnMatchQueryPathToResultAgreesWithModelCardSaid :=
  Claim7.holds_tied_plain_at .later [] [.data, .pinned, .pinned] true (true, "bad02ad4e1ffdb689cfee26db40f356b26d8844abff6f25d5d58dddbc18bf16a") false
    law_holds (fun _ h => by cases h) (by kernel_rfl) (fun _ h => by cases h) fnMatchQueryPathToResultAgreesWithModel_row_tie rfl ⟨rfl, rfl⟩ (by kernel_rfl) rfl
    (fun f fn hf hfn => by
      obtain rfl : f = 3 := Option.some.inj ((show Tryz.prog.funcNamed "github.com/evanw/esbuild/n011_137.FnMatchQueryPathToResultAgreesWithModel" = some 3 by kernel_rfl).symm.trans hf) |>.symm
      obtain rfl : fn = Tryz.f3 := (Option.some.inj (Tryz.func3.symm.trans hfn)).symm
      exact ⟨by kernel_rfl, fun j t ht => by
        rw [Tryz.params3] at ht
        have hm : t ∈ [9, 22, 22, 22] := by simpa using Array.mem_of_getElem? ht
        have hall : ([9, 22, 22, 22].all fun u => !Tryz.prog.wantsStandIn u) = true := by kernel_rfl
        exact (show Tryz.prog.wantsStandIn t = false by simpa using List.all_eq_true.1 hall t hm)⟩)
    (by kernel_rfl)
#print axioms card_holds
end Go.Proofs.YtambbfgmbfamkaaGreatDoor
