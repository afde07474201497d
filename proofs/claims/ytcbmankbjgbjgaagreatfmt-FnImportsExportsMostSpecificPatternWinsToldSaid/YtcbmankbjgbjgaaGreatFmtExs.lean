/-
  Proved: contract of esmPackageExportsResolve at a string. No statement of the seat stands here.
-/
import Derived.Test.YtcbmankbjgbjgaaGreatFmtObj
import Derived.Deep.DeepCutAuto
namespace Go.Proofs.YtcbmankbjgbjgaaGreatFmt
open Go.RowKit Go.ChangeAt
open Go.Extern.Stop Go.Stop Go.Extern
set_option linter.unusedSimpArgs false
set_option linter.unusedVariables false
set_option maxRecDepth 100000
def MainOut (g s : ByteArray) (w : World) (e : Ending) (w' : World) : Prop :=
  (∃ r st t, (s = ⟨#[46]⟩ → Ans g r st) ∧ (s ≠ ⟨#[46]⟩ → r = ⟨#[]⟩ ∧ st = 10) ∧ e = .returned (.tuple #[.string r, .int .u8 st, .agg (dbg t)])) ∧ Chg Nowhere w w'
set_option maxHeartbeats 16000000 in
theorem str22 (F : Interp) (g t s : ByteArray) (v4 : Value) (w : World) (hA : F.answers w.tape) (hg : File g) (ht : t = dotted g) :
    Calls Tryz.prog 22 #[.agg rq, .string ⟨#[47, 112, 107, 103]⟩, .string s, .agg (sent t), v4] w (MainOut g s w) := by
  have HA := Lib.hid hA
  have Hg := Lib.hid hg
  have Ht := Lib.hid ht
  clear hA hg ht
  have HF0 := Lib.hid (Fr.start w (sent t) (dbg ⟨#[]⟩))
  unfold rq sent dbg at HF0
  unfold rq sent
  go_enter Tryz.func22, Tryz.ntmps22
  go_upto_region 1 with fail
  have hF := HF0.out
  generalize hw1 : World.alloc _ _ = w1 at hF ⊢
  clear hw1 HF0
  have q0 := cell_of_heap hF.q 0
  have q1 := cell_of_heap hF.q 1
  have q2 := cell_of_heap hF.q 2
  have q3 := cell_of_heap hF.q 3
  have d0 := cell_of_heap hF.d 0
  have d1 := cell_of_heap hF.d 1
  have d2 := cell_of_heap hF.d 2
  have d3 := cell_of_heap hF.d 3
  have d4 := cell_of_heap hF.d 4
  have d5 := cell_of_heap hF.d 5
  have d6 := cell_of_heap hF.d 6
  have z0 := cell_of_heap hF.z 0
  have z1 := cell_of_heap hF.z 1
  have z2 := cell_of_heap hF.z 2
  have z3 := cell_of_heap hF.z 3
  have z4 := cell_of_heap hF.z 4
  simp [rq, dbg, sent, oent] at q0 q1 q2 q3 d0 d1 d2 d3 d4 d5 d6 z0 z1 z2 z3 z4
  have fz : ∀ j, w1.frozen? ⟨w.heap.size + 1 + 1, j, none⟩ = false := fun j => frozen_of_heap hF.z j
  have l1 := heap_lt hF.q
  have l2 := heap_lt hF.d
  have l3 := heap_lt hF.z
  have HF := Lib.hid hF
  clear hF
  by_cases hs : s = ⟨#[46]⟩
  · have e0 := lit_eq hs
    have Hs := Lib.hid hs
    clear hs
    go_wp2_with fail
    have h29 := tgt29 F g false v4 ((w1.alloc (.cells #[.string ⟨#[]⟩, .slice none 0 0, .int .i32 0, .int .i32 0, .bool false] 45)).alloc (.cells #[.string t, .slice none 0 0, .slice none 0 0, .slice none 0 0, .int .i32 0, .int .i32 0, .int .u8 1] 59)) (by show F.answers w1.tape; rw [HF.out.chg.tape]; exact HA.out) Hg.out
    rw [← Ht.out] at h29
    refine h29.mono ?_
    rintro e6 w6 ⟨⟨r, st, t2, ha, rfl⟩, hc6⟩
    have Ha := Lib.hid ha
    have hst : st = 9 ∨ st = 3 := by
      by_cases hb : Bad g
      · exact .inl (ha.1 hb).2
      · exact .inr (ha.2 hb).2
    have hF6 := HF.out.keep (((Chg.refl Nowhere w1).alloc _).alloc _ |>.trans hc6 (fun _ _ h => h))
    clear q0 q1 q2 q3 d0 d1 d2 d3 d4 d5 d6 z0 z1 z2 z3 z4 fz l1 l2 l3
    clear h29 ha hc6
    unfold dbg
    have q06 := cell_of_heap hF6.q 0
    have q16 := cell_of_heap hF6.q 1
    have q26 := cell_of_heap hF6.q 2
    have q36 := cell_of_heap hF6.q 3
    have d06 := cell_of_heap hF6.d 0
    have d16 := cell_of_heap hF6.d 1
    have d26 := cell_of_heap hF6.d 2
    have d36 := cell_of_heap hF6.d 3
    have d46 := cell_of_heap hF6.d 4
    have d56 := cell_of_heap hF6.d 5
    have d66 := cell_of_heap hF6.d 6
    have z06 := cell_of_heap hF6.z 0
    have z16 := cell_of_heap hF6.z 1
    have z26 := cell_of_heap hF6.z 2
    have z36 := cell_of_heap hF6.z 3
    have z46 := cell_of_heap hF6.z 4
    simp [rq, dbg, sent, oent] at q06 q16 q26 q36 d06 d16 d26 d36 d46 d56 d66 z06 z16 z26 z36 z46
    have fz6 : ∀ j, w6.frozen? ⟨w.heap.size + 1 + 1, j, none⟩ = false := fun j => frozen_of_heap hF6.z j
    have l16 := heap_lt hF6.q
    have l26 := heap_lt hF6.d
    have l36 := heap_lt hF6.z
    have HF6 := Lib.hid hF6
    clear hF6
    rcases hst with rfl | rfl
    all_goals (
      go_wp2_with fail
      go_region
      go_wp2_with fail
      refine bodyPost_ret (v := .tuple #[.string r, .int .u8 _, .agg (dbg t2)]) ?_ rfl ⟨⟨r, _, t2, fun _ => Ha.out, fun h => absurd Hs.out h, rfl⟩, ((st5_chg HF6.out.chg (by omega) _ _ _ _ _).alloc _).drew⟩
      exact (results_ttc (t := 10) (u := 11) (p := 12) (ty := 45) (by rfl) _ _ _ (w.heap.size + 1 + 1) _ (by rfl) (load45 ((congrArg (fun hp : Array Obj => hp[w.heap.size + 1 + 1]?) (drew_heap _)).trans (heap_keep (st5_heap HF6.out.z _ _ _ _ _) _)) (by rfl))).trans (by rfl))
  · have e0 := lit_ne hs
    have Hs := Lib.hid hs
    clear hs
    go_wp2_with fail
    go_region
    go_wp2_with fail
    refine bodyPost_ret (v := .tuple #[.string ⟨#[]⟩, .int .u8 10, .agg (dbg ⟨#[]⟩)]) ?_ rfl ⟨⟨_, _, ⟨#[]⟩, fun h => absurd h Hs.out, fun _ => ⟨rfl, rfl⟩, rfl⟩, ((st5_chg HF.out.chg (by omega) _ _ _ _ _).alloc _).drew⟩
    exact (results_ttc (t := 10) (u := 11) (p := 12) (ty := 45) (by rfl) _ _ _ (w.heap.size + 1 + 1) _ (by rfl) (load45 ((congrArg (fun hp : Array Obj => hp[w.heap.size + 1 + 1]?) (drew_heap _)).trans (heap_keep (st5_heap HF.out.z _ _ _ _ _) _)) (by rfl))).trans (by rfl)
end Go.Proofs.YtcbmankbjgbjgaaGreatFmt
