/-
  Proved: contract of esmPackageTargetResolve at a forbidden file. No statement of the seat stands here.
-/
import Derived.Test.YtcbmankbjgbjgaaGreatFmtSpr
namespace Go.Proofs.YtcbmankbjgbjgaaGreatFmt
open Go.RowKit Go.ChangeAt
open Go.Extern.Stop Go.Stop Go.Extern
set_option linter.unusedSimpArgs false
set_option linter.unusedVariables false
set_option maxRecDepth 100000
set_option maxHeartbeats 16000000 in
theorem tgt_bad (F : Interp) (f t : ByteArray) (b : Bool) (v6 : Value) (w : World) (hA : F.answers w.tape) (hs : NoSep f) (hne : f ≠ ⟨#[]⟩) (hb : Bad f) (hsz : f.size ≤ 1048576) (ht : t = dotted f) :
    Calls Tryz.prog 29 #[.agg rq, .string ⟨#[47, 112, 107, 103]⟩, .agg (sent t), .string ⟨#[]⟩, .bool false, .bool b, v6] w (TgtOut t 9 w) := by
  have HF0 := Lib.hid (Fr.start w (sent t) (dbg ⟨#[]⟩))
  have Hs := Lib.hid hs
  have Hne := Lib.hid hne
  have Hb := Lib.hid hb
  have Ht := Lib.hid ht
  have HA := Lib.hid hA
  clear hs hne hb ht hA
  unfold rq sent dbg at HF0
  unfold rq sent
  go_enter Tryz.func29, Tryz.ntmps29
  go_upto_region 1 with fail
  have hF := HF0.out
  generalize hw1 : World.alloc _ _ = w1 at hF ⊢
  clear hw1 HF0
  have q2 := cell_of_heap hF.q 2
  have d0 := cell_of_heap hF.d 0
  have d1 := cell_of_heap hF.d 1
  have d2 := cell_of_heap hF.d 2
  have d3 := cell_of_heap hF.d 3
  have d4 := cell_of_heap hF.d 4
  have d5 := cell_of_heap hF.d 5
  have d6 := cell_of_heap hF.d 6
  have z0 := cell_of_heap hF.z 0
  have z1 := cell_of_heap hF.z 1
  have z2 := cell_of_heap hF.z 2
  have z3 := cell_of_heap hF.z 3
  have z4 := cell_of_heap hF.z 4
  simp [rq] at q2 d0 d1 d2 d3 d4 d5 d6 z0 z1 z2 z3 z4
  have fz : ∀ j, w1.frozen? ⟨w.heap.size + 1 + 1, j, none⟩ = false := fun j => frozen_of_heap hF.z j
  have l1 := heap_lt hF.q
  have l2 := heap_lt hF.d
  have l3 := heap_lt hF.z
  have HF := Lib.hid hF
  clear hF
  go_wp2_with fail
  refine (Tryz.strings_HasPrefix t ⟨#[46, 47]⟩ w1).mono ?_
  rintro e1 w2 ⟨rfl, rfl⟩
  have hpre : Lib.hasPrefix t.data.toList [46, 47] = true := by rw [Ht.out]; exact pre_dot f
  rw [hpre]
  clear hpre
  go_wp2_with fail
  refine (find38_dot t f f w2 Ht.out Hs.out (fun _ => rfl) (fun h => absurd Hb.out h)).mono ?_
  rintro e3 w3 ⟨rfl, hc3⟩
  have hF3 := HF.out.keep hc3
  clear q2 d0 d1 d2 d3 d4 d5 d6 z0 z1 z2 z3 z4 fz l1 l2 l3
  clear hc3
  have q23 := cell_of_heap hF3.q 2
  have d03 := cell_of_heap hF3.d 0
  have d13 := cell_of_heap hF3.d 1
  have d23 := cell_of_heap hF3.d 2
  have d33 := cell_of_heap hF3.d 3
  have d43 := cell_of_heap hF3.d 4
  have d53 := cell_of_heap hF3.d 5
  have d63 := cell_of_heap hF3.d 6
  have z03 := cell_of_heap hF3.z 0
  have z13 := cell_of_heap hF3.z 1
  have z23 := cell_of_heap hF3.z 2
  have z33 := cell_of_heap hF3.z 3
  have z43 := cell_of_heap hF3.z 4
  simp [rq] at q23 d03 d13 d23 d33 d43 d53 d63 z03 z13 z23 z33 z43
  have fz3 : ∀ j, w3.frozen? ⟨w.heap.size + 1 + 1, j, none⟩ = false := fun j => frozen_of_heap hF3.z j
  have l13 := heap_lt hF3.q
  have l23 := heap_lt hF3.d
  have l33 := heap_lt hF3.z
  have HF3 := Lib.hid hF3
  clear hF3
  have e0 : (f.toList == []) = false := lit_ne Hne.out
  go_wp2_with fail
  have c30 : (callFunc 30 #[.string ⟨#[32, 98, 101, 99, 97, 117, 115, 101, 32, 105, 116, 32, 99, 111, 110, 116, 97, 105, 110, 115, 32, 105, 110, 118, 97, 108, 105, 100, 32, 115, 101, 103, 109, 101, 110, 116, 32, 37, 113]⟩, .slice (some ⟨w3.heap.size, 0, none⟩) 1 1]).run Tryz.prog (w3.alloc (.cells #[.iface 9 (.string f)] 20)).drew = .ok (.value (.string (segText F f))) (w3.alloc (.cells #[.iface 9 (.string f)] 20)).drew.drew :=
    spr30 F f _ _ (by show F.answers w3.tape; rw [HF3.out.chg.tape]; exact HA.out) (cell_of_heap (heap_at w3 _ _ rfl) 0)
  generalize hT : segText F f = T at c30
  clear hT
  go_region
  go_wp2_with fail
  refine bodyPost_ret (v := .tuple #[.string t, .int .u8 9, .agg (dbg T)]) ?_ rfl ⟨⟨_, rfl⟩, ((st5_chg HF3.out.chg (by omega) _ _ _ _ _).alloc _).drew.drew⟩
  exact (results_ttc (t := 14) (u := 15) (p := 16) (ty := 45) (by rfl) _ _ _ (w.heap.size + 1 + 1) _ (by rfl) (load45 ((congrArg (fun hp : Array Obj => hp[w.heap.size + 1 + 1]?) ((drew_heap _).trans (drew_heap _))).trans (heap_keep (st5_heap HF3.out.z _ _ _ _ _) _)) (by rfl))).trans (by rfl)
end Go.Proofs.YtcbmankbjgbjgaaGreatFmt
