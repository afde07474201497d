/-
  Proved: contracts of esmPackageImportsResolve, of the entry's building and of ZZimportsResolve. No statement of the seat stands here.
-/
import Derived.Test.YtmmpajfajfkpcaaGreatFmtRes2
namespace Go.Proofs.YtmmpajfajfkpcaaGreatFmt
open Go.RowKit Go.ChangeAt
set_option linter.unusedSimpArgs false
set_option linter.unusedVariables false
set_option maxRecDepth 100000
def Out13 (s : ByteArray) (kd x y : Int) (w : World) (e : Ending) (w' : World) : Prop := e = .returned (.tuple #[.string (if kd = 3 then s else ⟨#[]⟩), .int .u8 (if kd = 3 then 11 else 8), .agg (dbg x y)]) ∧ Chg Nowhere w w'
set_option maxHeartbeats 16000000 in
theorem resolve13 (ma : Option Addr) (n mc : Nat) (f : Nat → ByteArray) (x y kd : Int) (s : ByteArray) (v5 : Value) (w : World) (hI : Items w ma n f) (hne : kd = 3 → Exp s ∨ ∀ i, i < n → f i ≠ s) (hn : n ≤ 1048576) (hs : s.size ≤ 1048576) :
    Calls Tryz.prog 13 #[.agg rq, .string s, .agg (ent ma n mc x y kd), v5] w (Out13 s kd x y w) := by
  have HI := Lib.hid hI
  have Hne := Lib.hid hne
  have HF0 := Lib.hid (Fr15.start w (ent ma n mc x y kd) (dbg 0 0))
  clear hI hne
  unfold rq ent dbg at HF0
  unfold rq ent
  go_enter Tryz.func13, Tryz.ntmps13
  go_upto_region 1 with fail
  have hF := HF0.out
  generalize hw1 : World.alloc _ _ = w1 at hF ⊢
  clear hw1 HF0
  have q2 := cell_of_heap hF.q 2
  have q0 := cell_of_heap hF.q 0
  have q1 := cell_of_heap hF.q 1
  have q3 := cell_of_heap hF.q 3
  have d0 := cell_of_heap hF.d 0
  have d1 := cell_of_heap hF.d 1
  have d2 := cell_of_heap hF.d 2
  have d3 := cell_of_heap hF.d 3
  have d4 := cell_of_heap hF.d 4
  have d5 := cell_of_heap hF.d 5
  have d6 := cell_of_heap hF.d 6
  have z0 := cell_of_heap hF.z 0
  have z1 := cell_of_heap hF.z 1
  have z2 := cell_of_heap hF.z 2
  have z3 := cell_of_heap hF.z 3
  have z4 := cell_of_heap hF.z 4
  simp [rq] at q0 q1 q2 q3 d0 d1 d2 d3 d4 d5 d6 z0 z1 z2 z3 z4
  have fz : ∀ j, w1.frozen? ⟨w.heap.size + 1 + 1, j, none⟩ = false := fun j => frozen_of_heap hF.z j
  have l1 := heap_lt hF.q
  have l2 := heap_lt hF.d
  have l3 := heap_lt hF.z
  have HF := Lib.hid hF
  clear hF
  by_cases h3 : kd = 3
  · have e3 : (kd != 3) = false := by simp [h3]
    have H3 := Lib.hid h3
    clear h3
    go_wp2_with fail
    refine (resolve15 ma n mc f x y kd s v5 w1 (HI.out.keep HF.out.chg) (Hne.out H3.out) hn hs).mono ?_
    rintro e4 w4 ⟨rfl, hc4⟩
    have hF4 := HF.out.keep (hc4.trans ((Chg.refl Nowhere w4).alloc (.cells (dbg x y) 47)) (fun _ _ h => h))
    have hl4 : (w4.alloc (.cells (dbg x y) 47)).heap.size = w4.heap.size + 1 := by simp
    have ht4 := heap_at w4 (.cells (dbg x y) 47) _ rfl
    unfold dbg at hF4 hl4 ht4 ⊢
    go_upto_region 4 with fail
    generalize hw5 : World.alloc w4 _ = w5 at hF4 hl4 ht4 ⊢
    clear hw5 hc4 ht4
    have q2b := cell_of_heap hF4.q 2
    have q0b := cell_of_heap hF4.q 0
    have q1b := cell_of_heap hF4.q 1
    have q3b := cell_of_heap hF4.q 3
    have d0b := cell_of_heap hF4.d 0
    have d1b := cell_of_heap hF4.d 1
    have d2b := cell_of_heap hF4.d 2
    have d3b := cell_of_heap hF4.d 3
    have d4b := cell_of_heap hF4.d 4
    have d5b := cell_of_heap hF4.d 5
    have d6b := cell_of_heap hF4.d 6
    have z0b := cell_of_heap hF4.z 0
    have z1b := cell_of_heap hF4.z 1
    have z2b := cell_of_heap hF4.z 2
    have z3b := cell_of_heap hF4.z 3
    have z4b := cell_of_heap hF4.z 4
    simp [rq] at q0b q1b q2b q3b d0b d1b d2b d3b d4b d5b d6b z0b z1b z2b z3b z4b
    have fzb : ∀ j, w5.frozen? ⟨w.heap.size + 1 + 1, j, none⟩ = false := fun j => frozen_of_heap hF4.z j
    have l1b := heap_lt hF4.q
    have l2b := heap_lt hF4.d
    have l3b := heap_lt hF4.z
    have HF5 := Lib.hid hF4
    clear hF4
    go_wp2_with fail
    go_region
    go_wp2_with fail
    refine bodyPost_ret (v := .tuple #[.string s, .int .u8 11, .agg #[.string ⟨#[]⟩, .slice none 0 0, .int .i32 x, .int .i32 y, .bool false]]) ?_ rfl ⟨by rw [if_pos H3.out, if_pos H3.out]; rfl, (st5_chg HF5.out.chg (by omega) _ _ _ _ _).drew⟩
    exact (results_ttc (t := 8) (u := 9) (p := 10) (ty := 47) (by rfl) _ _ _ (w.heap.size + 1 + 1) _ (by rfl) (load47 ((congrArg (fun hp : Array Obj => hp[w.heap.size + 1 + 1]?) (drew_heap _)).trans (st5_heap HF5.out.z _ _ _ _ _)) (by rfl))).trans (by rfl)
  · have e3 : (kd != 3) = true := by simpa using h3
    have H3 := Lib.hid h3
    clear h3
    go_wp2_with fail
    go_region
    go_wp2_with fail
    refine bodyPost_ret (v := .tuple #[.string ⟨#[]⟩, .int .u8 8, .agg #[.string ⟨#[]⟩, .slice none 0 0, .int .i32 x, .int .i32 y, .bool false]]) ?_ rfl ⟨by rw [if_neg H3.out, if_neg H3.out]; rfl, (st5_chg HF.out.chg (by omega) _ _ _ _ _).drew⟩
    exact (results_ttc (t := 8) (u := 9) (p := 10) (ty := 47) (by rfl) _ _ _ (w.heap.size + 1 + 1) _ (by rfl) (load47 ((congrArg (fun hp : Array Obj => hp[w.heap.size + 1 + 1]?) (drew_heap _)).trans (st5_heap HF.out.z _ _ _ _ _)) (by rfl))).trans (by rfl)
end Go.Proofs.YtmmpajfajfkpcaaGreatFmt
