/-
  Proved: contract of esmPackageImportsExportsResolve at exact keys, for longer keys. No statement of the seat stands here.
-/
import Derived.Test.YtcbmankbjgbjgaaGreatFmtIex
import Derived.Deep.DeepCutAuto
import Derived.Lib.IndexLaws
import Derived.Lib.Bytealg
namespace Go.Proofs.YtcbmankbjgbjgaaGreatFmt
open Go.RowKit Go.ChangeAt
open Go.Extern.Stop Go.Stop Go.Extern
set_option linter.unusedSimpArgs false
set_option linter.unusedVariables false
set_option maxRecDepth 100000
set_option maxHeartbeats 16000000 in
theorem iex25y (F : Interp) (ma : Option Addr) (n mc : Nat) (ea : Option Addr) (ec : Nat) (f g tt : Nat → ByteArray) (b : Bool) (s : ByteArray) (v5 : Value) (w : World) (hA : F.answers w.tape) (hI : Items w ma n f tt) (htt : ∀ i, i < n → tt i = dotted (g i)) (hg : ∀ i, i < n → File (g i)) (hne : ∀ i, i < n → ¬ Exp (f i)) (hn : n ≤ 1048576) (hs : s.size ≤ 16777216) :
    Calls Tryz.prog 25 #[.agg rq, .string s, .agg (oent ma n mc ea ec), .string ⟨#[47, 112, 107, 103]⟩, .bool b, v5] w (IexOut n f g s w) := by
  have HA := Lib.hid hA
  have HI := Lib.hid hI
  have Hg := Lib.hid hg
  have Htt := Lib.hid htt
  have Hne := Lib.hid hne
  have HF0 := Lib.hid (Fr.start w (oent ma n mc ea ec) (dbg ⟨#[]⟩))
  clear hA hI hg hne htt
  unfold rq oent dbg at HF0
  unfold rq oent
  go_enter Tryz.func25, Tryz.ntmps25
  go_upto_region 1 with fail
  have hF := HF0.out
  generalize hw1 : World.alloc _ _ = w1 at hF ⊢
  clear hw1 HF0
  have q0 := cell_of_heap hF.q 0
  have q1 := cell_of_heap hF.q 1
  have q2 := cell_of_heap hF.q 2
  have q3 := cell_of_heap hF.q 3
  have d0 := cell_of_heap hF.d 0
  have d1 := cell_of_heap hF.d 1
  have d2 := cell_of_heap hF.d 2
  have d3 := cell_of_heap hF.d 3
  have d4 := cell_of_heap hF.d 4
  have d5 := cell_of_heap hF.d 5
  have d6 := cell_of_heap hF.d 6
  have z0 := cell_of_heap hF.z 0
  have z1 := cell_of_heap hF.z 1
  have z2 := cell_of_heap hF.z 2
  have z3 := cell_of_heap hF.z 3
  have z4 := cell_of_heap hF.z 4
  simp [rq, dbg] at q0 q1 q2 q3 d0 d1 d2 d3 d4 d5 d6 z0 z1 z2 z3 z4
  have fz : ∀ j, w1.frozen? ⟨w.heap.size + 1 + 1, j, none⟩ = false := fun j => frozen_of_heap hF.z j
  have l1 := heap_lt hF.q
  have l2 := heap_lt hF.d
  have l3 := heap_lt hF.z
  have HF := Lib.hid hF
  clear hF
  go_wp2_with fail
  refine (Tryz.strings_HasSuffix s ⟨#[47]⟩ w1 (by omega)).mono ?_
  rintro e1 w2 ⟨rfl, rfl⟩
  cases hsuf : Lib.hasSuffix s.data.toList [47]
  · go_wp2_with fail
    refine (Tryz.strings_IndexByte s 42 w2).mono ?_
    rintro e2 w3 ⟨rfl, rfl⟩
    obtain ⟨ix, hix⟩ : ∃ ix, ix = Lib.indexByte s.data.toList 42 := ⟨_, rfl⟩
    have hix2 : Lib.indexByte s.data.toList (Int.toNat 42).toUInt8 = ix := hix.symm
    rw [hix2]
    have Hix := Lib.hid hix
    have Hsuf := Lib.hid hsuf
    clear hix hix2 hsuf
    by_cases hneg : ix < 0
    · go_wp2_with fail
      refine (value28 ma n mc ea ec f tt s w3 (HI.out.keep HF.out.chg) hn).mono ?_
      rintro e4 w4 ⟨hv, hc4⟩
      rcases hv with ⟨i, hi, hfi, hfirst, rfl⟩ | ⟨hmiss, rfl⟩
      · have Hfi := Lib.hid hfi
        have Hfirst := Lib.hid hfirst
        have hF4 := HF.out.keep (hc4.trans ((Chg.refl Nowhere w4).alloc (.cells (sent (tt i)) 59)) (fun _ _ h => h))
        have hl4 : (w4.alloc (.cells (sent (tt i)) 59)).heap.size = w4.heap.size + 1 := by simp
        have ht4 := heap_at w4 (.cells (sent (tt i)) 59) _ rfl
        have lx := heap_lt (HF.out.keep hc4).z
        have hgf := Hg.out i hi
        have Hgf := Lib.hid hgf
        clear hgf hfi hfirst hc4
        unfold sent at hF4 hl4 ht4 ⊢
        clear q0 q1 q2 q3 d0 d1 d2 d3 d4 d5 d6 z0 z1 z2 z3 z4 fz l1 l2 l3
        go_upto_if 53 with fail
        generalize hw5 : World.alloc w4 _ = w5 at hF4 hl4 ht4 ⊢
        clear hw5
        have t0 := cell_of_heap ht4 0
        have t1 := cell_of_heap ht4 1
        have t2 := cell_of_heap ht4 2
        have t3 := cell_of_heap ht4 3
        have t4 := cell_of_heap ht4 4
        have t5 := cell_of_heap ht4 5
        have t6 := cell_of_heap ht4 6
        simp at t0 t1 t2 t3 t4 t5 t6
        clear ht4
        have q04 := cell_of_heap hF4.q 0
        have q14 := cell_of_heap hF4.q 1
        have q24 := cell_of_heap hF4.q 2
        have q34 := cell_of_heap hF4.q 3
        have d04 := cell_of_heap hF4.d 0
        have d14 := cell_of_heap hF4.d 1
        have d24 := cell_of_heap hF4.d 2
        have d34 := cell_of_heap hF4.d 3
        have d44 := cell_of_heap hF4.d 4
        have d54 := cell_of_heap hF4.d 5
        have d64 := cell_of_heap hF4.d 6
        have z04 := cell_of_heap hF4.z 0
        have z14 := cell_of_heap hF4.z 1
        have z24 := cell_of_heap hF4.z 2
        have z34 := cell_of_heap hF4.z 3
        have z44 := cell_of_heap hF4.z 4
        simp [rq, dbg] at q04 q14 q24 q34 d04 d14 d24 d34 d44 d54 d64 z04 z14 z24 z34 z44
        have fz4 : ∀ j, w5.frozen? ⟨w.heap.size + 1 + 1, j, none⟩ = false := fun j => frozen_of_heap hF4.z j
        have l14 := heap_lt hF4.q
        have l24 := heap_lt hF4.d
        have l34 := heap_lt hF4.z
        have HF4 := Lib.hid hF4
        clear hF4
        go_wp2_with fail
        have h29 := tgt29 F (g i) b v5 w5 (by rw [HF4.out.chg.tape]; exact HA.out) Hgf.out
        rw [← Htt.out i hi] at h29
        refine h29.mono ?_
        rintro e6 w6 ⟨⟨r, st, t, ha, rfl⟩, hc6⟩
        have Ha := Lib.hid ha
        have hF6 := HF4.out.keep hc6
        clear q04 q14 q24 q34 d04 d14 d24 d34 d44 d54 d64 z04 z14 z24 z34 z44 fz4 l14 l24 l34
        clear h29 ha hc6 t0 t1 t2 t3 t4 t5 t6
        unfold dbg
        have q06 := cell_of_heap hF6.q 0
        have q16 := cell_of_heap hF6.q 1
        have q26 := cell_of_heap hF6.q 2
        have q36 := cell_of_heap hF6.q 3
        have d06 := cell_of_heap hF6.d 0
        have d16 := cell_of_heap hF6.d 1
        have d26 := cell_of_heap hF6.d 2
        have d36 := cell_of_heap hF6.d 3
        have d46 := cell_of_heap hF6.d 4
        have d56 := cell_of_heap hF6.d 5
        have d66 := cell_of_heap hF6.d 6
        have z06 := cell_of_heap hF6.z 0
        have z16 := cell_of_heap hF6.z 1
        have z26 := cell_of_heap hF6.z 2
        have z36 := cell_of_heap hF6.z 3
        have z46 := cell_of_heap hF6.z 4
        simp [rq, dbg] at q06 q16 q26 q36 d06 d16 d26 d36 d46 d56 d66 z06 z16 z26 z36 z46
        have fz6 : ∀ j, w6.frozen? ⟨w.heap.size + 1 + 1, j, none⟩ = false := fun j => frozen_of_heap hF6.z j
        have l16 := heap_lt hF6.q
        have l26 := heap_lt hF6.d
        have l36 := heap_lt hF6.z
        have HF6 := Lib.hid hF6
        clear hF6
        go_wp2_with fail
        refine bodyPost_ret (v := .tuple #[.string r, .int .u8 st, .agg (dbg t)]) ?_ rfl ⟨.inl ⟨i, hi, Hfi.out, Hfirst.out, r, st, t, Ha.out, rfl⟩, st5_chg HF6.out.chg (by omega) _ _ _ _ _⟩
        exact (results_ttc (t := 12) (u := 13) (p := 14) (ty := 45) (by rfl) _ _ _ (w.heap.size + 1 + 1) _ (by rfl) (load45 (st5_heap HF6.out.z _ _ _ _ _) (by rfl))).trans (by rfl)
      · have Hmiss := Lib.hid hmiss
        have hF4 := HF.out.keep (hc4.trans ((Chg.refl Nowhere w4).alloc (.cells zent 59)) (fun _ _ h => h))
        have hl4 : (w4.alloc (.cells zent 59)).heap.size = w4.heap.size + 1 := by simp
        unfold zent at hF4 hl4 ⊢
        clear q0 q1 q2 q3 d0 d1 d2 d3 d4 d5 d6 z0 z1 z2 z3 z4 fz l1 l2 l3
        go_upto_if 53 with fail
        generalize hw5 : World.alloc w4 _ = w5 at hF4 hl4 ⊢
        clear hw5 hc4 hmiss
        have q04 := cell_of_heap hF4.q 0
        have q14 := cell_of_heap hF4.q 1
        have q24 := cell_of_heap hF4.q 2
        have q34 := cell_of_heap hF4.q 3
        have d04 := cell_of_heap hF4.d 0
        have d14 := cell_of_heap hF4.d 1
        have d24 := cell_of_heap hF4.d 2
        have d34 := cell_of_heap hF4.d 3
        have d44 := cell_of_heap hF4.d 4
        have d54 := cell_of_heap hF4.d 5
        have d64 := cell_of_heap hF4.d 6
        have z04 := cell_of_heap hF4.z 0
        have z14 := cell_of_heap hF4.z 1
        have z24 := cell_of_heap hF4.z 2
        have z34 := cell_of_heap hF4.z 3
        have z44 := cell_of_heap hF4.z 4
        simp [rq, dbg] at q04 q14 q24 q34 d04 d14 d24 d34 d44 d54 d64 z04 z14 z24 z34 z44
        have fz4 : ∀ j, w5.frozen? ⟨w.heap.size + 1 + 1, j, none⟩ = false := fun j => frozen_of_heap hF4.z j
        have l14 := heap_lt hF4.q
        have l24 := heap_lt hF4.d
        have l34 := heap_lt hF4.z
        have HF4 := Lib.hid hF4
        clear hF4
        go_wp2_with fail
        go_loopw [76] (fun i wr => i = .int .i64 0 ∧ Fr w wr #[.string ⟨#[]⟩, .slice none 0 0, .slice ma n mc, .slice ea 0 ec, .int .i32 0, .int .i32 0, .int .u8 3] #[.string ⟨#[]⟩, .slice none 0 0, .int .i32 0, .int .i32 0, .bool false]) (fun _ _ => 0)
        case atStart => exact ⟨rfl, HF4.out⟩
        case round =>
          obtain ⟨rfl, hFr⟩ := hrel
          have q0r := cell_of_heap hFr.q 0
          have q1r := cell_of_heap hFr.q 1
          have q2r := cell_of_heap hFr.q 2
          have q3r := cell_of_heap hFr.q 3
          have d0r := cell_of_heap hFr.d 0
          have d1r := cell_of_heap hFr.d 1
          have d2r := cell_of_heap hFr.d 2
          have d3r := cell_of_heap hFr.d 3
          have d4r := cell_of_heap hFr.d 4
          have d5r := cell_of_heap hFr.d 5
          have d6r := cell_of_heap hFr.d 6
          have z0r := cell_of_heap hFr.z 0
          have z1r := cell_of_heap hFr.z 1
          have z2r := cell_of_heap hFr.z 2
          have z3r := cell_of_heap hFr.z 3
          have z4r := cell_of_heap hFr.z 4
          simp [rq, dbg] at q0r q1r q2r q3r d0r d1r d2r d3r d4r d5r d6r z0r z1r z2r z3r z4r
          have fzr : ∀ j, wr.frozen? ⟨w.heap.size + 1 + 1, j, none⟩ = false := fun j => frozen_of_heap hFr.z j
          have l1r := heap_lt hFr.q
          have l2r := heap_lt hFr.d
          have l3r := heap_lt hFr.z
          have HFr := Lib.hid hFr
          clear hFr
          go_wp2_with fail
          go_region
          go_wp2_with fail
          refine bodyPost_ret (v := .tuple #[.string ⟨#[]⟩, .int .u8 2, .agg (dbg ⟨#[]⟩)]) ?_ rfl ⟨.inr ⟨Hmiss.out, ⟨#[]⟩, rfl⟩, (st5_chg HFr.out.chg (by omega) _ _ _ _ _).drew⟩
          exact (results_ttc (t := 12) (u := 13) (p := 14) (ty := 45) (by rfl) _ _ _ (w.heap.size + 1 + 1) _ (by rfl) (load45 ((congrArg (fun hp : Array Obj => hp[w.heap.size + 1 + 1]?) (drew_heap _)).trans (st5_heap HFr.out.z _ _ _ _ _)) (by rfl))).trans (by rfl)
    · have hneg2 : ¬ ix < 0 := hneg
      have Hmiss : Hid (∀ i, i < n → f i ≠ s) := Lib.hid fun i hi e => Hne.out i hi (by rw [e]; exact .inr (by have := Hix.out; omega))
      go_wp2_with fail
      go_loopw [76] (fun i wr => i = .int .i64 0 ∧ Fr w wr #[.string ⟨#[]⟩, .slice none 0 0, .slice ma n mc, .slice ea 0 ec, .int .i32 0, .int .i32 0, .int .u8 3] #[.string ⟨#[]⟩, .slice none 0 0, .int .i32 0, .int .i32 0, .bool false]) (fun _ _ => 0)
      case atStart => exact ⟨rfl, HF.out⟩
      case round =>
        obtain ⟨rfl, hFr⟩ := hrel
        have q0r := cell_of_heap hFr.q 0
        have q1r := cell_of_heap hFr.q 1
        have q2r := cell_of_heap hFr.q 2
        have q3r := cell_of_heap hFr.q 3
        have d0r := cell_of_heap hFr.d 0
        have d1r := cell_of_heap hFr.d 1
        have d2r := cell_of_heap hFr.d 2
        have d3r := cell_of_heap hFr.d 3
        have d4r := cell_of_heap hFr.d 4
        have d5r := cell_of_heap hFr.d 5
        have d6r := cell_of_heap hFr.d 6
        have z0r := cell_of_heap hFr.z 0
        have z1r := cell_of_heap hFr.z 1
        have z2r := cell_of_heap hFr.z 2
        have z3r := cell_of_heap hFr.z 3
        have z4r := cell_of_heap hFr.z 4
        simp [rq, dbg] at q0r q1r q2r q3r d0r d1r d2r d3r d4r d5r d6r z0r z1r z2r z3r z4r
        have fzr : ∀ j, wr.frozen? ⟨w.heap.size + 1 + 1, j, none⟩ = false := fun j => frozen_of_heap hFr.z j
        have l1r := heap_lt hFr.q
        have l2r := heap_lt hFr.d
        have l3r := heap_lt hFr.z
        have HFr := Lib.hid hFr
        clear hFr
        go_wp2_with fail
        go_region
        go_wp2_with fail
        refine bodyPost_ret (v := .tuple #[.string ⟨#[]⟩, .int .u8 2, .agg (dbg ⟨#[]⟩)]) ?_ rfl ⟨.inr ⟨Hmiss.out, ⟨#[]⟩, rfl⟩, (st5_chg HFr.out.chg (by omega) _ _ _ _ _).drew⟩
        exact (results_ttc (t := 12) (u := 13) (p := 14) (ty := 45) (by rfl) _ _ _ (w.heap.size + 1 + 1) _ (by rfl) (load45 ((congrArg (fun hp : Array Obj => hp[w.heap.size + 1 + 1]?) (drew_heap _)).trans (st5_heap HFr.out.z _ _ _ _ _)) (by rfl))).trans (by rfl)
  · have Hmiss : Hid (∀ i, i < n → f i ≠ s) := Lib.hid fun i hi e => Hne.out i hi (by rw [e]; exact .inl hsuf)
    clear hsuf
    go_wp2_with fail
    go_loopw [76] (fun i wr => i = .int .i64 0 ∧ Fr w wr #[.string ⟨#[]⟩, .slice none 0 0, .slice ma n mc, .slice ea 0 ec, .int .i32 0, .int .i32 0, .int .u8 3] #[.string ⟨#[]⟩, .slice none 0 0, .int .i32 0, .int .i32 0, .bool false]) (fun _ _ => 0)
    case atStart => exact ⟨rfl, HF.out⟩
    case round =>
      obtain ⟨rfl, hFr⟩ := hrel
      have q0r := cell_of_heap hFr.q 0
      have q1r := cell_of_heap hFr.q 1
      have q2r := cell_of_heap hFr.q 2
      have q3r := cell_of_heap hFr.q 3
      have d0r := cell_of_heap hFr.d 0
      have d1r := cell_of_heap hFr.d 1
      have d2r := cell_of_heap hFr.d 2
      have d3r := cell_of_heap hFr.d 3
      have d4r := cell_of_heap hFr.d 4
      have d5r := cell_of_heap hFr.d 5
      have d6r := cell_of_heap hFr.d 6
      have z0r := cell_of_heap hFr.z 0
      have z1r := cell_of_heap hFr.z 1
      have z2r := cell_of_heap hFr.z 2
      have z3r := cell_of_heap hFr.z 3
      have z4r := cell_of_heap hFr.z 4
      simp [rq, dbg] at q0r q1r q2r q3r d0r d1r d2r d3r d4r d5r d6r z0r z1r z2r z3r z4r
      have fzr : ∀ j, wr.frozen? ⟨w.heap.size + 1 + 1, j, none⟩ = false := fun j => frozen_of_heap hFr.z j
      have l1r := heap_lt hFr.q
      have l2r := heap_lt hFr.d
      have l3r := heap_lt hFr.z
      have HFr := Lib.hid hFr
      clear hFr
      go_wp2_with fail
      go_region
      go_wp2_with fail
      refine bodyPost_ret (v := .tuple #[.string ⟨#[]⟩, .int .u8 2, .agg (dbg ⟨#[]⟩)]) ?_ rfl ⟨.inr ⟨Hmiss.out, ⟨#[]⟩, rfl⟩, (st5_chg HFr.out.chg (by omega) _ _ _ _ _).drew⟩
      exact (results_ttc (t := 12) (u := 13) (p := 14) (ty := 45) (by rfl) _ _ _ (w.heap.size + 1 + 1) _ (by rfl) (load45 ((congrArg (fun hp : Array Obj => hp[w.heap.size + 1 + 1]?) (drew_heap _)).trans (st5_heap HFr.out.z _ _ _ _ _)) (by rfl))).trans (by rfl)
end Go.Proofs.YtcbmankbjgbjgaaGreatFmt
