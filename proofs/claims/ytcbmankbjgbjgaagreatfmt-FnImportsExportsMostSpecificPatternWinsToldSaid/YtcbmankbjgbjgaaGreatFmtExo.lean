/-
  Proved: contract of esmPackageExportsResolve at an object of the one key ".". No statement of the seat stands here.
-/
import Derived.Test.YtcbmankbjgbjgaaGreatFmtExs
namespace Go.Proofs.YtcbmankbjgbjgaaGreatFmt
open Go.RowKit Go.ChangeAt
open Go.Extern.Stop Go.Stop Go.Extern
set_option linter.unusedSimpArgs false
set_option linter.unusedVariables false
set_option maxRecDepth 100000
theorem dot_not_exp : ¬ Exp ⟨#[46]⟩ := by
  refine not_exp _ (fun j hj => ?_) (fun L hL => ?_)
  · have : j < 1 := hj
    obtain rfl : j = 0 := by omega
    decide
  · have : 1 = L + 1 := hL
    obtain rfl : L = 0 := by omega
    decide
theorem st5_self {wr : World} {b : Nat} (a0 a1 a2 a3 a4 : Value) : Chg (fun k => k = b) wr (st5 wr b a0 a1 a2 a3 a4) := by
  unfold st5
  exact ((((((Chg.refl (fun k => k = b) wr).setCell (p := ⟨b, 0, none⟩) (fun _ => rfl) a0).setCell (p := ⟨b, 1, none⟩) (fun _ => rfl) a1).setCell (p := ⟨b, 2, none⟩) (fun _ => rfl) a2).setCell (p := ⟨b, 3, none⟩) (fun _ => rfl) a3).setCell (p := ⟨b, 4, none⟩) (fun _ => rfl) a4)
theorem Fr.keep1 {w wr w' : World} {en z : Array Value} {b : Nat} (h : Fr w wr en z) (hc : Chg (fun k => k = b) wr w') (hb : w.heap.size + 1 + 1 < b) : Fr w w' en z :=
  ⟨hc.heap h.q (fun h => by omega), hc.heap h.d (fun h => by omega), hc.heap h.z (fun h => by omega), h.chg.trans hc (fun j hj h => by omega)⟩
set_option maxHeartbeats 16000000 in
theorem obj22 (F : Interp) (ma : Option Addr) (mc : Nat) (ea : Option Addr) (ec : Nat) (f tt : Nat → ByteArray) (g s : ByteArray) (v4 : Value) (w : World) (hA : F.answers w.tape) (hg : File g) (hI : Items w ma 1 f tt) (hf : f 0 = ⟨#[46]⟩) (ht : tt 0 = dotted g) (hs : s.size ≤ 1048576) :
    Calls Tryz.prog 22 #[.agg rq, .string ⟨#[47, 112, 107, 103]⟩, .string s, .agg (oent ma 1 mc ea ec), v4] w (MainOut g s w) := by
  have HA := Lib.hid hA
  have Hg := Lib.hid hg
  have Ht := Lib.hid ht
  have Hf := Lib.hid hf
  have HI := Lib.hid hI
  clear hA hg ht hf hI
  have HF0 := Lib.hid (Fr.start w (oent ma 1 mc ea ec) (dbg ⟨#[]⟩))
  unfold rq oent dbg at HF0
  unfold rq oent
  go_enter Tryz.func22, Tryz.ntmps22
  go_upto_region 1 with fail
  have hF := HF0.out
  generalize hw1 : World.alloc _ _ = w1 at hF ⊢
  clear hw1 HF0
  have q0 := cell_of_heap hF.q 0
  have q1 := cell_of_heap hF.q 1
  have q2 := cell_of_heap hF.q 2
  have q3 := cell_of_heap hF.q 3
  have d0 := cell_of_heap hF.d 0
  have d1 := cell_of_heap hF.d 1
  have d2 := cell_of_heap hF.d 2
  have d3 := cell_of_heap hF.d 3
  have d4 := cell_of_heap hF.d 4
  have d5 := cell_of_heap hF.d 5
  have d6 := cell_of_heap hF.d 6
  have z0 := cell_of_heap hF.z 0
  have z1 := cell_of_heap hF.z 1
  have z2 := cell_of_heap hF.z 2
  have z3 := cell_of_heap hF.z 3
  have z4 := cell_of_heap hF.z 4
  simp [rq, dbg, sent, oent] at q0 q1 q2 q3 d0 d1 d2 d3 d4 d5 d6 z0 z1 z2 z3 z4
  have fz : ∀ j, w1.frozen? ⟨w.heap.size + 1 + 1, j, none⟩ = false := fun j => frozen_of_heap hF.z j
  have l1 := heap_lt hF.q
  have l2 := heap_lt hF.d
  have l3 := heap_lt hF.z
  have HF := Lib.hid hF
  clear hF
  by_cases hs : s = ⟨#[46]⟩
  · have e0 := lit_eq hs
    have Hs := Lib.hid hs
    clear hs
    go_upto_region 8 with fail
    have hw2 : Chg Nowhere w1 ((w1.alloc (.cells (dbg ⟨#[]⟩) 45)).alloc (.cells zent 59)) := ((Chg.refl _ w1).alloc _).alloc _
    have hd := heap_keep (heap_at w1 (.cells (dbg ⟨#[]⟩) 45) _ rfl) (.cells zent 59)
    have he := heap_at (w1.alloc (.cells (dbg ⟨#[]⟩) 45)) (.cells zent 59) (w1.heap.size + 1) (by simp)
    unfold dbg zent at hw2 hd he
    generalize hww : World.alloc (World.alloc w1 _) _ = w2 at hw2 hd he ⊢
    clear hww
    have Hd := Lib.hid hd
    have He := Lib.hid he
    clear hd he
    have hF2 := HF.out.keep hw2
    have hd2 := Hd.out
    have he2 := He.out
    clear q0 q1 q2 q3 d0 d1 d2 d3 d4 d5 d6 z0 z1 z2 z3 z4 fz l1 l2 l3
    have q02 := cell_of_heap hF2.q 0
    have q12 := cell_of_heap hF2.q 1
    have q22 := cell_of_heap hF2.q 2
    have q32 := cell_of_heap hF2.q 3
    have d02 := cell_of_heap hF2.d 0
    have d12 := cell_of_heap hF2.d 1
    have d22 := cell_of_heap hF2.d 2
    have d32 := cell_of_heap hF2.d 3
    have d42 := cell_of_heap hF2.d 4
    have d52 := cell_of_heap hF2.d 5
    have d62 := cell_of_heap hF2.d 6
    have z02 := cell_of_heap hF2.z 0
    have z12 := cell_of_heap hF2.z 1
    have z22 := cell_of_heap hF2.z 2
    have z32 := cell_of_heap hF2.z 3
    have z42 := cell_of_heap hF2.z 4
    simp [rq, dbg, sent, oent] at q02 q12 q22 q32 d02 d12 d22 d32 d42 d52 d62 z02 z12 z22 z32 z42
    have fz2 : ∀ j, w2.frozen? ⟨w.heap.size + 1 + 1, j, none⟩ = false := fun j => frozen_of_heap hF2.z j
    have l12 := heap_lt hF2.q
    have l22 := heap_lt hF2.d
    have l32 := heap_lt hF2.z
    have HF2 := Lib.hid hF2
    clear hF2
    have u02 := cell_of_heap hd2 0
    have u12 := cell_of_heap hd2 1
    have u22 := cell_of_heap hd2 2
    have u32 := cell_of_heap hd2 3
    have u42 := cell_of_heap hd2 4
    simp [zent, dbg, sent] at u02 u12 u22 u32 u42
    have fu2 : ∀ j, w2.frozen? ⟨w1.heap.size, j, none⟩ = false := fun j => frozen_of_heap hd2 j
    have ld2 := heap_lt hd2
    have Hd2 := Lib.hid hd2
    clear hd2
    have v02 := cell_of_heap he2 0
    have v12 := cell_of_heap he2 1
    have v22 := cell_of_heap he2 2
    have v32 := cell_of_heap he2 3
    have v42 := cell_of_heap he2 4
    have v52 := cell_of_heap he2 5
    have v62 := cell_of_heap he2 6
    simp [zent, dbg, sent] at v02 v12 v22 v32 v42 v52 v62
    have fv2 : ∀ j, w2.frozen? ⟨w1.heap.size + 1, j, none⟩ = false := fun j => frozen_of_heap he2 j
    have le2 := heap_lt he2
    have He2 := Lib.hid he2
    clear he2
    go_wp2_with fail
    refine (dot27 ma 1 mc ea ec f tt true w2 (HI.out.keep HF2.out.chg) (by decide) (fun _ => by rw [Hf.out]; rfl) (fun h => by cases h)).mono ?_
    rintro e3 w3 ⟨rfl, hc3⟩
    have hF3 := HF2.out.keep hc3
    have hd3 := (hc3 : Chg Nowhere _ _).heap Hd2.out (fun h => h)
    have he3 := (hc3 : Chg Nowhere _ _).heap He2.out (fun h => h)
    clear q02 q12 q22 q32 d02 d12 d22 d32 d42 d52 d62 z02 z12 z22 z32 z42 fz2 l12 l22 l32
    have q03 := cell_of_heap hF3.q 0
    have q13 := cell_of_heap hF3.q 1
    have q23 := cell_of_heap hF3.q 2
    have q33 := cell_of_heap hF3.q 3
    have d03 := cell_of_heap hF3.d 0
    have d13 := cell_of_heap hF3.d 1
    have d23 := cell_of_heap hF3.d 2
    have d33 := cell_of_heap hF3.d 3
    have d43 := cell_of_heap hF3.d 4
    have d53 := cell_of_heap hF3.d 5
    have d63 := cell_of_heap hF3.d 6
    have z03 := cell_of_heap hF3.z 0
    have z13 := cell_of_heap hF3.z 1
    have z23 := cell_of_heap hF3.z 2
    have z33 := cell_of_heap hF3.z 3
    have z43 := cell_of_heap hF3.z 4
    simp [rq, dbg, sent, oent] at q03 q13 q23 q33 d03 d13 d23 d33 d43 d53 d63 z03 z13 z23 z33 z43
    have fz3 : ∀ j, w3.frozen? ⟨w.heap.size + 1 + 1, j, none⟩ = false := fun j => frozen_of_heap hF3.z j
    have l13 := heap_lt hF3.q
    have l23 := heap_lt hF3.d
    have l33 := heap_lt hF3.z
    have HF3 := Lib.hid hF3
    clear hF3
    have u03 := cell_of_heap hd3 0
    have u13 := cell_of_heap hd3 1
    have u23 := cell_of_heap hd3 2
    have u33 := cell_of_heap hd3 3
    have u43 := cell_of_heap hd3 4
    simp [zent, dbg, sent] at u03 u13 u23 u33 u43
    have fu3 : ∀ j, w3.frozen? ⟨w1.heap.size, j, none⟩ = false := fun j => frozen_of_heap hd3 j
    have ld3 := heap_lt hd3
    have Hd3 := Lib.hid hd3
    clear hd3
    have v03 := cell_of_heap he3 0
    have v13 := cell_of_heap he3 1
    have v23 := cell_of_heap he3 2
    have v33 := cell_of_heap he3 3
    have v43 := cell_of_heap he3 4
    have v53 := cell_of_heap he3 5
    have v63 := cell_of_heap he3 6
    simp [zent, dbg, sent] at v03 v13 v23 v33 v43 v53 v63
    have fv3 : ∀ j, w3.frozen? ⟨w1.heap.size + 1, j, none⟩ = false := fun j => frozen_of_heap he3 j
    have le3 := heap_lt he3
    have He3 := Lib.hid he3
    clear he3
    clear u02 u12 u22 u32 u42 fu2 ld2 v02 v12 v22 v32 v42 v52 v62 fv2 le2
    clear hc3
    go_wp2_with fail
    refine (value28 ma 1 mc ea ec f tt ⟨#[46]⟩ w3 (HI.out.keep HF3.out.chg) (by decide)).mono ?_
    rintro e4 w4 ⟨hv, hc4⟩
    have hv2 : e4 = .returned (.tuple #[.agg (sent (tt 0)), .bool true]) := by
      rcases hv with ⟨i, hi, _, _, h⟩ | ⟨h, _⟩
      · obtain rfl : i = 0 := by omega
        exact h
      · exact absurd Hf.out (h 0 (by decide))
    subst hv2
    have hF4 := HF3.out.keep hc4
    have hd4 := (hc4 : Chg Nowhere _ _).heap Hd3.out (fun h => h)
    have he4 := (hc4 : Chg Nowhere _ _).heap He3.out (fun h => h)
    clear q03 q13 q23 q33 d03 d13 d23 d33 d43 d53 d63 z03 z13 z23 z33 z43 fz3 l13 l23 l33
    have q04 := cell_of_heap hF4.q 0
    have q14 := cell_of_heap hF4.q 1
    have q24 := cell_of_heap hF4.q 2
    have q34 := cell_of_heap hF4.q 3
    have d04 := cell_of_heap hF4.d 0
    have d14 := cell_of_heap hF4.d 1
    have d24 := cell_of_heap hF4.d 2
    have d34 := cell_of_heap hF4.d 3
    have d44 := cell_of_heap hF4.d 4
    have d54 := cell_of_heap hF4.d 5
    have d64 := cell_of_heap hF4.d 6
    have z04 := cell_of_heap hF4.z 0
    have z14 := cell_of_heap hF4.z 1
    have z24 := cell_of_heap hF4.z 2
    have z34 := cell_of_heap hF4.z 3
    have z44 := cell_of_heap hF4.z 4
    simp [rq, dbg, sent, oent] at q04 q14 q24 q34 d04 d14 d24 d34 d44 d54 d64 z04 z14 z24 z34 z44
    have fz4 : ∀ j, w4.frozen? ⟨w.heap.size + 1 + 1, j, none⟩ = false := fun j => frozen_of_heap hF4.z j
    have l14 := heap_lt hF4.q
    have l24 := heap_lt hF4.d
    have l34 := heap_lt hF4.z
    have HF4 := Lib.hid hF4
    clear hF4
    have u04 := cell_of_heap hd4 0
    have u14 := cell_of_heap hd4 1
    have u24 := cell_of_heap hd4 2
    have u34 := cell_of_heap hd4 3
    have u44 := cell_of_heap hd4 4
    simp [zent, dbg, sent] at u04 u14 u24 u34 u44
    have fu4 : ∀ j, w4.frozen? ⟨w1.heap.size, j, none⟩ = false := fun j => frozen_of_heap hd4 j
    have ld4 := heap_lt hd4
    have Hd4 := Lib.hid hd4
    clear hd4
    have v04 := cell_of_heap he4 0
    have v14 := cell_of_heap he4 1
    have v24 := cell_of_heap he4 2
    have v34 := cell_of_heap he4 3
    have v44 := cell_of_heap he4 4
    have v54 := cell_of_heap he4 5
    have v64 := cell_of_heap he4 6
    simp [zent, dbg, sent] at v04 v14 v24 v34 v44 v54 v64
    have fv4 : ∀ j, w4.frozen? ⟨w1.heap.size + 1, j, none⟩ = false := fun j => frozen_of_heap he4 j
    have le4 := heap_lt he4
    have He4 := Lib.hid he4
    clear he4
    clear u03 u13 u23 u33 u43 fu3 ld3 v03 v13 v23 v33 v43 v53 v63 fv3 le3
    clear hc4 hv
    unfold sent
    have hc5 : Chg Nowhere w4 (w4.alloc (.cells (sent (tt 0)) 59)) := (Chg.refl _ w4).alloc _
    have ht5 := heap_at w4 (.cells (sent (tt 0)) 59) _ rfl
    unfold sent at hc5 ht5
    go_upto_if 68 with fail
    generalize hww : World.alloc w4 _ = w5 at hc5 ht5 ⊢
    clear hww
    have hF5 := HF4.out.keep hc5
    have hd5 := (hc5 : Chg Nowhere _ _).heap Hd4.out (fun h => h)
    have he5 := (hc5 : Chg Nowhere _ _).heap He4.out (fun h => h)
    clear q04 q14 q24 q34 d04 d14 d24 d34 d44 d54 d64 z04 z14 z24 z34 z44 fz4 l14 l24 l34
    have q05 := cell_of_heap hF5.q 0
    have q15 := cell_of_heap hF5.q 1
    have q25 := cell_of_heap hF5.q 2
    have q35 := cell_of_heap hF5.q 3
    have d05 := cell_of_heap hF5.d 0
    have d15 := cell_of_heap hF5.d 1
    have d25 := cell_of_heap hF5.d 2
    have d35 := cell_of_heap hF5.d 3
    have d45 := cell_of_heap hF5.d 4
    have d55 := cell_of_heap hF5.d 5
    have d65 := cell_of_heap hF5.d 6
    have z05 := cell_of_heap hF5.z 0
    have z15 := cell_of_heap hF5.z 1
    have z25 := cell_of_heap hF5.z 2
    have z35 := cell_of_heap hF5.z 3
    have z45 := cell_of_heap hF5.z 4
    simp [rq, dbg, sent, oent] at q05 q15 q25 q35 d05 d15 d25 d35 d45 d55 d65 z05 z15 z25 z35 z45
    have fz5 : ∀ j, w5.frozen? ⟨w.heap.size + 1 + 1, j, none⟩ = false := fun j => frozen_of_heap hF5.z j
    have l15 := heap_lt hF5.q
    have l25 := heap_lt hF5.d
    have l35 := heap_lt hF5.z
    have HF5 := Lib.hid hF5
    clear hF5
    have u05 := cell_of_heap hd5 0
    have u15 := cell_of_heap hd5 1
    have u25 := cell_of_heap hd5 2
    have u35 := cell_of_heap hd5 3
    have u45 := cell_of_heap hd5 4
    simp [zent, dbg, sent] at u05 u15 u25 u35 u45
    have fu5 : ∀ j, w5.frozen? ⟨w1.heap.size, j, none⟩ = false := fun j => frozen_of_heap hd5 j
    have ld5 := heap_lt hd5
    have Hd5 := Lib.hid hd5
    clear hd5
    have v05 := cell_of_heap he5 0
    have v15 := cell_of_heap he5 1
    have v25 := cell_of_heap he5 2
    have v35 := cell_of_heap he5 3
    have v45 := cell_of_heap he5 4
    have v55 := cell_of_heap he5 5
    have v65 := cell_of_heap he5 6
    simp [zent, dbg, sent] at v05 v15 v25 v35 v45 v55 v65
    have fv5 : ∀ j, w5.frozen? ⟨w1.heap.size + 1, j, none⟩ = false := fun j => frozen_of_heap he5 j
    have le5 := heap_lt he5
    have He5 := Lib.hid he5
    clear he5
    clear u04 u14 u24 u34 u44 fu4 ld4 v04 v14 v24 v34 v44 v54 v64 fv4 le4
    have t05 := cell_of_heap ht5 0
    have t15 := cell_of_heap ht5 1
    have t25 := cell_of_heap ht5 2
    have t35 := cell_of_heap ht5 3
    have t45 := cell_of_heap ht5 4
    have t55 := cell_of_heap ht5 5
    have t65 := cell_of_heap ht5 6
    simp [zent, dbg, sent] at t05 t15 t25 t35 t45 t55 t65
    clear hc5 ht5
    have hlb : w.heap.size + 1 + 1 < w1.heap.size + 1 := by have := heap_lt HF.out.z; omega
    have hc6 := st7_self (wr := w5) (b := w1.heap.size + 1) (.string (tt 0)) (.slice none 0 0) (.slice none 0 0) (.slice none 0 0) (.int .i32 0) (.int .i32 0) (.int .u8 1)
    have he6 := st7_heap He5.out (.string (tt 0)) (.slice none 0 0) (.slice none 0 0) (.slice none 0 0) (.int .i32 0) (.int .i32 0) (.int .u8 1)
    go_upto_region 16 with fail
    generalize hww : st7 w5 (w1.heap.size + 1) (.string (tt 0)) (.slice none 0 0) (.slice none 0 0) (.slice none 0 0) (.int .i32 0) (.int .i32 0) (.int .u8 1) = w6 at hc6 he6
    unfold st7 at hww
    rw [hww]
    clear hww
    have hF6 := HF5.out.keep1 hc6 hlb
    clear q05 q15 q25 q35 d05 d15 d25 d35 d45 d55 d65 z05 z15 z25 z35 z45 fz5 l15 l25 l35
    clear u05 u15 u25 u35 u45 fu5 ld5 v05 v15 v25 v35 v45 v55 v65 fv5 le5
    have q06 := cell_of_heap hF6.q 0
    have q16 := cell_of_heap hF6.q 1
    have q26 := cell_of_heap hF6.q 2
    have q36 := cell_of_heap hF6.q 3
    have d06 := cell_of_heap hF6.d 0
    have d16 := cell_of_heap hF6.d 1
    have d26 := cell_of_heap hF6.d 2
    have d36 := cell_of_heap hF6.d 3
    have d46 := cell_of_heap hF6.d 4
    have d56 := cell_of_heap hF6.d 5
    have d66 := cell_of_heap hF6.d 6
    have z06 := cell_of_heap hF6.z 0
    have z16 := cell_of_heap hF6.z 1
    have z26 := cell_of_heap hF6.z 2
    have z36 := cell_of_heap hF6.z 3
    have z46 := cell_of_heap hF6.z 4
    simp [rq, dbg, sent, oent] at q06 q16 q26 q36 d06 d16 d26 d36 d46 d56 d66 z06 z16 z26 z36 z46
    have fz6 : ∀ j, w6.frozen? ⟨w.heap.size + 1 + 1, j, none⟩ = false := fun j => frozen_of_heap hF6.z j
    have l16 := heap_lt hF6.q
    have l26 := heap_lt hF6.d
    have l36 := heap_lt hF6.z
    have HF6 := Lib.hid hF6
    clear hF6
    have v06 := cell_of_heap he6 0
    have v16 := cell_of_heap he6 1
    have v26 := cell_of_heap he6 2
    have v36 := cell_of_heap he6 3
    have v46 := cell_of_heap he6 4
    have v56 := cell_of_heap he6 5
    have v66 := cell_of_heap he6 6
    simp [zent, dbg, sent] at v06 v16 v26 v36 v46 v56 v66
    have le6 := heap_lt he6
    clear hc6 he6 t05 t15 t25 t35 t45 t55 t65
    go_wp2_with fail
    have h29 := tgt29 F g false v4 w6 (by rw [HF6.out.chg.tape]; exact HA.out) Hg.out
    rw [← Ht.out] at h29
    refine h29.mono ?_
    rintro e7 w7 ⟨⟨r, st, t2, ha, rfl⟩, hc7⟩
    have Ha := Lib.hid ha
    have hst : st = 9 ∨ st = 3 := by
      by_cases hb : Bad g
      · exact .inl (ha.1 hb).2
      · exact .inr (ha.2 hb).2
    have hF7 := HF6.out.keep hc7
    clear q06 q16 q26 q36 d06 d16 d26 d36 d46 d56 d66 z06 z16 z26 z36 z46 fz6 l16 l26 l36
    clear h29 ha hc7 v06 v16 v26 v36 v46 v56 v66 le6
    unfold dbg
    have q07 := cell_of_heap hF7.q 0
    have q17 := cell_of_heap hF7.q 1
    have q27 := cell_of_heap hF7.q 2
    have q37 := cell_of_heap hF7.q 3
    have d07 := cell_of_heap hF7.d 0
    have d17 := cell_of_heap hF7.d 1
    have d27 := cell_of_heap hF7.d 2
    have d37 := cell_of_heap hF7.d 3
    have d47 := cell_of_heap hF7.d 4
    have d57 := cell_of_heap hF7.d 5
    have d67 := cell_of_heap hF7.d 6
    have z07 := cell_of_heap hF7.z 0
    have z17 := cell_of_heap hF7.z 1
    have z27 := cell_of_heap hF7.z 2
    have z37 := cell_of_heap hF7.z 3
    have z47 := cell_of_heap hF7.z 4
    simp [rq, dbg, sent, oent] at q07 q17 q27 q37 d07 d17 d27 d37 d47 d57 d67 z07 z17 z27 z37 z47
    have fz7 : ∀ j, w7.frozen? ⟨w.heap.size + 1 + 1, j, none⟩ = false := fun j => frozen_of_heap hF7.z j
    have l17 := heap_lt hF7.q
    have l27 := heap_lt hF7.d
    have l37 := heap_lt hF7.z
    have HF7 := Lib.hid hF7
    clear hF7
    rcases hst with rfl | rfl
    all_goals (
      go_wp2_with fail
      go_region
      go_wp2_with fail
      refine bodyPost_ret (v := .tuple #[.string r, .int .u8 _, .agg (dbg t2)]) ?_ rfl ⟨⟨r, _, t2, fun _ => Ha.out, fun h => absurd Hs.out h, rfl⟩, ((st5_chg HF7.out.chg (by omega) _ _ _ _ _).alloc _).drew⟩
      exact (results_ttc (t := 10) (u := 11) (p := 12) (ty := 45) (by rfl) _ _ _ (w.heap.size + 1 + 1) _ (by rfl) (load45 ((congrArg (fun hp : Array Obj => hp[w.heap.size + 1 + 1]?) (drew_heap _)).trans (heap_keep (st5_heap HF7.out.z _ _ _ _ _) _)) (by rfl))).trans (by rfl))
  · have e0 := lit_ne hs
    have Hs := Lib.hid hs
    clear hs
    go_upto_if 39 with fail
    have hw2 : Chg Nowhere w1 (w1.alloc (.cells (dbg ⟨#[]⟩) 45)) := (Chg.refl _ w1).alloc _
    have hd := heap_at w1 (.cells (dbg ⟨#[]⟩) 45) _ rfl
    unfold dbg at hw2 hd
    generalize hww : World.alloc w1 _ = w2 at hw2 hd ⊢
    clear hww
    have Hd := Lib.hid hd
    clear hd
    have hF2 := HF.out.keep hw2
    have hd2 := Hd.out
    clear q0 q1 q2 q3 d0 d1 d2 d3 d4 d5 d6 z0 z1 z2 z3 z4 fz l1 l2 l3
    have q02 := cell_of_heap hF2.q 0
    have q12 := cell_of_heap hF2.q 1
    have q22 := cell_of_heap hF2.q 2
    have q32 := cell_of_heap hF2.q 3
    have d02 := cell_of_heap hF2.d 0
    have d12 := cell_of_heap hF2.d 1
    have d22 := cell_of_heap hF2.d 2
    have d32 := cell_of_heap hF2.d 3
    have d42 := cell_of_heap hF2.d 4
    have d52 := cell_of_heap hF2.d 5
    have d62 := cell_of_heap hF2.d 6
    have z02 := cell_of_heap hF2.z 0
    have z12 := cell_of_heap hF2.z 1
    have z22 := cell_of_heap hF2.z 2
    have z32 := cell_of_heap hF2.z 3
    have z42 := cell_of_heap hF2.z 4
    simp [rq, dbg, sent, oent] at q02 q12 q22 q32 d02 d12 d22 d32 d42 d52 d62 z02 z12 z22 z32 z42
    have fz2 : ∀ j, w2.frozen? ⟨w.heap.size + 1 + 1, j, none⟩ = false := fun j => frozen_of_heap hF2.z j
    have l12 := heap_lt hF2.q
    have l22 := heap_lt hF2.d
    have l32 := heap_lt hF2.z
    have HF2 := Lib.hid hF2
    clear hF2
    have u02 := cell_of_heap hd2 0
    have u12 := cell_of_heap hd2 1
    have u22 := cell_of_heap hd2 2
    have u32 := cell_of_heap hd2 3
    have u42 := cell_of_heap hd2 4
    simp [zent, dbg, sent] at u02 u12 u22 u32 u42
    have fu2 : ∀ j, w2.frozen? ⟨w1.heap.size, j, none⟩ = false := fun j => frozen_of_heap hd2 j
    have ld2 := heap_lt hd2
    have Hd2 := Lib.hid hd2
    clear hd2
    go_wp2_with fail
    refine (dot27 ma 1 mc ea ec f tt true w2 (HI.out.keep HF2.out.chg) (by decide) (fun _ => by rw [Hf.out]; rfl) (fun h => by cases h)).mono ?_
    rintro e3 w3 ⟨rfl, hc3⟩
    have hF3 := HF2.out.keep hc3
    have hd3 := (hc3 : Chg Nowhere _ _).heap Hd2.out (fun h => h)
    clear q02 q12 q22 q32 d02 d12 d22 d32 d42 d52 d62 z02 z12 z22 z32 z42 fz2 l12 l22 l32
    have q03 := cell_of_heap hF3.q 0
    have q13 := cell_of_heap hF3.q 1
    have q23 := cell_of_heap hF3.q 2
    have q33 := cell_of_heap hF3.q 3
    have d03 := cell_of_heap hF3.d 0
    have d13 := cell_of_heap hF3.d 1
    have d23 := cell_of_heap hF3.d 2
    have d33 := cell_of_heap hF3.d 3
    have d43 := cell_of_heap hF3.d 4
    have d53 := cell_of_heap hF3.d 5
    have d63 := cell_of_heap hF3.d 6
    have z03 := cell_of_heap hF3.z 0
    have z13 := cell_of_heap hF3.z 1
    have z23 := cell_of_heap hF3.z 2
    have z33 := cell_of_heap hF3.z 3
    have z43 := cell_of_heap hF3.z 4
    simp [rq, dbg, sent, oent] at q03 q13 q23 q33 d03 d13 d23 d33 d43 d53 d63 z03 z13 z23 z33 z43
    have fz3 : ∀ j, w3.frozen? ⟨w.heap.size + 1 + 1, j, none⟩ = false := fun j => frozen_of_heap hF3.z j
    have l13 := heap_lt hF3.q
    have l23 := heap_lt hF3.d
    have l33 := heap_lt hF3.z
    have HF3 := Lib.hid hF3
    clear hF3
    have u03 := cell_of_heap hd3 0
    have u13 := cell_of_heap hd3 1
    have u23 := cell_of_heap hd3 2
    have u33 := cell_of_heap hd3 3
    have u43 := cell_of_heap hd3 4
    simp [zent, dbg, sent] at u03 u13 u23 u33 u43
    have fu3 : ∀ j, w3.frozen? ⟨w1.heap.size, j, none⟩ = false := fun j => frozen_of_heap hd3 j
    have ld3 := heap_lt hd3
    have Hd3 := Lib.hid hd3
    clear hd3
    clear u02 u12 u22 u32 u42 fu2 ld2
    clear hc3
    go_wp2_with fail
    have hno : ∀ i, i < 1 → ¬ Exp (f i) := fun i hi => by
      obtain rfl : i = 0 := by omega
      rw [Hf.out]
      exact dot_not_exp
    have htt0 : ∀ i, i < 1 → tt i = dotted g := fun i hi => by
      obtain rfl : i = 0 := by omega
      exact Ht.out
    refine (iex25 F ma 1 mc ea ec f (fun _ => g) tt false s v4 w3 (by rw [HF3.out.chg.tape]; exact HA.out) (HI.out.keep HF3.out.chg) htt0 (fun i hi => Hg.out) hno (by decide) hs).mono ?_
    rintro e4 w4 ⟨hv, hc4⟩
    have hv2 : ∃ t, e4 = .returned (.tuple #[.string ⟨#[]⟩, .int .u8 2, .agg (dbg t)]) := by
      rcases hv with ⟨i, hi, h, _⟩ | ⟨_, h⟩
      · obtain rfl : i = 0 := by omega
        rw [Hf.out] at h
        exact absurd h.symm Hs.out
      · exact h
    obtain ⟨t4, rfl⟩ := hv2
    have hF4 := HF3.out.keep hc4
    have hd4 := (hc4 : Chg Nowhere _ _).heap Hd3.out (fun h => h)
    clear q03 q13 q23 q33 d03 d13 d23 d33 d43 d53 d63 z03 z13 z23 z33 z43 fz3 l13 l23 l33
    have q04 := cell_of_heap hF4.q 0
    have q14 := cell_of_heap hF4.q 1
    have q24 := cell_of_heap hF4.q 2
    have q34 := cell_of_heap hF4.q 3
    have d04 := cell_of_heap hF4.d 0
    have d14 := cell_of_heap hF4.d 1
    have d24 := cell_of_heap hF4.d 2
    have d34 := cell_of_heap hF4.d 3
    have d44 := cell_of_heap hF4.d 4
    have d54 := cell_of_heap hF4.d 5
    have d64 := cell_of_heap hF4.d 6
    have z04 := cell_of_heap hF4.z 0
    have z14 := cell_of_heap hF4.z 1
    have z24 := cell_of_heap hF4.z 2
    have z34 := cell_of_heap hF4.z 3
    have z44 := cell_of_heap hF4.z 4
    simp [rq, dbg, sent, oent] at q04 q14 q24 q34 d04 d14 d24 d34 d44 d54 d64 z04 z14 z24 z34 z44
    have fz4 : ∀ j, w4.frozen? ⟨w.heap.size + 1 + 1, j, none⟩ = false := fun j => frozen_of_heap hF4.z j
    have l14 := heap_lt hF4.q
    have l24 := heap_lt hF4.d
    have l34 := heap_lt hF4.z
    have HF4 := Lib.hid hF4
    clear hF4
    have u04 := cell_of_heap hd4 0
    have u14 := cell_of_heap hd4 1
    have u24 := cell_of_heap hd4 2
    have u34 := cell_of_heap hd4 3
    have u44 := cell_of_heap hd4 4
    simp [zent, dbg, sent] at u04 u14 u24 u34 u44
    have fu4 : ∀ j, w4.frozen? ⟨w1.heap.size, j, none⟩ = false := fun j => frozen_of_heap hd4 j
    have ld4 := heap_lt hd4
    have Hd4 := Lib.hid hd4
    clear hd4
    clear u03 u13 u23 u33 u43 fu3 ld3
    clear hc4 hv hno
    unfold dbg
    have hlb : w.heap.size + 1 + 1 < w1.heap.size := heap_lt HF.out.z
    have hc6 := (st5_self (wr := w4) (b := w1.heap.size) (.string t4) (.slice none 0 0) (.int .i32 0) (.int .i32 0) (.bool false)).alloc (.cells #[.string t4, .slice none 0 0, .int .i32 0, .int .i32 0, .bool false] 45)
    have hd6 := heap_keep (st5_heap Hd4.out (.string t4) (.slice none 0 0) (.int .i32 0) (.int .i32 0) (.bool false)) (.cells #[.string t4, .slice none 0 0, .int .i32 0, .int .i32 0, .bool false] 45)
    go_upto_region 26 with fail
    generalize hww : World.alloc (st5 w4 w1.heap.size (.string t4) (.slice none 0 0) (.int .i32 0) (.int .i32 0) (.bool false)) _ = w6 at hc6 hd6
    unfold st5 at hww
    rw [hww]
    clear hww htt0
    have hF6 := HF4.out.keep1 hc6 hlb
    clear q04 q14 q24 q34 d04 d14 d24 d34 d44 d54 d64 z04 z14 z24 z34 z44 fz4 l14 l24 l34
    clear u04 u14 u24 u34 u44 fu4 ld4
    have q06 := cell_of_heap hF6.q 0
    have q16 := cell_of_heap hF6.q 1
    have q26 := cell_of_heap hF6.q 2
    have q36 := cell_of_heap hF6.q 3
    have d06 := cell_of_heap hF6.d 0
    have d16 := cell_of_heap hF6.d 1
    have d26 := cell_of_heap hF6.d 2
    have d36 := cell_of_heap hF6.d 3
    have d46 := cell_of_heap hF6.d 4
    have d56 := cell_of_heap hF6.d 5
    have d66 := cell_of_heap hF6.d 6
    have z06 := cell_of_heap hF6.z 0
    have z16 := cell_of_heap hF6.z 1
    have z26 := cell_of_heap hF6.z 2
    have z36 := cell_of_heap hF6.z 3
    have z46 := cell_of_heap hF6.z 4
    simp [rq, dbg, sent, oent] at q06 q16 q26 q36 d06 d16 d26 d36 d46 d56 d66 z06 z16 z26 z36 z46
    have fz6 : ∀ j, w6.frozen? ⟨w.heap.size + 1 + 1, j, none⟩ = false := fun j => frozen_of_heap hF6.z j
    have l16 := heap_lt hF6.q
    have l26 := heap_lt hF6.d
    have l36 := heap_lt hF6.z
    have HF6 := Lib.hid hF6
    clear hF6
    have u06 := cell_of_heap hd6 0
    have u16 := cell_of_heap hd6 1
    have u26 := cell_of_heap hd6 2
    have u36 := cell_of_heap hd6 3
    have u46 := cell_of_heap hd6 4
    simp [zent, dbg, sent] at u06 u16 u26 u36 u46
    have le6 := heap_lt hd6
    clear hc6 hd6
    go_wp2_with fail
    go_region
    go_wp2_with fail
    refine bodyPost_ret (v := .tuple #[.string ⟨#[]⟩, .int .u8 10, .agg (dbg t4)]) ?_ rfl ⟨⟨_, _, t4, fun h => absurd h Hs.out, fun _ => ⟨rfl, rfl⟩, rfl⟩, (st5_chg HF6.out.chg (by omega) _ _ _ _ _).drew⟩
    exact (results_ttc (t := 10) (u := 11) (p := 12) (ty := 45) (by rfl) _ _ _ (w.heap.size + 1 + 1) _ (by rfl) (load45 ((congrArg (fun hp : Array Obj => hp[w.heap.size + 1 + 1]?) (drew_heap _)).trans (st5_heap HF6.out.z _ _ _ _ _)) (by rfl))).trans (by rfl)
end Go.Proofs.YtcbmankbjgbjgaaGreatFmt
