/-
  Proved: contract of esmPackageTargetResolve at a pattern './d/*'. No statement of the seat stands here.
-/
import Derived.Test.YtcbmankbjgbjgaaGreatFmtTgt
import Derived.Test.YtcbmankbjgbjgaaGreatFmtFpat
import Derived.Test.YtcbmankbjgbjgaaGreatFmtRep
namespace Go.Proofs.YtcbmankbjgbjgaaGreatFmt
open Go.RowKit Go.ChangeAt
open Go.Lib in
theorem clean_pat (l : List UInt8) (h47 : 47 ∉ l) (h0 : l ≠ []) (h1 : l ≠ [46]) (h2 : l ≠ [46, 46]) : Pa.clean ([47, 112, 107, 103, 47, 46, 47] ++ (l ++ [47, 42])) = [47, 112, 107, 103, 47] ++ (l ++ [47, 42]) := by
  have e1 : Pa.els ([47, 112, 107, 103, 47, 46, 47] ++ (l ++ [47, 42])) = [[], [112, 107, 103], [46], l, [42]] := by
    show Pa.els (47 :: ([112, 107, 103] ++ 47 :: ([46] ++ 47 :: (l ++ [47, 42])))) = _
    rw [Pa.els_slash, Pa.els_elem [112, 107, 103] _ (by decide) (.inr rfl)]
    show _ :: _ :: Pa.els ([46] ++ 47 :: (l ++ [47, 42])) = _
    rw [Pa.els_elem [46] (47 :: (l ++ [47, 42])) (by decide) (.inr rfl)]
    show _ :: _ :: _ :: Pa.els (l ++ [47, 42]) = _
    rw [Pa.els_elem l [47, 42] h47 (.inr rfl)]
    show _ :: _ :: _ :: _ :: Pa.els [42] = _
    rw [els_pkg [42] (by decide)]
  rw [Pa.clean_eq_cleanEls, Pa.cleanEls_abs _ (by simp) (by rfl), e1]
  simp only [List.foldl_cons, List.foldl_nil, Pa.step_nil]
  rw [Pa.step_elem true [] [112, 107, 103] (by decide) (by decide) (by decide), Pa.step_dot, Pa.step_elem true _ l h0 h1 h2, Pa.step_elem true _ [42] (by decide) (by decide) (by decide)]
  simp [List.intercalate]
open Go.Lib in
theorem join_pat (l : List UInt8) (h47 : 47 ∉ l) (h0 : l ≠ []) (h1 : l ≠ [46]) (h2 : l ≠ [46, 46]) : Pa.join [[47, 112, 107, 103], [46, 47] ++ (l ++ [47, 42])] = [47, 112, 107, 103, 47] ++ (l ++ [47, 42]) := by
  have e : ([47] : List UInt8).intercalate [[47, 112, 107, 103], [46, 47] ++ (l ++ [47, 42])] = [47, 112, 107, 103, 47, 46, 47] ++ (l ++ [47, 42]) := by simp [List.intercalate]
  have hf : [[47, 112, 107, 103], [46, 47] ++ (l ++ [47, 42])].filter (· ≠ []) = [[47, 112, 107, 103], [46, 47] ++ (l ++ [47, 42])] := by simp
  unfold Pa.join
  rw [hf, if_neg (by simp), e, clean_pat l h47 h0 h1 h2]
set_option linter.unusedSimpArgs false
set_option linter.unusedVariables false
set_option maxRecDepth 100000
/-- '/pkg/' d '/'. -/
def pkgD (d : ByteArray) : ByteArray := ⟨#[47, 112, 107, 103, 47]⟩ ++ d ++ ⟨#[47]⟩
theorem pkgD_size (d : ByteArray) : (pkgD d).size = d.size + 6 := by unfold pkgD; rw [ByteArray.size_append, ByteArray.size_append]; show 5 + d.size + 1 = _; omega
theorem pkgD_star (d : ByteArray) : pkgD d ++ ⟨#[42]⟩ = ⟨#[47, 112, 107, 103, 47]⟩ ++ patM d := by
  unfold pkgD patM
  rw [ByteArray.append_assoc, ByteArray.append_assoc]
  congr 1
theorem joined3 (d : ByteArray) (hs : NoSep d) (hne : d ≠ ⟨#[]⟩) (hb : ¬ Bad d) :
    (⟨(Lib.Pa.join ([(⟨#[47, 112, 107, 103]⟩ : ByteArray), patS d].map (·.data.toList))).toArray⟩ : ByteArray) = pkgD d ++ ⟨#[42]⟩ := by
  have h := join_pat d.data.toList (nosep_mem hs) (ba_ne hne) (ba_ne fun e => hb (.inl e)) (ba_ne fun e => hb (.inr (.inl e)))
  apply ByteArray.ext
  show (Lib.Pa.join _).toArray = _
  have e : ([(⟨#[47, 112, 107, 103]⟩ : ByteArray), patS d].map (·.data.toList)) = [[47, 112, 107, 103], [46, 47] ++ (d.data.toList ++ [47, 42])] := by
    simp only [List.map_cons, List.map_nil, patS, patM, dotted, ByteArray.data_append, Array.toList_append]
  rw [e, h, pkgD_star, ByteArray.data_append]
  apply Array.toList_inj.1
  unfold patM
  rw [Array.toList_append, ByteArray.data_append, Array.toList_append]
theorem pkgD_no (d : ByteArray) (hd : ∀ i, i < d.size → bt d i ≠ 42) : ∀ i, i < (pkgD d).size → bt (pkgD d) i ≠ 42 := by
  intro i hi
  rw [pkgD_size] at hi
  unfold pkgD
  by_cases h1 : i < 5 + d.size
  · rw [bt_left _ _ _ (by rw [ByteArray.size_append]; show i < 5 + d.size; omega)]
    by_cases h2 : i < 5
    · rw [bt_left _ _ _ (by show i < 5; omega)]
      obtain rfl | rfl | rfl | rfl | rfl : i = 0 ∨ i = 1 ∨ i = 2 ∨ i = 3 ∨ i = 4 := by omega
      all_goals decide
    · obtain ⟨j, rfl⟩ : ∃ j, i = 5 + j := ⟨i - 5, by omega⟩
      have := bt_right ⟨#[47, 112, 107, 103, 47]⟩ d j (by omega)
      rw [show (ByteArray.mk #[47, 112, 107, 103, 47]).size = 5 from rfl] at this
      rw [this]
      exact hd j (by omega)
  · obtain rfl : i = 5 + d.size := by omega
    have := bt_right (⟨#[47, 112, 107, 103, 47]⟩ ++ d) ⟨#[47]⟩ 0 (by decide)
    rw [ByteArray.size_append, show (ByteArray.mk #[47, 112, 107, 103, 47]).size = 5 from rfl, Nat.add_zero] at this
    rw [this]
    decide
theorem sfx_star (p : ByteArray) : Lib.hasSuffix (p ++ ⟨#[42]⟩).data.toList [42] = true := by
  unfold Lib.hasSuffix
  rw [ByteArray.data_append, Array.toList_append]
  exact List.isSuffixOf_iff_suffix.2 ⟨_, rfl⟩
theorem index_last : ∀ (a : List UInt8), (∀ x ∈ a, x ≠ 42) → Lib.indexByte (a ++ [42]) 42 = (a.length : Int)
  | [], h => by simp [Lib.indexByte]
  | x :: a, h => by
    have h2 := index_last a (fun y hy => h y (List.mem_cons_of_mem _ hy))
    have hx : (x == 42) = false := beq_eq_false_iff_ne.2 (h x List.mem_cons_self)
    rw [List.cons_append]
    unfold Lib.indexByte
    rw [h2, hx]
    simp
theorem mem_bt {p : ByteArray} (hp : ∀ i, i < p.size → bt p i ≠ 42) : ∀ x ∈ p.data.toList, x ≠ 42 := by
  intro x hx e
  obtain ⟨i, hi, he⟩ := List.getElem_of_mem hx
  have hi2 : i < p.size := by rw [Array.length_toList] at hi; exact hi
  refine hp i hi2 ?_
  rw [← bt_eq p i hi2]
  have : p.data.toList[i] = p[i] := rfl
  rw [← this, he, e]
  rfl
theorem idx_star (p : ByteArray) (hp : ∀ i, i < p.size → bt p i ≠ 42) : Lib.indexByte (p ++ ⟨#[42]⟩).data.toList 42 = (p.size : Int) := by
  rw [ByteArray.data_append, Array.toList_append]
  have := index_last p.data.toList (mem_bt hp)
  rw [this, Array.length_toList]
  rfl
set_option maxHeartbeats 16000000 in
theorem tgt_pat (d sub r : ByteArray) (b : Bool) (v6 : Value) (w : World) (hs : NoSep d) (hne : d ≠ ⟨#[]⟩) (hb : ¬ Bad d) (hst : ∀ i, i < d.size → bt d i ≠ 42) (hsz : d.size ≤ 1048576) (hsub : NoSep sub) (hsubz : sub.size ≤ 1048576) (hr : r = pkgD d ++ sub) :
    Calls Tryz.prog 29 #[.agg rq, .string ⟨#[47, 112, 107, 103]⟩, .agg (sent (patS d)), .string sub, .bool true, .bool b, v6] w (TgtOut r 4 w) := by
  have HF0 := Lib.hid (Fr.start w (sent (patS d)) (dbg ⟨#[]⟩))
  have hPat := pat_of d hs
  have hpre : Lib.hasPrefix (patS d).data.toList [46, 47] = true := pre_dot _
  have hjo := joined3 d hs hne hb
  have hps := patS_size d
  obtain ⟨J, hJ⟩ : ∃ J, J = pkgD d ++ ⟨#[42]⟩ := ⟨_, rfl⟩
  have hjz : J.size = d.size + 7 := by rw [hJ, ByteArray.size_append, pkgD_size]; rfl
  have hsf := sfx_star (pkgD d)
  have hix := idx_star (pkgD d) (pkgD_no d hst)
  have hrep := fun w => rep37 J (pkgD d) sub w hJ (pkgD_no d hst) (by rw [pkgD_size]; omega) (by rw [pkgD_size]; omega) (by omega)
  rw [← hr] at hrep
  rw [← hJ] at hjo hsf hix
  rw [pkgD_size] at hix
  obtain ⟨t, ht⟩ : ∃ t, t = patS d := ⟨_, rfl⟩
  rw [← ht] at HF0 hPat hpre hjo hps ⊢
  have Hpat := Lib.hid hPat
  have Hjo := Lib.hid hjo
  have Hsf := Lib.hid hsf
  have Hix := Lib.hid hix
  have Hrep := Lib.hid hrep
  have Hpre := Lib.hid hpre
  have Hsub := Lib.hid hsub
  have Hb := Lib.hid hb
  clear hs hne hb hst hsub hr hPat hpre hjo hJ hsf hix hrep ht
  unfold rq sent dbg at HF0
  unfold rq sent
  go_enter Tryz.func29, Tryz.ntmps29
  go_upto_region 1 with fail
  have hF := HF0.out
  generalize hw1 : World.alloc _ _ = w1 at hF ⊢
  clear hw1 HF0
  have q2 := cell_of_heap hF.q 2
  have d0 := cell_of_heap hF.d 0
  have d1 := cell_of_heap hF.d 1
  have d2 := cell_of_heap hF.d 2
  have d3 := cell_of_heap hF.d 3
  have d4 := cell_of_heap hF.d 4
  have d5 := cell_of_heap hF.d 5
  have d6 := cell_of_heap hF.d 6
  have z0 := cell_of_heap hF.z 0
  have z1 := cell_of_heap hF.z 1
  have z2 := cell_of_heap hF.z 2
  have z3 := cell_of_heap hF.z 3
  have z4 := cell_of_heap hF.z 4
  simp [rq] at q2 d0 d1 d2 d3 d4 d5 d6 z0 z1 z2 z3 z4
  have fz : ∀ j, w1.frozen? ⟨w.heap.size + 1 + 1, j, none⟩ = false := fun j => frozen_of_heap hF.z j
  have l1 := heap_lt hF.q
  have l2 := heap_lt hF.d
  have l3 := heap_lt hF.z
  have HF := Lib.hid hF
  clear hF
  go_wp2_with fail
  refine (Tryz.strings_HasPrefix t ⟨#[46, 47]⟩ w1).mono ?_
  rintro e1 w2 ⟨rfl, rfl⟩
  rw [Hpre.out]
  go_wp2_with fail
  refine (find38_pat t (patM d) d w2 Hpat.out Hb.out (by omega)).mono ?_
  rintro e3 w3 ⟨rfl, hc3⟩
  have hF3 := HF.out.keep hc3
  clear q2 d0 d1 d2 d3 d4 d5 d6 z0 z1 z2 z3 z4 fz l1 l2 l3
  clear hc3
  have q23 := cell_of_heap hF3.q 2
  have d03 := cell_of_heap hF3.d 0
  have d13 := cell_of_heap hF3.d 1
  have d23 := cell_of_heap hF3.d 2
  have d33 := cell_of_heap hF3.d 3
  have d43 := cell_of_heap hF3.d 4
  have d53 := cell_of_heap hF3.d 5
  have d63 := cell_of_heap hF3.d 6
  have z03 := cell_of_heap hF3.z 0
  have z13 := cell_of_heap hF3.z 1
  have z23 := cell_of_heap hF3.z 2
  have z33 := cell_of_heap hF3.z 3
  have z43 := cell_of_heap hF3.z 4
  simp [rq] at q23 d03 d13 d23 d33 d43 d53 d63 z03 z13 z23 z33 z43
  have fz3 : ∀ j, w3.frozen? ⟨w.heap.size + 1 + 1, j, none⟩ = false := fun j => frozen_of_heap hF3.z j
  have l13 := heap_lt hF3.q
  have l23 := heap_lt hF3.d
  have l33 := heap_lt hF3.z
  have HF3 := Lib.hid hF3
  clear hF3
  go_wp2_with fail
  have Hcj := Lib.hid (str_cells ⟨#[47, 112, 107, 103]⟩ t w3)
  have hF4 := HF3.out.keep ((Chg.refl Nowhere w3).alloc (.cells #[.string ⟨#[47, 112, 107, 103]⟩, .string t] 9))
  have hl4 : w3.heap.size < (w3.alloc (.cells #[.string ⟨#[47, 112, 107, 103]⟩, .string t] 9)).heap.size := by simp
  generalize hw4 : w3.alloc _ = w4 at hF4 hl4 Hcj ⊢
  clear hw4
  refine (Tryz.path_Join_rules w3.heap.size 0 2 [⟨#[47, 112, 107, 103]⟩, t] w4 Hcj.out hl4 (by
    simp only [List.map_cons, List.map_nil, Lib.Pa.lens, List.length_cons, List.length_nil]
    have : ∀ x : ByteArray, x.data.toList.length = x.size := fun x => by rw [Array.length_toList]; rfl
    simp only [List.sum_cons, List.sum_nil, this]
    have hp : (ByteArray.mk #[47, 112, 107, 103]).size = 4 := rfl
    omega)).mono ?_
  rintro e5 w5 ⟨rfl, hc5⟩
  rw [Hjo.out]
  have hF5 := hF4.keep (below_chg hc5)
  clear q23 d03 d13 d23 d33 d43 d53 d63 z03 z13 z23 z33 z43 fz3 l13 l23 l33
  clear hc5 hF4 hl4 Hcj
  have q25 := cell_of_heap hF5.q 2
  have d05 := cell_of_heap hF5.d 0
  have d15 := cell_of_heap hF5.d 1
  have d25 := cell_of_heap hF5.d 2
  have d35 := cell_of_heap hF5.d 3
  have d45 := cell_of_heap hF5.d 4
  have d55 := cell_of_heap hF5.d 5
  have d65 := cell_of_heap hF5.d 6
  have z05 := cell_of_heap hF5.z 0
  have z15 := cell_of_heap hF5.z 1
  have z25 := cell_of_heap hF5.z 2
  have z35 := cell_of_heap hF5.z 3
  have z45 := cell_of_heap hF5.z 4
  simp [rq] at q25 d05 d15 d25 d35 d45 d55 d65 z05 z15 z25 z35 z45
  have fz5 : ∀ j, w5.frozen? ⟨w.heap.size + 1 + 1, j, none⟩ = false := fun j => frozen_of_heap hF5.z j
  have l15 := heap_lt hF5.q
  have l25 := heap_lt hF5.d
  have l35 := heap_lt hF5.z
  have HF5 := Lib.hid hF5
  clear hF5
  go_wp2_with fail
  refine (find38_none sub w5 Hsub.out).mono ?_
  rintro e6 w6 ⟨rfl, hc6⟩
  have hF6 := HF5.out.keep hc6
  clear q25 d05 d15 d25 d35 d45 d55 d65 z05 z15 z25 z35 z45 fz5 l15 l25 l35
  clear hc6
  have q26 := cell_of_heap hF6.q 2
  have d06 := cell_of_heap hF6.d 0
  have d16 := cell_of_heap hF6.d 1
  have d26 := cell_of_heap hF6.d 2
  have d36 := cell_of_heap hF6.d 3
  have d46 := cell_of_heap hF6.d 4
  have d56 := cell_of_heap hF6.d 5
  have d66 := cell_of_heap hF6.d 6
  have z06 := cell_of_heap hF6.z 0
  have z16 := cell_of_heap hF6.z 1
  have z26 := cell_of_heap hF6.z 2
  have z36 := cell_of_heap hF6.z 3
  have z46 := cell_of_heap hF6.z 4
  simp [rq] at q26 d06 d16 d26 d36 d46 d56 d66 z06 z16 z26 z36 z46
  have fz6 : ∀ j, w6.frozen? ⟨w.heap.size + 1 + 1, j, none⟩ = false := fun j => frozen_of_heap hF6.z j
  have l16 := heap_lt hF6.q
  have l26 := heap_lt hF6.d
  have l36 := heap_lt hF6.z
  have HF6 := Lib.hid hF6
  clear hF6
  go_wp2_with fail
  refine (Hrep.out w6).mono ?_
  rintro e7 w7 ⟨rfl, hc7⟩
  have hF7 := HF6.out.keep hc7
  clear q26 d06 d16 d26 d36 d46 d56 d66 z06 z16 z26 z36 z46 fz6 l16 l26 l36
  clear hc7
  have q27 := cell_of_heap hF7.q 2
  have d07 := cell_of_heap hF7.d 0
  have d17 := cell_of_heap hF7.d 1
  have d27 := cell_of_heap hF7.d 2
  have d37 := cell_of_heap hF7.d 3
  have d47 := cell_of_heap hF7.d 4
  have d57 := cell_of_heap hF7.d 5
  have d67 := cell_of_heap hF7.d 6
  have z07 := cell_of_heap hF7.z 0
  have z17 := cell_of_heap hF7.z 1
  have z27 := cell_of_heap hF7.z 2
  have z37 := cell_of_heap hF7.z 3
  have z47 := cell_of_heap hF7.z 4
  simp [rq] at q27 d07 d17 d27 d37 d47 d57 d67 z07 z17 z27 z37 z47
  have fz7 : ∀ j, w7.frozen? ⟨w.heap.size + 1 + 1, j, none⟩ = false := fun j => frozen_of_heap hF7.z j
  have l17 := heap_lt hF7.q
  have l27 := heap_lt hF7.d
  have l37 := heap_lt hF7.z
  have HF7 := Lib.hid hF7
  clear hF7
  go_wp2_with fail
  refine (Tryz.strings_HasSuffix J ⟨#[42]⟩ w7 (by omega)).mono ?_
  rintro e8 w8 ⟨rfl, rfl⟩
  rw [Hsf.out]
  go_wp2_with fail
  refine (Tryz.strings_IndexByte J 42 _).mono ?_
  rintro e9 w9 ⟨rfl, rfl⟩
  rw [show (42 : Int).toNat.toUInt8 = 42 from rfl, Hix.out]
  have hlast : (((d.size + 6 : Nat) : Int) == (J.size : Int) - 1) = true := by simp; omega
  go_wp2_with fail
  go_region
  go_wp2_with fail
  refine bodyPost_ret (v := .tuple #[.string r, .int .u8 4, .agg (dbg ⟨#[]⟩)]) ?_ rfl ⟨⟨_, rfl⟩, (st5_chg HF7.out.chg (by omega) _ _ _ _ _).drew⟩
  exact (results_ttc (t := 14) (u := 15) (p := 16) (ty := 45) (by rfl) _ _ _ (w.heap.size + 1 + 1) _ (by rfl) (load45 ((congrArg (fun hp : Array Obj => hp[w.heap.size + 1 + 1]?) (drew_heap _)).trans (st5_heap HF7.out.z _ _ _ _ _)) (by rfl))).trans (by rfl)
end Go.Proofs.YtcbmankbjgbjgaaGreatFmt
