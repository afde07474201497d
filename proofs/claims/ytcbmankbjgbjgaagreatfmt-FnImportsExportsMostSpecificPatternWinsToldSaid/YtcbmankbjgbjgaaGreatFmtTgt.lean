/-
  Proved: contract of esmPackageTargetResolve at a plain file. No statement of the seat stands here.
-/
import Derived.Test.YtcbmankbjgbjgaaGreatFmtSeg
import Derived.Test.YtcbmankbjgbjgaaGreatFmtPlain
import Derived.Test.YtcbmankbjgbjgaaGreatFmtCells
import Derived.Test.YtcbmankbjgbjgaaGreatFmtShelf
import Derived.RegionTactic
import Derived.Deep.WholeRow
import Derived.Deep.RegionHeld3
namespace Go.Proofs.YtcbmankbjgbjgaaGreatFmt
open Go.RowKit Go.ChangeAt
set_option linter.unusedSimpArgs false
set_option linter.unusedVariables false
set_option maxRecDepth 100000
def rq : Array Value := #[.pointer none, .pointer none, .pointer none, .int .u8 0]
def dbg (t : ByteArray) : Array Value := #[.string t, .slice none 0 0, .int .i32 0, .int .i32 0, .bool false]
def sent (t : ByteArray) : Array Value := #[.string t, .slice none 0 0, .slice none 0 0, .slice none 0 0, .int .i32 0, .int .i32 0, .int .u8 1]
/-- What lies in the three blocks that a resolving function lays at its begin. -/
structure Fr (w wr : World) (en z : Array Value) : Prop where
  q : wr.heap[w.heap.size]? = some (.cells rq 52 (0, 0))
  d : wr.heap[w.heap.size + 1]? = some (.cells en 59 (0, 0))
  z : wr.heap[w.heap.size + 1 + 1]? = some (.cells z 45 (0, 0))
  chg : Chg Nowhere w wr
theorem Fr.start (w : World) (en z : Array Value) : Fr w (((w.alloc (.cells rq 52)).alloc (.cells en 59)).alloc (.cells z 45)) en z :=
  ⟨heap_keep (heap_keep (heap_at w _ _ rfl) _) _, heap_keep (heap_at _ _ _ (by simp)) _, heap_at _ _ _ (by simp), (((Chg.refl _ w).alloc _).alloc _).alloc _⟩
theorem Fr.keep {w wr w' : World} {en z : Array Value} (h : Fr w wr en z) (hc : Chg Nowhere wr w') : Fr w w' en z :=
  ⟨hc.heap h.q (fun h => h), hc.heap h.d (fun h => h), hc.heap h.z (fun h => h), h.chg.trans hc (fun _ _ h => h)⟩
def TgtOut (r : ByteArray) (st : Int) (w : World) (e : Ending) (w' : World) : Prop := (∃ t, e = .returned (.tuple #[.string r, .int .u8 st, .agg (dbg t)])) ∧ Chg Nowhere w w'
theorem pre_dot (f : ByteArray) : Lib.hasPrefix (dotted f).data.toList [46, 47] = true := by
  unfold dotted
  rw [ByteArray.data_append, Array.toList_append]
  rfl
theorem nosep_mem {f : ByteArray} (h : NoSep f) : (47 : UInt8) ∉ f.data.toList := by
  intro hm
  obtain ⟨i, hi, he⟩ := List.getElem_of_mem hm
  have hi2 : i < f.size := by rw [Array.length_toList] at hi; exact hi
  refine h i hi2 (.inl ?_)
  rw [← bt_eq f i hi2]
  have : f.data.toList[i] = f[i] := rfl
  rw [← this, he]
  rfl
theorem ba_ne {f : ByteArray} {l : List UInt8} (h : f ≠ ⟨l.toArray⟩) : f.data.toList ≠ l := by
  intro e
  refine h (ByteArray.ext ?_)
  show f.data = l.toArray
  rw [← e]
theorem joined1 (t f : ByteArray) (ht : t = dotted f) (hs : NoSep f) (hne : f ≠ ⟨#[]⟩) (hb : ¬ Bad f) :
    (⟨(Lib.Pa.join ([(⟨#[47, 112, 107, 103]⟩ : ByteArray), t].map (·.data.toList))).toArray⟩ : ByteArray) = ⟨#[47, 112, 107, 103, 47]⟩ ++ f := by
  subst ht
  have h := join_pkg f.data.toList (nosep_mem hs) (ba_ne hne) (ba_ne fun e => hb (.inl e)) (ba_ne fun e => hb (.inr (.inl e)))
  apply ByteArray.ext
  show (Lib.Pa.join _).toArray = _
  rw [ByteArray.data_append]
  have e : ([(⟨#[47, 112, 107, 103]⟩ : ByteArray), dotted f].map (·.data.toList)) = [[47, 112, 107, 103], [46, 47] ++ f.data.toList] := by
    simp only [List.map_cons, List.map_nil, dotted, ByteArray.data_append, Array.toList_append]
  rw [e, h]
  apply Array.toList_inj.1
  simp
theorem joined2 (r f : ByteArray) (hr : r = ⟨#[47, 112, 107, 103, 47]⟩ ++ f) (hs : NoSep f) (hne : f ≠ ⟨#[]⟩) (hb : ¬ Bad f) :
    (⟨(Lib.Pa.join ([r, (⟨#[]⟩ : ByteArray)].map (·.data.toList))).toArray⟩ : ByteArray) = r := by
  subst hr
  have h := join_again f.data.toList (nosep_mem hs) (ba_ne hne) (ba_ne fun e => hb (.inl e)) (ba_ne fun e => hb (.inr (.inl e)))
  apply ByteArray.ext
  show (Lib.Pa.join _).toArray = _
  rw [ByteArray.data_append]
  have e : ([((⟨#[47, 112, 107, 103, 47]⟩ : ByteArray) ++ f), ⟨#[]⟩].map (·.data.toList)) = [[47, 112, 107, 103, 47] ++ f.data.toList, []] := by
    simp only [List.map_cons, List.map_nil, ByteArray.data_append, Array.toList_append]
  rw [e, h]
  apply Array.toList_inj.1
  simp
theorem below_chg {w w' : World} (h : Below w.heap.size w w') : Chg Nowhere w w' :=
  (Chg.of_below (S := fun k => w.heap.size ≤ k) h (fun k hk => hk)).mono (fun k hk h => by omega)
theorem str_cells (a b : ByteArray) (w : World) : ∀ (j : Nat) x, [a, b][j]? = some x → (w.alloc (.cells #[.string a, .string b] 9)).cell? ⟨w.heap.size, 0 + j, none⟩ = some (.string x) := fun j x hx => by
  rw [cell_of_heap (heap_at w _ _ rfl)]
  match j, hx with
  | 0, hx => cases hx; rfl
  | 1, hx => cases hx; rfl
set_option maxHeartbeats 16000000 in
theorem tgt_good (f r : ByteArray) (b : Bool) (v6 : Value) (w : World) (hs : NoSep f) (hne : f ≠ ⟨#[]⟩) (hb : ¬ Bad f) (hsz : f.size ≤ 1048576) (hr : r = ⟨#[47, 112, 107, 103, 47]⟩ ++ f) :
    Calls Tryz.prog 29 #[.agg rq, .string ⟨#[47, 112, 107, 103]⟩, .agg (sent (dotted f)), .string ⟨#[]⟩, .bool false, .bool b, v6] w (TgtOut r 3 w) := by
  have HF0 := Lib.hid (Fr.start w (sent (dotted f)) (dbg ⟨#[]⟩))
  obtain ⟨t, ht⟩ : ∃ t, t = dotted f := ⟨_, rfl⟩
  rw [← ht] at HF0 ⊢
  have Hs := Lib.hid hs
  have Hne := Lib.hid hne
  have Hb := Lib.hid hb
  have Ht := Lib.hid ht
  have Hr := Lib.hid hr
  clear hs hne hb ht hr
  unfold rq sent dbg at HF0
  unfold rq sent
  go_enter Tryz.func29, Tryz.ntmps29
  go_upto_region 1 with fail
  have hF := HF0.out
  generalize hw1 : World.alloc _ _ = w1 at hF ⊢
  clear hw1 HF0
  have q2 := cell_of_heap hF.q 2
  have d0 := cell_of_heap hF.d 0
  have d1 := cell_of_heap hF.d 1
  have d2 := cell_of_heap hF.d 2
  have d3 := cell_of_heap hF.d 3
  have d4 := cell_of_heap hF.d 4
  have d5 := cell_of_heap hF.d 5
  have d6 := cell_of_heap hF.d 6
  have z0 := cell_of_heap hF.z 0
  have z1 := cell_of_heap hF.z 1
  have z2 := cell_of_heap hF.z 2
  have z3 := cell_of_heap hF.z 3
  have z4 := cell_of_heap hF.z 4
  simp [rq] at q2 d0 d1 d2 d3 d4 d5 d6 z0 z1 z2 z3 z4
  have fz : ∀ j, w1.frozen? ⟨w.heap.size + 1 + 1, j, none⟩ = false := fun j => frozen_of_heap hF.z j
  have l1 := heap_lt hF.q
  have l2 := heap_lt hF.d
  have l3 := heap_lt hF.z
  have HF := Lib.hid hF
  clear hF
  go_wp2_with fail
  refine (Tryz.strings_HasPrefix t ⟨#[46, 47]⟩ w1).mono ?_
  rintro e1 w2 ⟨rfl, rfl⟩
  have hpre : Lib.hasPrefix t.data.toList [46, 47] = true := by rw [Ht.out]; exact pre_dot f
  rw [hpre]
  clear hpre
  go_wp2_with fail
  refine (find38_dot t f ⟨#[]⟩ w2 Ht.out Hs.out (fun h => absurd h Hb.out) (fun _ => rfl)).mono ?_
  rintro e3 w3 ⟨rfl, hc3⟩
  have hF3 := HF.out.keep hc3
  clear q2 d0 d1 d2 d3 d4 d5 d6 z0 z1 z2 z3 z4 fz l1 l2 l3
  clear hc3
  have q23 := cell_of_heap hF3.q 2
  have d03 := cell_of_heap hF3.d 0
  have d13 := cell_of_heap hF3.d 1
  have d23 := cell_of_heap hF3.d 2
  have d33 := cell_of_heap hF3.d 3
  have d43 := cell_of_heap hF3.d 4
  have d53 := cell_of_heap hF3.d 5
  have d63 := cell_of_heap hF3.d 6
  have z03 := cell_of_heap hF3.z 0
  have z13 := cell_of_heap hF3.z 1
  have z23 := cell_of_heap hF3.z 2
  have z33 := cell_of_heap hF3.z 3
  have z43 := cell_of_heap hF3.z 4
  simp [rq] at q23 d03 d13 d23 d33 d43 d53 d63 z03 z13 z23 z33 z43
  have fz3 : ∀ j, w3.frozen? ⟨w.heap.size + 1 + 1, j, none⟩ = false := fun j => frozen_of_heap hF3.z j
  have l13 := heap_lt hF3.q
  have l23 := heap_lt hF3.d
  have l33 := heap_lt hF3.z
  have HF3 := Lib.hid hF3
  clear hF3
  go_wp2_with fail
  have Hcj := Lib.hid (str_cells ⟨#[47, 112, 107, 103]⟩ t w3)
  have hF4 := HF3.out.keep ((Chg.refl Nowhere w3).alloc (.cells #[.string ⟨#[47, 112, 107, 103]⟩, .string t] 9))
  have hl4 : w3.heap.size < (w3.alloc (.cells #[.string ⟨#[47, 112, 107, 103]⟩, .string t] 9)).heap.size := by simp
  generalize hw4 : w3.alloc _ = w4 at hF4 hl4 Hcj ⊢
  clear hw4
  have htsz : t.size = f.size + 2 := by rw [Ht.out]; exact dotted_size f
  refine (Tryz.path_Join_rules w3.heap.size 0 2 [⟨#[47, 112, 107, 103]⟩, t] w4 Hcj.out hl4 (by
    simp only [List.map_cons, List.map_nil, Lib.Pa.lens, List.length_cons, List.length_nil]
    have : ∀ x : ByteArray, x.data.toList.length = x.size := fun x => by rw [Array.length_toList]; rfl
    simp only [List.sum_cons, List.sum_nil, this]
    have hp : (ByteArray.mk #[47, 112, 107, 103]).size = 4 := rfl
    have hz : (ByteArray.mk #[]).size = 0 := rfl
    omega)).mono ?_
  rintro e5 w5 ⟨rfl, hc5⟩
  rw [joined1 t f Ht.out Hs.out Hne.out Hb.out, ← Hr.out]
  have hF5 := hF4.keep (below_chg hc5)
  clear q23 d03 d13 d23 d33 d43 d53 d63 z03 z13 z23 z33 z43 fz3 l13 l23 l33
  clear hc5 hF4 hl4 Hcj
  have q25 := cell_of_heap hF5.q 2
  have d05 := cell_of_heap hF5.d 0
  have d15 := cell_of_heap hF5.d 1
  have d25 := cell_of_heap hF5.d 2
  have d35 := cell_of_heap hF5.d 3
  have d45 := cell_of_heap hF5.d 4
  have d55 := cell_of_heap hF5.d 5
  have d65 := cell_of_heap hF5.d 6
  have z05 := cell_of_heap hF5.z 0
  have z15 := cell_of_heap hF5.z 1
  have z25 := cell_of_heap hF5.z 2
  have z35 := cell_of_heap hF5.z 3
  have z45 := cell_of_heap hF5.z 4
  simp [rq] at q25 d05 d15 d25 d35 d45 d55 d65 z05 z15 z25 z35 z45
  have fz5 : ∀ j, w5.frozen? ⟨w.heap.size + 1 + 1, j, none⟩ = false := fun j => frozen_of_heap hF5.z j
  have l15 := heap_lt hF5.q
  have l25 := heap_lt hF5.d
  have l35 := heap_lt hF5.z
  have HF5 := Lib.hid hF5
  clear hF5
  go_wp2_with fail
  refine (find38_none ⟨#[]⟩ w5 (fun i hi => by cases hi)).mono ?_
  rintro e6 w6 ⟨rfl, hc6⟩
  have hF6 := HF5.out.keep hc6
  clear q25 d05 d15 d25 d35 d45 d55 d65 z05 z15 z25 z35 z45 fz5 l15 l25 l35
  clear hc6
  have q26 := cell_of_heap hF6.q 2
  have d06 := cell_of_heap hF6.d 0
  have d16 := cell_of_heap hF6.d 1
  have d26 := cell_of_heap hF6.d 2
  have d36 := cell_of_heap hF6.d 3
  have d46 := cell_of_heap hF6.d 4
  have d56 := cell_of_heap hF6.d 5
  have d66 := cell_of_heap hF6.d 6
  have z06 := cell_of_heap hF6.z 0
  have z16 := cell_of_heap hF6.z 1
  have z26 := cell_of_heap hF6.z 2
  have z36 := cell_of_heap hF6.z 3
  have z46 := cell_of_heap hF6.z 4
  simp [rq] at q26 d06 d16 d26 d36 d46 d56 d66 z06 z16 z26 z36 z46
  have fz6 : ∀ j, w6.frozen? ⟨w.heap.size + 1 + 1, j, none⟩ = false := fun j => frozen_of_heap hF6.z j
  have l16 := heap_lt hF6.q
  have l26 := heap_lt hF6.d
  have l36 := heap_lt hF6.z
  have HF6 := Lib.hid hF6
  clear hF6
  go_wp2_with fail
  have Hcj := Lib.hid (str_cells r ⟨#[]⟩ w6)
  have hF7 := HF6.out.keep ((Chg.refl Nowhere w6).alloc (.cells #[.string r, .string ⟨#[]⟩] 9))
  have hl7 : w6.heap.size < (w6.alloc (.cells #[.string r, .string ⟨#[]⟩] 9)).heap.size := by simp
  generalize hw7 : w6.alloc _ = w7 at hF7 hl7 Hcj ⊢
  clear hw7
  have hrsz : r.size = f.size + 5 := by rw [Hr.out, ByteArray.size_append]; show 5 + f.size = _; omega
  refine (Tryz.path_Join_rules w6.heap.size 0 2 [r, ⟨#[]⟩] w7 Hcj.out hl7 (by
    simp only [List.map_cons, List.map_nil, Lib.Pa.lens, List.length_cons, List.length_nil]
    have : ∀ x : ByteArray, x.data.toList.length = x.size := fun x => by rw [Array.length_toList]; rfl
    simp only [List.sum_cons, List.sum_nil, this]
    have hp : (ByteArray.mk #[47, 112, 107, 103]).size = 4 := rfl
    have hz : (ByteArray.mk #[]).size = 0 := rfl
    omega)).mono ?_
  rintro e8 w8 ⟨rfl, hc8⟩
  rw [joined2 r f Hr.out Hs.out Hne.out Hb.out]
  have hF8 := hF7.keep (below_chg hc8)
  clear q26 d06 d16 d26 d36 d46 d56 d66 z06 z16 z26 z36 z46 fz6 l16 l26 l36
  clear hc8 hF7 hl7 Hcj
  have q28 := cell_of_heap hF8.q 2
  have d08 := cell_of_heap hF8.d 0
  have d18 := cell_of_heap hF8.d 1
  have d28 := cell_of_heap hF8.d 2
  have d38 := cell_of_heap hF8.d 3
  have d48 := cell_of_heap hF8.d 4
  have d58 := cell_of_heap hF8.d 5
  have d68 := cell_of_heap hF8.d 6
  have z08 := cell_of_heap hF8.z 0
  have z18 := cell_of_heap hF8.z 1
  have z28 := cell_of_heap hF8.z 2
  have z38 := cell_of_heap hF8.z 3
  have z48 := cell_of_heap hF8.z 4
  simp [rq] at q28 d08 d18 d28 d38 d48 d58 d68 z08 z18 z28 z38 z48
  have fz8 : ∀ j, w8.frozen? ⟨w.heap.size + 1 + 1, j, none⟩ = false := fun j => frozen_of_heap hF8.z j
  have l18 := heap_lt hF8.q
  have l28 := heap_lt hF8.d
  have l38 := heap_lt hF8.z
  have HF8 := Lib.hid hF8
  clear hF8
  go_wp2_with fail
  go_region
  go_wp2_with fail
  refine bodyPost_ret (v := .tuple #[.string r, .int .u8 3, .agg (dbg ⟨#[]⟩)]) ?_ rfl ⟨⟨_, rfl⟩, (st5_chg HF8.out.chg (by omega) _ _ _ _ _).drew⟩
  exact (results_ttc (t := 14) (u := 15) (p := 16) (ty := 45) (by rfl) _ _ _ (w.heap.size + 1 + 1) _ (by rfl) (load45 ((congrArg (fun hp : Array Obj => hp[w.heap.size + 1 + 1]?) (drew_heap _)).trans (st5_heap HF8.out.z _ _ _ _ _)) (by rfl))).trans (by rfl)
end Go.Proofs.YtcbmankbjgbjgaaGreatFmt
