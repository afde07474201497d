/-
  Proved: the walk of FnConstValueRoundTripThroughExpr at each kind: it returns true. The tables' cells are as Go's text lays them. No statement of the seat stands here.
-/
import Derived.Test.YtjbnddhohkociaaDoorJh
namespace Go.Proofs.YtjbnddhohkociaaDoor
open Go.RowKit Go.ChangeAt
set_option linter.unusedSimpArgs false
set_option linter.unusedVariables false
set_option maxRecDepth 100000
def LawOut (w : World) (e : Ending) (w' : World) : Prop := e = .returned (.bool true) ∧ Chg Nowhere w w'
theorem same12 (b : Nat) (w : World) : Calls Tryd.prog 12 #[.float .f64 b, .float .f64 b] w (Same (.bool true) w) := sameF12 b w
set_option maxHeartbeats 8000000 in
theorem law1 (s : Int) (b : Nat) (a : Option Addr) (n c : Nat) (zs : Nat → Int) (w : World) (hnil : a = none → n = 0 ∧ c = 0) (hn : n ≤ 65536) (hR : Reads w a n (U16 zs)) (hb : b < 18446744073709551616) (hT : TabP w) (hU : Lib.TabIs Tryd.prog w "internal/strconv.uint64pow10" .u64 Lib.pow10Tab)  :
    Calls Tryd.prog 4 #[.int .i32 s, .int .u8 1, .float .f64 b, .slice a n c] w (LawOut w) := by
  have HR := Lib.hid (And.intro hnil hR)
  have HT := Lib.hid (And.intro hb (And.intro hT hU))
  have hn0 : ¬ (65536 : Int) < (n : Int) := by omega
  have sf := store_f64
  have hq := fun a n c => eqNil a n c
  clear hnil hR hb hT hU
  go_enter Tryd.func4, Tryd.ntmps4
  go_wp2_with fail
  refine (zb11 _ _ _ a n c w).mono ?_
  rintro e1 w1 ⟨r, rfl, rfl, hr⟩
  clear hr
  cases r
  · go_wp2_with fail
    go_ret
    exact ⟨rfl, Chg.refl _ _⟩
  go_wp2_with fail
  refine (clone6 a n c zs w HR.out.1 (by omega) HR.out.2).mono ?_
  rintro e2 w2 ⟨a2, c2, rfl, hR2, hC2, hL2⟩
  have H2 := Lib.hid (And.intro hR2 (And.intro hC2 hL2))
  clear hR2 hC2 hL2
  go_wp2_with fail
  refine (c2eNull s b a2 n c2 _).mono ?_
  rintro e3 w3 ⟨g, D, rfl, hg, hC3⟩
  have hC0 : Chg Nowhere w2 ((w2.alloc (.cells #[.int .i32 s] 27)).alloc (.cells #[.float .f64 b, .slice a2 n c2, .int .u8 1] 30)) := ((Chg.refl _ w2).alloc _).alloc _
  have hl : ((w2.alloc (.cells #[.int .i32 s] 27)).alloc (.cells #[.float .f64 b, .slice a2 n c2, .int .u8 1] 30)).heap[w2.heap.size]? = some (.cells #[.int .i32 s] 27 (0, 0)) := heap_keep (heap_at w2 _ _ rfl) _
  have l0 := cell_of_heap (hC3.heap hl (fun h => h)) 0
  simp only [List.getElem?_toArray, List.getElem?_cons_succ, List.getElem?_cons_zero] at l0
  have lz := heap_lt (hC3.heap hl (fun h => h))
  have g0 := cell_of_heap hg 0
  have lg := heap_lt hg
  have H3 := Lib.hid (And.intro (hC0.trans hC3 (fun _ _ h => h)) hg)
  generalize w2.heap.size = g2 at l0 lz ⊢
  clear hC0 hC3 hl hg
  go_wp2_with fail
  have hC4 : Chg Nowhere w3 (w3.alloc (.cells #[.iface 44 (.pointer (some ⟨g, 0, none⟩)), .int .i32 s] 35)) := (Chg.refl _ w3).alloc _
  have hC5 : Chg Nowhere w (w3.alloc (.cells #[.iface 44 (.pointer (some ⟨g, 0, none⟩)), .int .i32 s] 35)) := (H2.out.2.1.trans H3.out.1 (fun _ _ h => h)).trans hC4 (fun _ _ h => h)
  simp only [List.getElem?_toArray, List.getElem?_cons_succ, List.getElem?_cons_zero] at g0
  refine (e2cNull (some ⟨g, 0, none⟩) s _).mono ?_
  rintro e4 w4 ⟨rfl, hC6⟩
  have H5 := Lib.hid (hC5.trans hC6 (fun _ _ h => h))
  clear hC4 hC5 hC6 g0
  go_wp2_with fail
  refine (sameF12 0 _).mono ?_
  rintro e5 w5 ⟨rfl, rfl⟩
  go_wp2_with fail
  go_ret
  exact ⟨rfl, H5.out.alloc _⟩

set_option maxHeartbeats 8000000 in
theorem law2 (s : Int) (b : Nat) (a : Option Addr) (n c : Nat) (zs : Nat → Int) (w : World) (hnil : a = none → n = 0 ∧ c = 0) (hn : n ≤ 65536) (hR : Reads w a n (U16 zs)) (hb : b < 18446744073709551616) (hT : TabP w) (hU : Lib.TabIs Tryd.prog w "internal/strconv.uint64pow10" .u64 Lib.pow10Tab)  :
    Calls Tryd.prog 4 #[.int .i32 s, .int .u8 2, .float .f64 b, .slice a n c] w (LawOut w) := by
  have HR := Lib.hid (And.intro hnil hR)
  have HT := Lib.hid (And.intro hb (And.intro hT hU))
  have hn0 : ¬ (65536 : Int) < (n : Int) := by omega
  have sf := store_f64
  have hq := fun a n c => eqNil a n c
  clear hnil hR hb hT hU
  go_enter Tryd.func4, Tryd.ntmps4
  go_wp2_with fail
  refine (zb11 _ _ _ a n c w).mono ?_
  rintro e1 w1 ⟨r, rfl, rfl, hr⟩
  clear hr
  cases r
  · go_wp2_with fail
    go_ret
    exact ⟨rfl, Chg.refl _ _⟩
  go_wp2_with fail
  refine (clone6 a n c zs w HR.out.1 (by omega) HR.out.2).mono ?_
  rintro e2 w2 ⟨a2, c2, rfl, hR2, hC2, hL2⟩
  have H2 := Lib.hid (And.intro hR2 (And.intro hC2 hL2))
  clear hR2 hC2 hL2
  go_wp2_with fail
  refine (c2eUndef s b a2 n c2 _).mono ?_
  rintro e3 w3 ⟨g, D, rfl, hg, hC3⟩
  have hC0 : Chg Nowhere w2 ((w2.alloc (.cells #[.int .i32 s] 27)).alloc (.cells #[.float .f64 b, .slice a2 n c2, .int .u8 2] 30)) := ((Chg.refl _ w2).alloc _).alloc _
  have hl : ((w2.alloc (.cells #[.int .i32 s] 27)).alloc (.cells #[.float .f64 b, .slice a2 n c2, .int .u8 2] 30)).heap[w2.heap.size]? = some (.cells #[.int .i32 s] 27 (0, 0)) := heap_keep (heap_at w2 _ _ rfl) _
  have l0 := cell_of_heap (hC3.heap hl (fun h => h)) 0
  simp only [List.getElem?_toArray, List.getElem?_cons_succ, List.getElem?_cons_zero] at l0
  have lz := heap_lt (hC3.heap hl (fun h => h))
  have g0 := cell_of_heap hg 0
  have lg := heap_lt hg
  have H3 := Lib.hid (And.intro (hC0.trans hC3 (fun _ _ h => h)) hg)
  generalize w2.heap.size = g2 at l0 lz ⊢
  clear hC0 hC3 hl hg
  go_wp2_with fail
  have hC4 : Chg Nowhere w3 (w3.alloc (.cells #[.iface 45 (.pointer (some ⟨g, 0, none⟩)), .int .i32 s] 35)) := (Chg.refl _ w3).alloc _
  have hC5 : Chg Nowhere w (w3.alloc (.cells #[.iface 45 (.pointer (some ⟨g, 0, none⟩)), .int .i32 s] 35)) := (H2.out.2.1.trans H3.out.1 (fun _ _ h => h)).trans hC4 (fun _ _ h => h)
  simp only [List.getElem?_toArray, List.getElem?_cons_succ, List.getElem?_cons_zero] at g0
  refine (e2cUndef (some ⟨g, 0, none⟩) s _).mono ?_
  rintro e4 w4 ⟨rfl, hC6⟩
  have H5 := Lib.hid (hC5.trans hC6 (fun _ _ h => h))
  clear hC4 hC5 hC6 g0
  go_wp2_with fail
  refine (sameF12 0 _).mono ?_
  rintro e5 w5 ⟨rfl, rfl⟩
  go_wp2_with fail
  go_ret
  exact ⟨rfl, H5.out.alloc _⟩

set_option maxHeartbeats 8000000 in
theorem law3 (s : Int) (b : Nat) (a : Option Addr) (n c : Nat) (zs : Nat → Int) (w : World) (hnil : a = none → n = 0 ∧ c = 0) (hn : n ≤ 65536) (hR : Reads w a n (U16 zs)) (hb : b < 18446744073709551616) (hT : TabP w) (hU : Lib.TabIs Tryd.prog w "internal/strconv.uint64pow10" .u64 Lib.pow10Tab)  :
    Calls Tryd.prog 4 #[.int .i32 s, .int .u8 3, .float .f64 b, .slice a n c] w (LawOut w) := by
  have HR := Lib.hid (And.intro hnil hR)
  have HT := Lib.hid (And.intro hb (And.intro hT hU))
  have hn0 : ¬ (65536 : Int) < (n : Int) := by omega
  have sf := store_f64
  have hq := fun a n c => eqNil a n c
  clear hnil hR hb hT hU
  go_enter Tryd.func4, Tryd.ntmps4
  go_wp2_with fail
  refine (zb11 _ _ _ a n c w).mono ?_
  rintro e1 w1 ⟨r, rfl, rfl, hr⟩
  clear hr
  cases r
  · go_wp2_with fail
    go_ret
    exact ⟨rfl, Chg.refl _ _⟩
  go_wp2_with fail
  refine (clone6 a n c zs w HR.out.1 (by omega) HR.out.2).mono ?_
  rintro e2 w2 ⟨a2, c2, rfl, hR2, hC2, hL2⟩
  have H2 := Lib.hid (And.intro hR2 (And.intro hC2 hL2))
  clear hR2 hC2 hL2
  go_wp2_with fail
  refine (c2eTrue s b a2 n c2 _).mono ?_
  rintro e3 w3 ⟨g, D, rfl, hg, hC3⟩
  have hC0 : Chg Nowhere w2 ((w2.alloc (.cells #[.int .i32 s] 27)).alloc (.cells #[.float .f64 b, .slice a2 n c2, .int .u8 3] 30)) := ((Chg.refl _ w2).alloc _).alloc _
  have hl : ((w2.alloc (.cells #[.int .i32 s] 27)).alloc (.cells #[.float .f64 b, .slice a2 n c2, .int .u8 3] 30)).heap[w2.heap.size]? = some (.cells #[.int .i32 s] 27 (0, 0)) := heap_keep (heap_at w2 _ _ rfl) _
  have l0 := cell_of_heap (hC3.heap hl (fun h => h)) 0
  simp only [List.getElem?_toArray, List.getElem?_cons_succ, List.getElem?_cons_zero] at l0
  have lz := heap_lt (hC3.heap hl (fun h => h))
  have g0 := cell_of_heap hg 0
  have lg := heap_lt hg
  have H3 := Lib.hid (And.intro (hC0.trans hC3 (fun _ _ h => h)) hg)
  generalize w2.heap.size = g2 at l0 lz ⊢
  clear hC0 hC3 hl hg
  go_wp2_with fail
  have hC4 : Chg Nowhere w3 (w3.alloc (.cells #[.iface 46 (.pointer (some ⟨g, 0, none⟩)), .int .i32 s] 35)) := (Chg.refl _ w3).alloc _
  have hC5 : Chg Nowhere w (w3.alloc (.cells #[.iface 46 (.pointer (some ⟨g, 0, none⟩)), .int .i32 s] 35)) := (H2.out.2.1.trans H3.out.1 (fun _ _ h => h)).trans hC4 (fun _ _ h => h)
  simp only [List.getElem?_toArray, List.getElem?_cons_succ, List.getElem?_cons_zero] at g0
  refine (e2cTrue s g _ (hC4.cell g0 (fun h => h))).mono ?_
  rintro e4 w4 ⟨rfl, hC6⟩
  have H5 := Lib.hid (hC5.trans hC6 (fun _ _ h => h))
  clear hC4 hC5 hC6 g0
  go_wp2_with fail
  refine (sameF12 0 _).mono ?_
  rintro e5 w5 ⟨rfl, rfl⟩
  go_wp2_with fail
  go_ret
  exact ⟨rfl, H5.out.alloc _⟩

set_option maxHeartbeats 8000000 in
theorem law4 (s : Int) (b : Nat) (a : Option Addr) (n c : Nat) (zs : Nat → Int) (w : World) (hnil : a = none → n = 0 ∧ c = 0) (hn : n ≤ 65536) (hR : Reads w a n (U16 zs)) (hb : b < 18446744073709551616) (hT : TabP w) (hU : Lib.TabIs Tryd.prog w "internal/strconv.uint64pow10" .u64 Lib.pow10Tab)  :
    Calls Tryd.prog 4 #[.int .i32 s, .int .u8 4, .float .f64 b, .slice a n c] w (LawOut w) := by
  have HR := Lib.hid (And.intro hnil hR)
  have HT := Lib.hid (And.intro hb (And.intro hT hU))
  have hn0 : ¬ (65536 : Int) < (n : Int) := by omega
  have sf := store_f64
  have hq := fun a n c => eqNil a n c
  clear hnil hR hb hT hU
  go_enter Tryd.func4, Tryd.ntmps4
  go_wp2_with fail
  refine (zb11 _ _ _ a n c w).mono ?_
  rintro e1 w1 ⟨r, rfl, rfl, hr⟩
  clear hr
  cases r
  · go_wp2_with fail
    go_ret
    exact ⟨rfl, Chg.refl _ _⟩
  go_wp2_with fail
  refine (clone6 a n c zs w HR.out.1 (by omega) HR.out.2).mono ?_
  rintro e2 w2 ⟨a2, c2, rfl, hR2, hC2, hL2⟩
  have H2 := Lib.hid (And.intro hR2 (And.intro hC2 hL2))
  clear hR2 hC2 hL2
  go_wp2_with fail
  refine (c2eFalse s b a2 n c2 _).mono ?_
  rintro e3 w3 ⟨g, D, rfl, hg, hC3⟩
  have hC0 : Chg Nowhere w2 ((w2.alloc (.cells #[.int .i32 s] 27)).alloc (.cells #[.float .f64 b, .slice a2 n c2, .int .u8 4] 30)) := ((Chg.refl _ w2).alloc _).alloc _
  have hl : ((w2.alloc (.cells #[.int .i32 s] 27)).alloc (.cells #[.float .f64 b, .slice a2 n c2, .int .u8 4] 30)).heap[w2.heap.size]? = some (.cells #[.int .i32 s] 27 (0, 0)) := heap_keep (heap_at w2 _ _ rfl) _
  have l0 := cell_of_heap (hC3.heap hl (fun h => h)) 0
  simp only [List.getElem?_toArray, List.getElem?_cons_succ, List.getElem?_cons_zero] at l0
  have lz := heap_lt (hC3.heap hl (fun h => h))
  have g0 := cell_of_heap hg 0
  have lg := heap_lt hg
  have H3 := Lib.hid (And.intro (hC0.trans hC3 (fun _ _ h => h)) hg)
  generalize w2.heap.size = g2 at l0 lz ⊢
  clear hC0 hC3 hl hg
  go_wp2_with fail
  have hC4 : Chg Nowhere w3 (w3.alloc (.cells #[.iface 46 (.pointer (some ⟨g, 0, none⟩)), .int .i32 s] 35)) := (Chg.refl _ w3).alloc _
  have hC5 : Chg Nowhere w (w3.alloc (.cells #[.iface 46 (.pointer (some ⟨g, 0, none⟩)), .int .i32 s] 35)) := (H2.out.2.1.trans H3.out.1 (fun _ _ h => h)).trans hC4 (fun _ _ h => h)
  simp only [List.getElem?_toArray, List.getElem?_cons_succ, List.getElem?_cons_zero] at g0
  refine (e2cFalse s g _ (hC4.cell g0 (fun h => h))).mono ?_
  rintro e4 w4 ⟨rfl, hC6⟩
  have H5 := Lib.hid (hC5.trans hC6 (fun _ _ h => h))
  clear hC4 hC5 hC6 g0
  go_wp2_with fail
  refine (sameF12 0 _).mono ?_
  rintro e5 w5 ⟨rfl, rfl⟩
  go_wp2_with fail
  go_ret
  exact ⟨rfl, H5.out.alloc _⟩

set_option maxHeartbeats 8000000 in
theorem law5 (s : Int) (b : Nat) (a : Option Addr) (n c : Nat) (zs : Nat → Int) (w : World) (hnil : a = none → n = 0 ∧ c = 0) (hn : n ≤ 65536) (hR : Reads w a n (U16 zs)) (hb : b < 18446744073709551616) (hT : TabP w) (hU : Lib.TabIs Tryd.prog w "internal/strconv.uint64pow10" .u64 Lib.pow10Tab) (hz : (∃ n, floatToIntVal .f64 b .i64 = some n ∧ (FloatKind.f64.format.order b (floatOfInt .f64 n) == some .eq) = true) ∨ fE b = 2047 ∨ fMant b ≠ 0) :
    Calls Tryd.prog 4 #[.int .i32 s, .int .u8 5, .float .f64 b, .slice a n c] w (LawOut w) := by
  have HR := Lib.hid (And.intro hnil hR)
  have HT := Lib.hid (And.intro hb (And.intro hT hU))
  have hn0 : ¬ (65536 : Int) < (n : Int) := by omega
  have sf := store_f64
  have hq := fun a n c => eqNil a n c
  clear hnil hR hb hT hU
  go_enter Tryd.func4, Tryd.ntmps4
  go_wp2_with fail
  refine (zb11 _ _ _ a n c w).mono ?_
  rintro e1 w1 ⟨r, rfl, rfl, hr⟩
  clear hr
  cases r
  · go_wp2_with fail
    go_ret
    exact ⟨rfl, Chg.refl _ _⟩
  go_wp2_with fail
  refine (clone6 a n c zs w HR.out.1 (by omega) HR.out.2).mono ?_
  rintro e2 w2 ⟨a2, c2, rfl, hR2, hC2, hL2⟩
  have H2 := Lib.hid (And.intro hR2 (And.intro hC2 hL2))
  clear hR2 hC2 hL2
  go_wp2_with fail
  refine (c2eNum s b a2 n c2 _).mono ?_
  rintro e3 w3 ⟨g, D, rfl, hg, hC3⟩
  have hC0 : Chg Nowhere w2 ((w2.alloc (.cells #[.int .i32 s] 27)).alloc (.cells #[.float .f64 b, .slice a2 n c2, .int .u8 5] 30)) := ((Chg.refl _ w2).alloc _).alloc _
  have hl : ((w2.alloc (.cells #[.int .i32 s] 27)).alloc (.cells #[.float .f64 b, .slice a2 n c2, .int .u8 5] 30)).heap[w2.heap.size]? = some (.cells #[.int .i32 s] 27 (0, 0)) := heap_keep (heap_at w2 _ _ rfl) _
  have l0 := cell_of_heap (hC3.heap hl (fun h => h)) 0
  simp only [List.getElem?_toArray, List.getElem?_cons_succ, List.getElem?_cons_zero] at l0
  have lz := heap_lt (hC3.heap hl (fun h => h))
  have g0 := cell_of_heap hg 0
  have lg := heap_lt hg
  have H3 := Lib.hid (And.intro (hC0.trans hC3 (fun _ _ h => h)) hg)
  generalize w2.heap.size = g2 at l0 lz ⊢
  clear hC0 hC3 hl hg
  go_wp2_with fail
  have hC4 : Chg Nowhere w3 (w3.alloc (.cells #[.iface 49 (.pointer (some ⟨g, 0, none⟩)), .int .i32 s] 35)) := (Chg.refl _ w3).alloc _
  have hC5 : Chg Nowhere w (w3.alloc (.cells #[.iface 49 (.pointer (some ⟨g, 0, none⟩)), .int .i32 s] 35)) := (H2.out.2.1.trans H3.out.1 (fun _ _ h => h)).trans hC4 (fun _ _ h => h)
  simp only [List.getElem?_toArray, List.getElem?_cons_succ, List.getElem?_cons_zero] at g0
  refine (e2cNum g b s _ (by have := hC4.size; omega) (hC4.cell g0 (fun h => h)) HT.out.1 hz (HT.out.2.1.keep hC5) (tabIs_keep HT.out.2.1 HT.out.2.2 hC5)).mono ?_
  rintro e4 w4 ⟨r, rfl, hC6, hN⟩
  have H5 := Lib.hid (And.intro (hC5.trans hC6 (fun _ _ h => h)) hN)
  clear hC4 hC5 hC6 hN g0
  cases r
  · rw [if_neg (by decide)]
    unfold cvZero
    go_wp2_with fail
    refine (isZero10 _).mono ?_
    rintro e5 w5 ⟨rfl, hC7⟩
    have H6 : Hid (Chg Nowhere w w5) := Lib.hid ((H5.out.1.alloc _).trans hC7 (fun _ _ h => h))
    clear hC7
    go_wp2_with fail
    refine (must13 b HT.out.1 (H5.out.2 (by first | rfl | trivial)) _).mono ?_
    rintro e6 w6 ⟨rfl, rfl⟩
    go_wp2_with fail
    go_ret
    exact ⟨rfl, H6.out⟩
  · rw [if_pos rfl]
    go_wp2_with fail
    refine (sameF12 b _).mono ?_
    rintro e5 w5 ⟨rfl, rfl⟩
    go_wp2_with fail
    go_ret
    exact ⟨rfl, H5.out.1.alloc _⟩

set_option maxHeartbeats 8000000 in
theorem law6 (s : Int) (b : Nat) (a : Option Addr) (n c : Nat) (zs : Nat → Int) (w : World) (hnil : a = none → n = 0 ∧ c = 0) (hn : n ≤ 65536) (hR : Reads w a n (U16 zs)) (hb : b < 18446744073709551616) (hT : TabP w) (hU : Lib.TabIs Tryd.prog w "internal/strconv.uint64pow10" .u64 Lib.pow10Tab)  :
    Calls Tryd.prog 4 #[.int .i32 s, .int .u8 6, .float .f64 b, .slice a n c] w (LawOut w) := by
  have HR := Lib.hid (And.intro hnil hR)
  have HT := Lib.hid (And.intro hb (And.intro hT hU))
  have hn0 : ¬ (65536 : Int) < (n : Int) := by omega
  have sf := store_f64
  have hq := fun a n c => eqNil a n c
  clear hnil hR hb hT hU
  go_enter Tryd.func4, Tryd.ntmps4
  go_wp2_with fail
  refine (zb11 _ _ _ a n c w).mono ?_
  rintro e1 w1 ⟨r, rfl, rfl, hr⟩
  clear hr
  cases r
  · go_wp2_with fail
    go_ret
    exact ⟨rfl, Chg.refl _ _⟩
  go_wp2_with fail
  refine (clone6 a n c zs w HR.out.1 (by omega) HR.out.2).mono ?_
  rintro e2 w2 ⟨a2, c2, rfl, hR2, hC2, hL2⟩
  have H2 := Lib.hid (And.intro hR2 (And.intro hC2 hL2))
  clear hR2 hC2 hL2
  go_wp2_with fail
  refine (c2eStr s b a2 n c2 _).mono ?_
  rintro e3 w3 ⟨g, D, rfl, hg, hC3⟩
  have hC0 : Chg Nowhere w2 ((w2.alloc (.cells #[.int .i32 s] 27)).alloc (.cells #[.float .f64 b, .slice a2 n c2, .int .u8 6] 30)) := ((Chg.refl _ w2).alloc _).alloc _
  have hl : ((w2.alloc (.cells #[.int .i32 s] 27)).alloc (.cells #[.float .f64 b, .slice a2 n c2, .int .u8 6] 30)).heap[w2.heap.size]? = some (.cells #[.int .i32 s] 27 (0, 0)) := heap_keep (heap_at w2 _ _ rfl) _
  have l0 := cell_of_heap (hC3.heap hl (fun h => h)) 0
  simp only [List.getElem?_toArray, List.getElem?_cons_succ, List.getElem?_cons_zero] at l0
  have lz := heap_lt (hC3.heap hl (fun h => h))
  have g0 := cell_of_heap hg 0
  have lg := heap_lt hg
  have H3 := Lib.hid (And.intro (hC0.trans hC3 (fun _ _ h => h)) hg)
  generalize w2.heap.size = g2 at l0 lz ⊢
  clear hC0 hC3 hl hg
  go_wp2_with fail
  by_cases h3 : n ≤ 3
  · have hC4 : Chg Nowhere w3 (w3.alloc (.cells #[.iface 53 (.pointer (some ⟨g, 0, none⟩)), .int .i32 s] 35)) := (Chg.refl _ w3).alloc _
    have hC5 : Chg Nowhere w (w3.alloc (.cells #[.iface 53 (.pointer (some ⟨g, 0, none⟩)), .int .i32 s] 35)) := (H2.out.2.1.trans H3.out.1 (fun _ _ h => h)).trans hC4 (fun _ _ h => h)
    simp only [List.getElem?_toArray, List.getElem?_cons_succ, List.getElem?_cons_zero] at g0
    refine (e2cStr s g a2 n c2 _ (hC4.cell g0 (fun h => h)) h3).mono ?_
    rintro e4 w4 ⟨rfl, hC6⟩
    have H5 := Lib.hid (And.intro (hC5.trans hC6 (fun _ _ h => h)) ((H3.out.1.trans hC4 (fun _ _ h => h)).trans hC6 (fun _ _ h => h)))
    have hn3 : (n : Int) ≤ 3 := by omega
    clear hC4 hC5 hC6 g0 h3
    go_wp2_with fail
    refine (sameF12 0 _).mono ?_
    rintro e5 w5 ⟨rfl, rfl⟩
    go_wp2_with fail
    refine (same14 a2 n c2 c2 zs _ (by omega) (H2.out.1.kept (H5.out.2.alloc _) (fun _ _ _ h => h))).mono ?_
    rintro e6 w6 ⟨rfl, q, rfl⟩
    go_wp2_with fail
    go_ret
    exact ⟨rfl, (H5.out.1.alloc _).drewN q⟩
  · have hC4 : Chg Nowhere w3 (w3.alloc (.cells #[.iface 53 (.pointer (some ⟨g, 0, none⟩)), .int .i32 s] 35)) := (Chg.refl _ w3).alloc _
    have hC5 : Chg Nowhere w (w3.alloc (.cells #[.iface 53 (.pointer (some ⟨g, 0, none⟩)), .int .i32 s] 35)) := (H2.out.2.1.trans H3.out.1 (fun _ _ h => h)).trans hC4 (fun _ _ h => h)
    simp only [List.getElem?_toArray, List.getElem?_cons_succ, List.getElem?_cons_zero] at g0
    refine (e2cLong s g a2 n c2 _ (hC4.cell g0 (fun h => h)) h3).mono ?_
    rintro e4 w4 ⟨rfl, hC6⟩
    have H5 := Lib.hid (hC5.trans hC6 (fun _ _ h => h))
    have hn3 : ¬ (n : Int) ≤ 3 := by omega
    clear hC4 hC5 hC6 g0 h3
    unfold cvZero
    go_wp2_with fail
    refine (isZero10 _).mono ?_
    rintro e5 w5 ⟨rfl, hC7⟩
    have H6 : Hid (Chg Nowhere w w5) := Lib.hid ((H5.out.alloc _).trans hC7 (fun _ _ h => h))
    clear hC7
    go_wp2_with fail
    go_ret
    exact ⟨rfl, H6.out⟩

end Go.Proofs.YtjbnddhohkociaaDoor
