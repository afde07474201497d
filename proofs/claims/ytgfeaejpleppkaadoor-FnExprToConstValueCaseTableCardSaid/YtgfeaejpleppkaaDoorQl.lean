/-
  Proved: the walk of FnExprToConstValueCaseTable: it returns true. The tables' cells are as Go's text lays them. No statement of the seat stands here.
-/
import Derived.Test.YtgfeaejpleppkaaDoorQk
namespace Go.Proofs.YtgfeaejpleppkaaDoor
open Go.RowKit Go.ChangeAt
set_option linter.unusedSimpArgs false
set_option linter.unusedVariables false
set_option maxRecDepth 100000
def LawOut (w : World) (e : Ending) (w' : World) : Prop := e = .returned (.bool true) ∧ Chg Nowhere w w'
set_option maxHeartbeats 8000000 in
theorem lwNull (tag : Int) (bb : Bool) (b : Nat) (a : Option Addr) (n c : Nat) (s : ByteArray) (w : World) (zs : Nat → Int) (hnil : a = none → n = 0 ∧ c = 0) (hn : n ≤ 65536) (hs : s.size ≤ 65536) (hR : Reads w a n (U16 zs)) (hb : b < 18446744073709551616) (hT : TabP w) (hU : Lib.TabIs Tryd.prog w "internal/strconv.uint64pow10" .u64 Lib.pow10Tab) (ht : tag.tmod 8 = 0) : Calls Tryd.prog 5 #[.int .u8 tag, .bool bb, .float .f64 b, .slice a n c, .string s] w (LawOut w) := by
  have HR := Lib.hid (And.intro hnil (And.intro hR hn))
  have HT := Lib.hid (And.intro hb (And.intro hT hU))
  have hn0 : ¬ (65536 : Int) < (n : Int) := by omega
  have hs0 : ¬ (65536 : Int) < (s.size : Int) := by omega
  have sf := store_f64
  clear hnil hR hb hT hU hn hs
  go_enter Tryd.func5, Tryd.ntmps5
  go_wp2_with fail
  refine (zb14 _ _ _ a n c s w).mono ?_
  rintro e1 w1 ⟨r, rfl, rfl⟩
  cases r
  · go_wp2_with fail
    go_ret
    exact ⟨rfl, Chg.refl _ _⟩
  go_wp2_with fail
  refine (clone6 a n c zs w HR.out.1 (by have := HR.out.2.2; omega) HR.out.2.1).mono ?_
  rintro e2 w2 ⟨a2, c2, rfl, hR2, hC2, hL2⟩
  have H2 := Lib.hid (And.intro hR2 (And.intro hC2 hL2))
  clear hR2 hC2 hL2
  go_wp2_with fail
  refine (bdNull tag bb b a2 n c2 s _ ht).mono ?_
  rintro e3 w3 ⟨g, D, rfl, hg, hC3⟩
  have H3 := Lib.hid (H2.out.2.1.trans hC3 (fun _ _ h => h))
  clear hC3
  go_wp2_with fail
  refine (e2cNull (some ⟨g, 0, none⟩) 0 _).mono ?_
  rintro e4 w4 ⟨rfl, hC4⟩
  have H4 := Lib.hid (H3.out.trans hC4 (fun _ _ h => h))
  clear hC4
  try unfold cvZero
  go_wp2_with fail
  refine (kindOnly16 1 _).mono ?_
  rintro e5 w5 ⟨rfl, hC5⟩
  have H5 := Lib.hid ((H4.out.alloc _).trans hC5 (fun _ _ h => h))
  clear hC5
  go_wp2_with fail
  go_ret
  exact ⟨rfl, H5.out⟩
set_option maxHeartbeats 8000000 in
theorem lwUndef (tag : Int) (bb : Bool) (b : Nat) (a : Option Addr) (n c : Nat) (s : ByteArray) (w : World) (zs : Nat → Int) (hnil : a = none → n = 0 ∧ c = 0) (hn : n ≤ 65536) (hs : s.size ≤ 65536) (hR : Reads w a n (U16 zs)) (hb : b < 18446744073709551616) (hT : TabP w) (hU : Lib.TabIs Tryd.prog w "internal/strconv.uint64pow10" .u64 Lib.pow10Tab) (ht : tag.tmod 8 = 1) : Calls Tryd.prog 5 #[.int .u8 tag, .bool bb, .float .f64 b, .slice a n c, .string s] w (LawOut w) := by
  have HR := Lib.hid (And.intro hnil (And.intro hR hn))
  have HT := Lib.hid (And.intro hb (And.intro hT hU))
  have hn0 : ¬ (65536 : Int) < (n : Int) := by omega
  have hs0 : ¬ (65536 : Int) < (s.size : Int) := by omega
  have sf := store_f64
  clear hnil hR hb hT hU hn hs
  go_enter Tryd.func5, Tryd.ntmps5
  go_wp2_with fail
  refine (zb14 _ _ _ a n c s w).mono ?_
  rintro e1 w1 ⟨r, rfl, rfl⟩
  cases r
  · go_wp2_with fail
    go_ret
    exact ⟨rfl, Chg.refl _ _⟩
  go_wp2_with fail
  refine (clone6 a n c zs w HR.out.1 (by have := HR.out.2.2; omega) HR.out.2.1).mono ?_
  rintro e2 w2 ⟨a2, c2, rfl, hR2, hC2, hL2⟩
  have H2 := Lib.hid (And.intro hR2 (And.intro hC2 hL2))
  clear hR2 hC2 hL2
  go_wp2_with fail
  refine (bdUndef tag bb b a2 n c2 s _ ht).mono ?_
  rintro e3 w3 ⟨g, D, rfl, hg, hC3⟩
  have H3 := Lib.hid (H2.out.2.1.trans hC3 (fun _ _ h => h))
  clear hC3
  go_wp2_with fail
  refine (e2cUndef (some ⟨g, 0, none⟩) 0 _).mono ?_
  rintro e4 w4 ⟨rfl, hC4⟩
  have H4 := Lib.hid (H3.out.trans hC4 (fun _ _ h => h))
  clear hC4
  try unfold cvZero
  go_wp2_with fail
  refine (kindOnly16 2 _).mono ?_
  rintro e5 w5 ⟨rfl, hC5⟩
  have H5 := Lib.hid ((H4.out.alloc _).trans hC5 (fun _ _ h => h))
  clear hC5
  go_wp2_with fail
  go_ret
  exact ⟨rfl, H5.out⟩
set_option maxHeartbeats 8000000 in
theorem lwTrue (tag : Int) (b : Nat) (a : Option Addr) (n c : Nat) (s : ByteArray) (w : World) (zs : Nat → Int) (hnil : a = none → n = 0 ∧ c = 0) (hn : n ≤ 65536) (hs : s.size ≤ 65536) (hR : Reads w a n (U16 zs)) (hb : b < 18446744073709551616) (hT : TabP w) (hU : Lib.TabIs Tryd.prog w "internal/strconv.uint64pow10" .u64 Lib.pow10Tab) (ht : tag.tmod 8 = 2) : Calls Tryd.prog 5 #[.int .u8 tag, .bool true, .float .f64 b, .slice a n c, .string s] w (LawOut w) := by
  have HR := Lib.hid (And.intro hnil (And.intro hR hn))
  have HT := Lib.hid (And.intro hb (And.intro hT hU))
  have hn0 : ¬ (65536 : Int) < (n : Int) := by omega
  have hs0 : ¬ (65536 : Int) < (s.size : Int) := by omega
  have sf := store_f64
  clear hnil hR hb hT hU hn hs
  go_enter Tryd.func5, Tryd.ntmps5
  go_wp2_with fail
  refine (zb14 _ _ _ a n c s w).mono ?_
  rintro e1 w1 ⟨r, rfl, rfl⟩
  cases r
  · go_wp2_with fail
    go_ret
    exact ⟨rfl, Chg.refl _ _⟩
  go_wp2_with fail
  refine (clone6 a n c zs w HR.out.1 (by have := HR.out.2.2; omega) HR.out.2.1).mono ?_
  rintro e2 w2 ⟨a2, c2, rfl, hR2, hC2, hL2⟩
  have H2 := Lib.hid (And.intro hR2 (And.intro hC2 hL2))
  clear hR2 hC2 hL2
  go_wp2_with fail
  refine (bdBool tag true b a2 n c2 s _ ht).mono ?_
  rintro e3 w3 ⟨g, D, rfl, hg, hC3⟩
  have g0 := cell_of_heap hg 0
  simp only [List.getElem?_toArray, List.getElem?_cons_succ, List.getElem?_cons_zero] at g0
  have H3 := Lib.hid (H2.out.2.1.trans hC3 (fun _ _ h => h))
  clear hC3
  go_wp2_with fail
  refine (e2cTrue 0 g _ g0).mono ?_
  rintro e4 w4 ⟨rfl, hC4⟩
  have H4 := Lib.hid (H3.out.trans hC4 (fun _ _ h => h))
  clear hC4
  try unfold cvZero
  go_wp2_with fail
  refine (kindOnly16 3 _).mono ?_
  rintro e5 w5 ⟨rfl, hC5⟩
  have H5 := Lib.hid ((H4.out.alloc _).trans hC5 (fun _ _ h => h))
  clear hC5
  go_wp2_with fail
  go_ret
  exact ⟨rfl, H5.out⟩
set_option maxHeartbeats 8000000 in
theorem lwFalse (tag : Int) (b : Nat) (a : Option Addr) (n c : Nat) (s : ByteArray) (w : World) (zs : Nat → Int) (hnil : a = none → n = 0 ∧ c = 0) (hn : n ≤ 65536) (hs : s.size ≤ 65536) (hR : Reads w a n (U16 zs)) (hb : b < 18446744073709551616) (hT : TabP w) (hU : Lib.TabIs Tryd.prog w "internal/strconv.uint64pow10" .u64 Lib.pow10Tab) (ht : tag.tmod 8 = 2) : Calls Tryd.prog 5 #[.int .u8 tag, .bool false, .float .f64 b, .slice a n c, .string s] w (LawOut w) := by
  have HR := Lib.hid (And.intro hnil (And.intro hR hn))
  have HT := Lib.hid (And.intro hb (And.intro hT hU))
  have hn0 : ¬ (65536 : Int) < (n : Int) := by omega
  have hs0 : ¬ (65536 : Int) < (s.size : Int) := by omega
  have sf := store_f64
  clear hnil hR hb hT hU hn hs
  go_enter Tryd.func5, Tryd.ntmps5
  go_wp2_with fail
  refine (zb14 _ _ _ a n c s w).mono ?_
  rintro e1 w1 ⟨r, rfl, rfl⟩
  cases r
  · go_wp2_with fail
    go_ret
    exact ⟨rfl, Chg.refl _ _⟩
  go_wp2_with fail
  refine (clone6 a n c zs w HR.out.1 (by have := HR.out.2.2; omega) HR.out.2.1).mono ?_
  rintro e2 w2 ⟨a2, c2, rfl, hR2, hC2, hL2⟩
  have H2 := Lib.hid (And.intro hR2 (And.intro hC2 hL2))
  clear hR2 hC2 hL2
  go_wp2_with fail
  refine (bdBool tag false b a2 n c2 s _ ht).mono ?_
  rintro e3 w3 ⟨g, D, rfl, hg, hC3⟩
  have g0 := cell_of_heap hg 0
  simp only [List.getElem?_toArray, List.getElem?_cons_succ, List.getElem?_cons_zero] at g0
  have H3 := Lib.hid (H2.out.2.1.trans hC3 (fun _ _ h => h))
  clear hC3
  go_wp2_with fail
  refine (e2cFalse 0 g _ g0).mono ?_
  rintro e4 w4 ⟨rfl, hC4⟩
  have H4 := Lib.hid (H3.out.trans hC4 (fun _ _ h => h))
  clear hC4
  try unfold cvZero
  go_wp2_with fail
  refine (kindOnly16 4 _).mono ?_
  rintro e5 w5 ⟨rfl, hC5⟩
  have H5 := Lib.hid ((H4.out.alloc _).trans hC5 (fun _ _ h => h))
  clear hC5
  go_wp2_with fail
  go_ret
  exact ⟨rfl, H5.out⟩
set_option maxHeartbeats 8000000 in
theorem lwLong (tag : Int) (bb : Bool) (b : Nat) (a : Option Addr) (n c : Nat) (s : ByteArray) (w : World) (zs : Nat → Int) (hnil : a = none → n = 0 ∧ c = 0) (hn : n ≤ 65536) (hs : s.size ≤ 65536) (hR : Reads w a n (U16 zs)) (hb : b < 18446744073709551616) (hT : TabP w) (hU : Lib.TabIs Tryd.prog w "internal/strconv.uint64pow10" .u64 Lib.pow10Tab) (ht : tag.tmod 8 = 4) (h3 : ¬ n ≤ 3) : Calls Tryd.prog 5 #[.int .u8 tag, .bool bb, .float .f64 b, .slice a n c, .string s] w (LawOut w) := by
  have HR := Lib.hid (And.intro hnil (And.intro hR hn))
  have HT := Lib.hid (And.intro hb (And.intro hT hU))
  have hn0 : ¬ (65536 : Int) < (n : Int) := by omega
  have hs0 : ¬ (65536 : Int) < (s.size : Int) := by omega
  have hn3 : ¬ (n : Int) ≤ 3 := by omega
  have sf := store_f64
  clear hnil hR hb hT hU hn hs
  go_enter Tryd.func5, Tryd.ntmps5
  go_wp2_with fail
  refine (zb14 _ _ _ a n c s w).mono ?_
  rintro e1 w1 ⟨r, rfl, rfl⟩
  cases r
  · go_wp2_with fail
    go_ret
    exact ⟨rfl, Chg.refl _ _⟩
  go_wp2_with fail
  refine (clone6 a n c zs w HR.out.1 (by have := HR.out.2.2; omega) HR.out.2.1).mono ?_
  rintro e2 w2 ⟨a2, c2, rfl, hR2, hC2, hL2⟩
  have H2 := Lib.hid (And.intro hR2 (And.intro hC2 hL2))
  clear hR2 hC2 hL2
  go_wp2_with fail
  refine (bdStr tag bb b a2 n c2 s _ ht).mono ?_
  rintro e3 w3 ⟨g, D, rfl, hg, hC3⟩
  have g0 := cell_of_heap hg 0
  simp only [List.getElem?_toArray, List.getElem?_cons_succ, List.getElem?_cons_zero] at g0
  have H3 := Lib.hid (H2.out.2.1.trans hC3 (fun _ _ h => h))
  clear hC3
  go_wp2_with fail
  refine (e2cLong 0 g a2 n c2 _ g0 h3).mono ?_
  rintro e4 w4 ⟨rfl, hC4⟩
  have H4 := Lib.hid (H3.out.trans hC4 (fun _ _ h => h))
  clear hC4
  try unfold cvZero
  go_wp2_with fail
  refine (kindOnly16 0 _).mono ?_
  rintro e5 w5 ⟨rfl, hC5⟩
  have H5 := Lib.hid ((H4.out.alloc _).trans hC5 (fun _ _ h => h))
  clear hC5
  go_wp2_with fail
  go_ret
  exact ⟨rfl, H5.out⟩
set_option maxHeartbeats 8000000 in
theorem lwBig (tag : Int) (bb : Bool) (b : Nat) (a : Option Addr) (n c : Nat) (s : ByteArray) (w : World) (zs : Nat → Int) (hnil : a = none → n = 0 ∧ c = 0) (hn : n ≤ 65536) (hs : s.size ≤ 65536) (hR : Reads w a n (U16 zs)) (hb : b < 18446744073709551616) (hT : TabP w) (hU : Lib.TabIs Tryd.prog w "internal/strconv.uint64pow10" .u64 Lib.pow10Tab) (ht : tag.tmod 8 = 5) : Calls Tryd.prog 5 #[.int .u8 tag, .bool bb, .float .f64 b, .slice a n c, .string s] w (LawOut w) := by
  have HR := Lib.hid (And.intro hnil (And.intro hR hn))
  have HT := Lib.hid (And.intro hb (And.intro hT hU))
  have hn0 : ¬ (65536 : Int) < (n : Int) := by omega
  have hs0 : ¬ (65536 : Int) < (s.size : Int) := by omega
  have sf := store_f64
  clear hnil hR hb hT hU hn hs
  go_enter Tryd.func5, Tryd.ntmps5
  go_wp2_with fail
  refine (zb14 _ _ _ a n c s w).mono ?_
  rintro e1 w1 ⟨r, rfl, rfl⟩
  cases r
  · go_wp2_with fail
    go_ret
    exact ⟨rfl, Chg.refl _ _⟩
  go_wp2_with fail
  refine (clone6 a n c zs w HR.out.1 (by have := HR.out.2.2; omega) HR.out.2.1).mono ?_
  rintro e2 w2 ⟨a2, c2, rfl, hR2, hC2, hL2⟩
  have H2 := Lib.hid (And.intro hR2 (And.intro hC2 hL2))
  clear hR2 hC2 hL2
  go_wp2_with fail
  refine (bdBig tag bb b a2 n c2 s _ ht).mono ?_
  rintro e3 w3 ⟨g, D, rfl, hg, hC3⟩
  have H3 := Lib.hid (H2.out.2.1.trans hC3 (fun _ _ h => h))
  clear hC3
  go_wp2_with fail
  refine (e2cBig (some ⟨g, 0, none⟩) 0 _).mono ?_
  rintro e4 w4 ⟨rfl, hC4⟩
  have H4 := Lib.hid (H3.out.trans hC4 (fun _ _ h => h))
  clear hC4
  try unfold cvZero
  go_wp2_with fail
  refine (kindOnly16 0 _).mono ?_
  rintro e5 w5 ⟨rfl, hC5⟩
  have H5 := Lib.hid ((H4.out.alloc _).trans hC5 (fun _ _ h => h))
  clear hC5
  go_wp2_with fail
  go_ret
  exact ⟨rfl, H5.out⟩
set_option maxHeartbeats 8000000 in
theorem lwThis (tag : Int) (bb : Bool) (b : Nat) (a : Option Addr) (n c : Nat) (s : ByteArray) (w : World) (zs : Nat → Int) (hnil : a = none → n = 0 ∧ c = 0) (hn : n ≤ 65536) (hs : s.size ≤ 65536) (hR : Reads w a n (U16 zs)) (hb : b < 18446744073709551616) (hT : TabP w) (hU : Lib.TabIs Tryd.prog w "internal/strconv.uint64pow10" .u64 Lib.pow10Tab) (ht : tag.tmod 8 = 6) : Calls Tryd.prog 5 #[.int .u8 tag, .bool bb, .float .f64 b, .slice a n c, .string s] w (LawOut w) := by
  have HR := Lib.hid (And.intro hnil (And.intro hR hn))
  have HT := Lib.hid (And.intro hb (And.intro hT hU))
  have hn0 : ¬ (65536 : Int) < (n : Int) := by omega
  have hs0 : ¬ (65536 : Int) < (s.size : Int) := by omega
  have sf := store_f64
  clear hnil hR hb hT hU hn hs
  go_enter Tryd.func5, Tryd.ntmps5
  go_wp2_with fail
  refine (zb14 _ _ _ a n c s w).mono ?_
  rintro e1 w1 ⟨r, rfl, rfl⟩
  cases r
  · go_wp2_with fail
    go_ret
    exact ⟨rfl, Chg.refl _ _⟩
  go_wp2_with fail
  refine (clone6 a n c zs w HR.out.1 (by have := HR.out.2.2; omega) HR.out.2.1).mono ?_
  rintro e2 w2 ⟨a2, c2, rfl, hR2, hC2, hL2⟩
  have H2 := Lib.hid (And.intro hR2 (And.intro hC2 hL2))
  clear hR2 hC2 hL2
  go_wp2_with fail
  refine (bdThis tag bb b a2 n c2 s _ ht).mono ?_
  rintro e3 w3 ⟨g, D, rfl, hg, hC3⟩
  have H3 := Lib.hid (H2.out.2.1.trans hC3 (fun _ _ h => h))
  clear hC3
  go_wp2_with fail
  refine (e2cThis (some ⟨g, 0, none⟩) 0 _).mono ?_
  rintro e4 w4 ⟨rfl, hC4⟩
  have H4 := Lib.hid (H3.out.trans hC4 (fun _ _ h => h))
  clear hC4
  try unfold cvZero
  go_wp2_with fail
  refine (kindOnly16 0 _).mono ?_
  rintro e5 w5 ⟨rfl, hC5⟩
  have H5 := Lib.hid ((H4.out.alloc _).trans hC5 (fun _ _ h => h))
  clear hC5
  go_wp2_with fail
  go_ret
  exact ⟨rfl, H5.out⟩
set_option maxHeartbeats 8000000 in
theorem lwNo (tag : Int) (bb : Bool) (b : Nat) (a : Option Addr) (n c : Nat) (s : ByteArray) (w : World) (zs : Nat → Int) (hnil : a = none → n = 0 ∧ c = 0) (hn : n ≤ 65536) (hs : s.size ≤ 65536) (hR : Reads w a n (U16 zs)) (hb : b < 18446744073709551616) (hT : TabP w) (hU : Lib.TabIs Tryd.prog w "internal/strconv.uint64pow10" .u64 Lib.pow10Tab) (ht : tag.tmod 8 = 7) : Calls Tryd.prog 5 #[.int .u8 tag, .bool bb, .float .f64 b, .slice a n c, .string s] w (LawOut w) := by
  have HR := Lib.hid (And.intro hnil (And.intro hR hn))
  have HT := Lib.hid (And.intro hb (And.intro hT hU))
  have hn0 : ¬ (65536 : Int) < (n : Int) := by omega
  have hs0 : ¬ (65536 : Int) < (s.size : Int) := by omega
  have sf := store_f64
  clear hnil hR hb hT hU hn hs
  go_enter Tryd.func5, Tryd.ntmps5
  go_wp2_with fail
  refine (zb14 _ _ _ a n c s w).mono ?_
  rintro e1 w1 ⟨r, rfl, rfl⟩
  cases r
  · go_wp2_with fail
    go_ret
    exact ⟨rfl, Chg.refl _ _⟩
  go_wp2_with fail
  refine (clone6 a n c zs w HR.out.1 (by have := HR.out.2.2; omega) HR.out.2.1).mono ?_
  rintro e2 w2 ⟨a2, c2, rfl, hR2, hC2, hL2⟩
  have H2 := Lib.hid (And.intro hR2 (And.intro hC2 hL2))
  clear hR2 hC2 hL2
  go_wp2_with fail
  refine (bdNo tag bb b a2 n c2 s _ ht).mono ?_
  rintro e3 w3 ⟨rfl, hC3⟩
  have H3 := Lib.hid (H2.out.2.1.trans hC3 (fun _ _ h => h))
  clear hC3
  go_wp2_with fail
  refine (e2cNil 0 _).mono ?_
  rintro e4 w4 ⟨rfl, hC4⟩
  have H4 := Lib.hid (H3.out.trans hC4 (fun _ _ h => h))
  clear hC4
  try unfold cvZero
  go_wp2_with fail
  refine (kindOnly16 0 _).mono ?_
  rintro e5 w5 ⟨rfl, hC5⟩
  have H5 := Lib.hid ((H4.out.alloc _).trans hC5 (fun _ _ h => h))
  clear hC5
  go_wp2_with fail
  go_ret
  exact ⟨rfl, H5.out⟩
set_option maxHeartbeats 8000000 in
theorem lwStr (tag : Int) (bb : Bool) (b : Nat) (a : Option Addr) (n c : Nat) (s : ByteArray) (w : World) (zs : Nat → Int) (hnil : a = none → n = 0 ∧ c = 0) (hn : n ≤ 65536) (hs : s.size ≤ 65536) (hR : Reads w a n (U16 zs)) (hb : b < 18446744073709551616) (hT : TabP w) (hU : Lib.TabIs Tryd.prog w "internal/strconv.uint64pow10" .u64 Lib.pow10Tab) (ht : tag.tmod 8 = 4) (h3 : n ≤ 3) : Calls Tryd.prog 5 #[.int .u8 tag, .bool bb, .float .f64 b, .slice a n c, .string s] w (LawOut w) := by
  have HR := Lib.hid (And.intro hnil (And.intro hR hn))
  have HT := Lib.hid (And.intro hb (And.intro hT hU))
  have hn0 : ¬ (65536 : Int) < (n : Int) := by omega
  have hs0 : ¬ (65536 : Int) < (s.size : Int) := by omega
  have sf := store_f64
  clear hnil hR hb hT hU hn hs
  have hn3 : (n : Int) ≤ 3 := by omega
  have q1 := eqNil
  have q2 := ordE
  have q3 := ordI
  have q4 := quo0
  go_enter Tryd.func5, Tryd.ntmps5
  go_wp2_with fail
  refine (zb14 _ _ _ a n c s w).mono ?_
  rintro e1 w1 ⟨r, rfl, rfl⟩
  cases r
  · go_wp2_with fail
    go_ret
    exact ⟨rfl, Chg.refl _ _⟩
  go_wp2_with fail
  refine (clone6 a n c zs w HR.out.1 (by have := HR.out.2.2; omega) HR.out.2.1).mono ?_
  rintro e2 w2 ⟨a2, c2, rfl, hR2, hC2, hL2⟩
  have H2 := Lib.hid (And.intro hR2 (And.intro hC2 hL2))
  clear hR2 hC2 hL2
  go_wp2_with fail
  refine (bdStr tag bb b a2 n c2 s _ ht).mono ?_
  rintro e3 w3 ⟨g, D, rfl, hg, hC3⟩
  have g0 := cell_of_heap hg 0
  simp only [List.getElem?_toArray, List.getElem?_cons_succ, List.getElem?_cons_zero] at g0
  have H3 := Lib.hid hC3
  clear hC3
  go_wp2_with fail
  refine (e2cStr 0 g a2 n c2 _ g0 h3).mono ?_
  rintro e4 w4 ⟨rfl, hC4⟩
  have H4 := Lib.hid (H3.out.trans hC4 (fun _ _ h => h))
  clear hC4
  go_wp2_with fail
  refine (same14 a2 n c2 c2 zs _ (by omega) (H2.out.1.kept (H4.out.alloc _) (fun _ _ _ h => h))).mono ?_
  rintro e5 w5 ⟨rfl, q, rfl⟩
  go_wp2_with fail
  go_ret
  exact ⟨rfl, ((H2.out.2.1.trans H4.out (fun _ _ h => h)).alloc _).drewN q⟩
set_option maxHeartbeats 8000000 in
theorem lwNumIn (tag : Int) (bb : Bool) (b : Nat) (a : Option Addr) (n c : Nat) (s : ByteArray) (w : World) (zs : Nat → Int) (hnil : a = none → n = 0 ∧ c = 0) (hn : n ≤ 65536) (hs : s.size ≤ 65536) (hR : Reads w a n (U16 zs)) (hb : b < 18446744073709551616) (hT : TabP w) (hU : Lib.TabIs Tryd.prog w "internal/strconv.uint64pow10" .u64 Lib.pow10Tab) (ht : tag.tmod 8 = 3) (hM : ∀ w, Calls Tryd.prog 15 #[.float .f64 b] w (Same (.tuple #[.bool true, .bool true]) w)) (hX : ¬ NotInl b) : Calls Tryd.prog 5 #[.int .u8 tag, .bool bb, .float .f64 b, .slice a n c, .string s] w (LawOut w) := by
  have HR := Lib.hid (And.intro hnil (And.intro hR hn))
  have HT := Lib.hid (And.intro hb (And.intro hT hU))
  have hn0 : ¬ (65536 : Int) < (n : Int) := by omega
  have hs0 : ¬ (65536 : Int) < (s.size : Int) := by omega
  have sf := store_f64
  clear hnil hR hb hT hU hn hs
  have q1 := eqNil none 0 0
  go_enter Tryd.func5, Tryd.ntmps5
  go_wp2_with fail
  refine (zb14 _ _ _ a n c s w).mono ?_
  rintro e1 w1 ⟨r, rfl, rfl⟩
  cases r
  · go_wp2_with fail
    go_ret
    exact ⟨rfl, Chg.refl _ _⟩
  go_wp2_with fail
  refine (hM w).mono ?_
  rintro e6 w6 ⟨rfl, rfl⟩
  go_wp2_with fail
  refine (clone6 a n c zs w HR.out.1 (by have := HR.out.2.2; omega) HR.out.2.1).mono ?_
  rintro e2 w2 ⟨a2, c2, rfl, hR2, hC2, hL2⟩
  have H2 := Lib.hid (And.intro hR2 (And.intro hC2 hL2))
  clear hR2 hC2 hL2
  go_wp2_with fail
  refine (bdNum tag bb b a2 n c2 s _ ht).mono ?_
  rintro e3 w3 ⟨g, D, rfl, hg, hC3⟩
  have g0 := cell_of_heap hg 0
  have lg := heap_lt hg
  simp only [List.getElem?_toArray, List.getElem?_cons_succ, List.getElem?_cons_zero] at g0
  have H3 := Lib.hid (H2.out.2.1.trans hC3 (fun _ _ h => h))
  clear hC3
  go_wp2_with fail
  refine (e2cNum g b 0 _ lg g0 HT.out.1 (hz_of b HT.out.1) (HT.out.2.1.keep H3.out) (tabIs_keep HT.out.2.1 HT.out.2.2 H3.out)).mono ?_
  rintro e4 w4 ⟨r, rfl, hC4, hN1, hN2⟩
  have H4 := Lib.hid (H3.out.trans hC4 (fun _ _ h => h))
  clear hC4
  cases r
  · exact absurd (hN1 (by first | rfl | trivial)) hX
  clear hN1 hN2 hX
  rw [if_pos rfl]
  go_wp2_with fail
  refine (hM _).mono ?_
  rintro e7 w7 ⟨rfl, rfl⟩
  go_wp2_with fail
  refine (sameF12 b _).mono ?_
  rintro e5 w5 ⟨rfl, rfl⟩
  go_wp2_with fail
  go_ret
  exact ⟨rfl, H4.out.alloc _⟩
set_option maxHeartbeats 8000000 in
theorem lwNumOut (tag : Int) (bb : Bool) (b : Nat) (a : Option Addr) (n c : Nat) (s : ByteArray) (w : World) (zs : Nat → Int) (hnil : a = none → n = 0 ∧ c = 0) (hn : n ≤ 65536) (hs : s.size ≤ 65536) (hR : Reads w a n (U16 zs)) (hb : b < 18446744073709551616) (hT : TabP w) (hU : Lib.TabIs Tryd.prog w "internal/strconv.uint64pow10" .u64 Lib.pow10Tab) (ht : tag.tmod 8 = 3) (hM : ∀ w, Calls Tryd.prog 15 #[.float .f64 b] w (Same (.tuple #[.bool true, .bool false]) w)) (hX : NotS b) : Calls Tryd.prog 5 #[.int .u8 tag, .bool bb, .float .f64 b, .slice a n c, .string s] w (LawOut w) := by
  have HR := Lib.hid (And.intro hnil (And.intro hR hn))
  have HT := Lib.hid (And.intro hb (And.intro hT hU))
  have hn0 : ¬ (65536 : Int) < (n : Int) := by omega
  have hs0 : ¬ (65536 : Int) < (s.size : Int) := by omega
  have sf := store_f64
  clear hnil hR hb hT hU hn hs
  have q1 := eqNil none 0 0
  go_enter Tryd.func5, Tryd.ntmps5
  go_wp2_with fail
  refine (zb14 _ _ _ a n c s w).mono ?_
  rintro e1 w1 ⟨r, rfl, rfl⟩
  cases r
  · go_wp2_with fail
    go_ret
    exact ⟨rfl, Chg.refl _ _⟩
  go_wp2_with fail
  refine (hM w).mono ?_
  rintro e6 w6 ⟨rfl, rfl⟩
  go_wp2_with fail
  refine (clone6 a n c zs w HR.out.1 (by have := HR.out.2.2; omega) HR.out.2.1).mono ?_
  rintro e2 w2 ⟨a2, c2, rfl, hR2, hC2, hL2⟩
  have H2 := Lib.hid (And.intro hR2 (And.intro hC2 hL2))
  clear hR2 hC2 hL2
  go_wp2_with fail
  refine (bdNum tag bb b a2 n c2 s _ ht).mono ?_
  rintro e3 w3 ⟨g, D, rfl, hg, hC3⟩
  have g0 := cell_of_heap hg 0
  have lg := heap_lt hg
  simp only [List.getElem?_toArray, List.getElem?_cons_succ, List.getElem?_cons_zero] at g0
  have H3 := Lib.hid (H2.out.2.1.trans hC3 (fun _ _ h => h))
  clear hC3
  go_wp2_with fail
  refine (e2cNum g b 0 _ lg g0 HT.out.1 (hz_of b HT.out.1) (HT.out.2.1.keep H3.out) (tabIs_keep HT.out.2.1 HT.out.2.2 H3.out)).mono ?_
  rintro e4 w4 ⟨r, rfl, hC4, hN1, hN2⟩
  have H4 := Lib.hid (H3.out.trans hC4 (fun _ _ h => h))
  clear hC4
  cases r
  case true => exact absurd hX (hN2 (by first | rfl | trivial))
  clear hN1 hN2 hX
  rw [if_neg (by decide)]
  unfold cvZero
  go_wp2_with fail
  refine (hM _).mono ?_
  rintro e7 w7 ⟨rfl, rfl⟩
  go_wp2_with fail
  refine (kindOnly16 0 _).mono ?_
  rintro e5 w5 ⟨rfl, hC5⟩
  have H5 := Lib.hid ((H4.out.alloc _).trans hC5 (fun _ _ h => h))
  clear hC5
  go_wp2_with fail
  go_ret
  exact ⟨rfl, H5.out⟩
set_option maxHeartbeats 8000000 in
theorem lwNumNo (tag : Int) (bb : Bool) (b : Nat) (a : Option Addr) (n c : Nat) (s : ByteArray) (w : World) (zs : Nat → Int) (hnil : a = none → n = 0 ∧ c = 0) (hn : n ≤ 65536) (hs : s.size ≤ 65536) (hR : Reads w a n (U16 zs)) (hb : b < 18446744073709551616) (hT : TabP w) (hU : Lib.TabIs Tryd.prog w "internal/strconv.uint64pow10" .u64 Lib.pow10Tab) (ht : tag.tmod 8 = 3) (I : Bool) (hM : ∀ w, Calls Tryd.prog 15 #[.float .f64 b] w (Same (.tuple #[.bool false, .bool I]) w)) : Calls Tryd.prog 5 #[.int .u8 tag, .bool bb, .float .f64 b, .slice a n c, .string s] w (LawOut w) := by
  have HR := Lib.hid (And.intro hnil (And.intro hR hn))
  have HT := Lib.hid (And.intro hb (And.intro hT hU))
  have hn0 : ¬ (65536 : Int) < (n : Int) := by omega
  have hs0 : ¬ (65536 : Int) < (s.size : Int) := by omega
  have sf := store_f64
  clear hnil hR hb hT hU hn hs
  have q1 := eqNil none 0 0
  go_enter Tryd.func5, Tryd.ntmps5
  go_wp2_with fail
  refine (zb14 _ _ _ a n c s w).mono ?_
  rintro e1 w1 ⟨r, rfl, rfl⟩
  cases r
  · go_wp2_with fail
    go_ret
    exact ⟨rfl, Chg.refl _ _⟩
  go_wp2_with fail
  refine (hM w).mono ?_
  rintro e6 w6 ⟨rfl, rfl⟩
  go_wp2_with fail
  go_ret
  exact ⟨rfl, Chg.refl _ _⟩
set_option maxHeartbeats 8000000 in
theorem lwGreat (tag : Int) (bb : Bool) (b : Nat) (a : Option Addr) (n c : Nat) (s : ByteArray) (w : World) (hg : ¬ (n ≤ 65536 ∧ s.size ≤ 65536)) : Calls Tryd.prog 5 #[.int .u8 tag, .bool bb, .float .f64 b, .slice a n c, .string s] w (LawOut w) := by
  by_cases h1 : (65536 : Int) < (n : Int)
  · clear hg
    go_enter Tryd.func5, Tryd.ntmps5
    go_wp2_with fail
    refine (zb14 _ _ _ a n c s w).mono ?_
    rintro e1 w1 ⟨r, rfl, rfl⟩
    cases r
    · go_wp2_with fail
      go_ret
      exact ⟨rfl, Chg.refl _ _⟩
    go_wp2_with fail
    go_ret
    exact ⟨rfl, Chg.refl _ _⟩
  · have h2 : (65536 : Int) < (s.size : Int) := by omega
    clear hg
    go_enter Tryd.func5, Tryd.ntmps5
    go_wp2_with fail
    refine (zb14 _ _ _ a n c s w).mono ?_
    rintro e1 w1 ⟨r, rfl, rfl⟩
    cases r
    · go_wp2_with fail
      go_ret
      exact ⟨rfl, Chg.refl _ _⟩
    go_wp2_with fail
    go_ret
    exact ⟨rfl, Chg.refl _ _⟩
theorem lawAll (tag : Int) (bb : Bool) (b : Nat) (a : Option Addr) (n c : Nat) (s : ByteArray) (w : World) (zs : Nat → Int) (ht : 0 ≤ tag) (hnil : a = none → n = 0 ∧ c = 0) (hR : Reads w a n (U16 zs)) (hb : b < 18446744073709551616) (hT : TabP w) (hU : Lib.TabIs Tryd.prog w "internal/strconv.uint64pow10" .u64 Lib.pow10Tab) : Calls Tryd.prog 5 #[.int .u8 tag, .bool bb, .float .f64 b, .slice a n c, .string s] w (LawOut w) := by
  by_cases hg : n ≤ 65536 ∧ s.size ≤ 65536
  · obtain ⟨hn, hs⟩ := hg
    have hm : tag.tmod 8 = 0 ∨ tag.tmod 8 = 1 ∨ tag.tmod 8 = 2 ∨ tag.tmod 8 = 3 ∨ tag.tmod 8 = 4 ∨ tag.tmod 8 = 5 ∨ tag.tmod 8 = 6 ∨ tag.tmod 8 = 7 := by
      rw [Int.tmod_eq_emod_of_nonneg ht]; omega
    rcases hm with h | h | h | h | h | h | h | h
    · exact lwNull tag bb b a n c s w zs hnil hn hs hR hb hT hU h
    · exact lwUndef tag bb b a n c s w zs hnil hn hs hR hb hT hU h
    · cases bb
      · exact lwFalse tag b a n c s w zs hnil hn hs hR hb hT hU h
      · exact lwTrue tag b a n c s w zs hnil hn hs hR hb hT hU h
    · obtain ⟨K, I, m1, m2, m3⟩ := model15 b hb
      cases K
      · exact lwNumNo tag bb b a n c s w zs hnil hn hs hR hb hT hU h I m3
      · cases I
        · exact lwNumOut tag bb b a n c s w zs hnil hn hs hR hb hT hU h m3 (m2 rfl rfl)
        · exact lwNumIn tag bb b a n c s w zs hnil hn hs hR hb hT hU h m3 (m1 rfl rfl)
    · by_cases h3 : n ≤ 3
      · exact lwStr tag bb b a n c s w zs hnil hn hs hR hb hT hU h h3
      · exact lwLong tag bb b a n c s w zs hnil hn hs hR hb hT hU h h3
    · exact lwBig tag bb b a n c s w zs hnil hn hs hR hb hT hU h
    · exact lwThis tag bb b a n c s w zs hnil hn hs hR hb hT hU h
    · exact lwNo tag bb b a n c s w zs hnil hn hs hR hb hT hU h
  · exact lwGreat tag bb b a n c s w hg
end Go.Proofs.YtgfeaejpleppkaaDoor
