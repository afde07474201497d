/-
  Proved: contracts of the css printer's printPseudoClassSelector at a plain name, with nil, empty and one-identifier arguments. No statement of the seat stands here.
-/
import Derived.Test.YtgfiigonjleeeaaFmtTokens
import Derived.Lib.LazyBuf
namespace Go.Proofs.YtgfiigonjleeeaaFmt
open Go.RowKit Go.ChangeAt
set_option linter.unusedSimpArgs false
set_option linter.unusedVariables false
def colons (el : Bool) : List UInt8 := if el then [58, 58] else [58]
set_option maxRecDepth 100000 in
set_option maxHeartbeats 4000000 in
theorem sel_none (B b : Nat) (m a el : Bool) (out : List UInt8) (nm : ByteArray) (ws : Int) (vo : Option Addr) (w : World) (h : Pr B b m a vo out w) (hpl : Plain nm) (ho : out.length ≤ 130000000000) (ht : nm.size ≤ 140000000) :
    Calls Tryf.prog 17 #[.pointer (some ⟨b, 0, none⟩), .agg #[.string nm, .slice none 0 0, .bool el], .int .u8 ws] w (Wrt B b m a vo (out ++ colons el ++ nm.data.toList) w) := by
  have hq := fun W : World => Go.run_neq_slice_nil (P := Tryf.prog) W 66 75 none 0 0 Tryf.underlying66
  simp only [Option.isNone, Bool.not_true, Bool.not_false] at hq
  have hbs := h.lt_size
  have Hp := Lib.hid h
  have hns : nm.data.toList.length = nm.size := by rw [Array.length_toList]; rfl
  clear h
  cases el
  · go_enter Tryf.func17, Tryf.ntmps17
    go_wp2_with fail
    have Hw1 : Hid (Wrote b vo vo w (w.alloc (.cells #[.string nm, .slice none 0 0, .bool false] 68))) := Lib.hid ((Wrote.refl b vo w).alloc _)
    have Hv1 : Hid (Wrote b vo vo (w.alloc (.cells #[.string nm, .slice none 0 0, .bool false] 68)) (w.alloc (.cells #[.string nm, .slice none 0 0, .bool false] 68))) := Lib.hid (Wrote.refl b vo _)
    have Hp1 : Hid (Pr B b m a vo out (w.alloc (.cells #[.string nm, .slice none 0 0, .bool false] 68))) := Lib.hid (Hp.out.wrote ((Chg.refl Nowhere w).alloc _))
    have Hbx : Hid ((w.alloc (.cells #[.string nm, .slice none 0 0, .bool false] 68)).heap[w.heap.size]? = some (.cells #[.string nm, .slice none 0 0, .bool false] 68)) := Lib.hid (heap_alloc_at w _ _ rfl)
    refine (print_w B b m a vo (out) ⟨#[58]⟩ (w.alloc (.cells #[.string nm, .slice none 0 0, .bool false] 68)) Hp1.out (by first | omega | (simp; omega)) (by decide)).mono ?_
    rintro e2 w2 ⟨rfl, vo2, hp, hw⟩
    have Hp2 : Hid (Pr B b m a vo2 (out ++ [58]) w2) := Lib.hid hp
    have Hw2 : Hid (Wrote b vo vo2 w w2) := Lib.hid (Hw1.out.trans hw)
    have Hv2 : Hid (Wrote b vo vo2 (w.alloc (.cells #[.string nm, .slice none 0 0, .bool false] 68)) w2) := Lib.hid (Hv1.out.trans hw)
    clear hp hw
    have hb2 : w2.heap[w.heap.size]? = some (.cells #[.string nm, .slice none 0 0, .bool false] 68) := Hv2.out.heap (by omega) (fun hh => by have := (Hp.out.addr _ hh).2; omega) Hbx.out
    have x2 := cell_of_heap hb2 0
    have y2 := cell_of_heap hb2 1
    have z2 := heap_lt hb2
    simp at x2 y2
    clear hb2
    go_wp2_with fail
    refine (ident22 B b m a vo2 (out ++ [58]) nm _ w2 hpl Hp2.out (by first | omega | (simp; omega)) ht).mono ?_
    rintro e3 w3 ⟨rfl, vo3, hp, hw⟩
    have Hp3 : Hid (Pr B b m a vo3 (out ++ [58] ++ nm.data.toList) w3) := Lib.hid hp
    have Hw3 : Hid (Wrote b vo vo3 w w3) := Lib.hid (Hw2.out.trans hw)
    have Hv3 : Hid (Wrote b vo vo3 (w.alloc (.cells #[.string nm, .slice none 0 0, .bool false] 68)) w3) := Lib.hid (Hv2.out.trans hw)
    clear hp hw
    have hb3 : w3.heap[w.heap.size]? = some (.cells #[.string nm, .slice none 0 0, .bool false] 68) := Hv3.out.heap (by omega) (fun hh => by have := (Hp.out.addr _ hh).2; omega) Hbx.out
    have x3 := cell_of_heap hb3 0
    have y3 := cell_of_heap hb3 1
    have z3 := heap_lt hb3
    simp at x3 y3
    clear hb3
    go_wp2_with fail
    go_end0
    exact ⟨rfl, vo3, Hp3.out, Hw3.out⟩
  · go_enter Tryf.func17, Tryf.ntmps17
    go_wp2_with fail
    have Hw1 : Hid (Wrote b vo vo w (w.alloc (.cells #[.string nm, .slice none 0 0, .bool true] 68))) := Lib.hid ((Wrote.refl b vo w).alloc _)
    have Hv1 : Hid (Wrote b vo vo (w.alloc (.cells #[.string nm, .slice none 0 0, .bool true] 68)) (w.alloc (.cells #[.string nm, .slice none 0 0, .bool true] 68))) := Lib.hid (Wrote.refl b vo _)
    have Hp1 : Hid (Pr B b m a vo out (w.alloc (.cells #[.string nm, .slice none 0 0, .bool true] 68))) := Lib.hid (Hp.out.wrote ((Chg.refl Nowhere w).alloc _))
    have Hbx : Hid ((w.alloc (.cells #[.string nm, .slice none 0 0, .bool true] 68)).heap[w.heap.size]? = some (.cells #[.string nm, .slice none 0 0, .bool true] 68)) := Lib.hid (heap_alloc_at w _ _ rfl)
    refine (print_w B b m a vo (out) ⟨#[58, 58]⟩ (w.alloc (.cells #[.string nm, .slice none 0 0, .bool true] 68)) Hp1.out (by first | omega | (simp; omega)) (by decide)).mono ?_
    rintro e2 w2 ⟨rfl, vo2, hp, hw⟩
    have Hp2 : Hid (Pr B b m a vo2 (out ++ [58, 58]) w2) := Lib.hid hp
    have Hw2 : Hid (Wrote b vo vo2 w w2) := Lib.hid (Hw1.out.trans hw)
    have Hv2 : Hid (Wrote b vo vo2 (w.alloc (.cells #[.string nm, .slice none 0 0, .bool true] 68)) w2) := Lib.hid (Hv1.out.trans hw)
    clear hp hw
    have hb2 : w2.heap[w.heap.size]? = some (.cells #[.string nm, .slice none 0 0, .bool true] 68) := Hv2.out.heap (by omega) (fun hh => by have := (Hp.out.addr _ hh).2; omega) Hbx.out
    have x2 := cell_of_heap hb2 0
    have y2 := cell_of_heap hb2 1
    have z2 := heap_lt hb2
    simp at x2 y2
    clear hb2
    go_wp2_with fail
    refine (ident22 B b m a vo2 (out ++ [58, 58]) nm _ w2 hpl Hp2.out (by first | omega | (simp; omega)) ht).mono ?_
    rintro e3 w3 ⟨rfl, vo3, hp, hw⟩
    have Hp3 : Hid (Pr B b m a vo3 (out ++ [58, 58] ++ nm.data.toList) w3) := Lib.hid hp
    have Hw3 : Hid (Wrote b vo vo3 w w3) := Lib.hid (Hw2.out.trans hw)
    have Hv3 : Hid (Wrote b vo vo3 (w.alloc (.cells #[.string nm, .slice none 0 0, .bool true] 68)) w3) := Lib.hid (Hv2.out.trans hw)
    clear hp hw
    have hb3 : w3.heap[w.heap.size]? = some (.cells #[.string nm, .slice none 0 0, .bool true] 68) := Hv3.out.heap (by omega) (fun hh => by have := (Hp.out.addr _ hh).2; omega) Hbx.out
    have x3 := cell_of_heap hb3 0
    have y3 := cell_of_heap hb3 1
    have z3 := heap_lt hb3
    simp at x3 y3
    clear hb3
    go_wp2_with fail
    go_end0
    exact ⟨rfl, vo3, Hp3.out, Hw3.out⟩
set_option maxRecDepth 100000 in
set_option maxHeartbeats 4000000 in
theorem sel_empty (B b : Nat) (m a el : Bool) (out : List UInt8) (nm : ByteArray) (x : Addr) (ws : Int) (vo : Option Addr) (w : World) (h : Pr B b m a vo out w) (hpl : Plain nm) (ho : out.length ≤ 130000000000) (ht : nm.size ≤ 140000000) :
    Calls Tryf.prog 17 #[.pointer (some ⟨b, 0, none⟩), .agg #[.string nm, .slice (some x) 0 0, .bool el], .int .u8 ws] w (Wrt B b m a vo (out ++ colons el ++ nm.data.toList ++ [40] ++ [41]) w) := by
  have hq := fun W : World => Go.run_neq_slice_nil (P := Tryf.prog) W 66 75 (some x) 0 0 Tryf.underlying66
  simp only [Option.isNone, Bool.not_true, Bool.not_false] at hq
  have hbs := h.lt_size
  have Hp := Lib.hid h
  have hns : nm.data.toList.length = nm.size := by rw [Array.length_toList]; rfl
  clear h
  cases el
  · go_enter Tryf.func17, Tryf.ntmps17
    go_wp2_with fail
    have Hw1 : Hid (Wrote b vo vo w (w.alloc (.cells #[.string nm, .slice (some x) 0 0, .bool false] 68))) := Lib.hid ((Wrote.refl b vo w).alloc _)
    have Hv1 : Hid (Wrote b vo vo (w.alloc (.cells #[.string nm, .slice (some x) 0 0, .bool false] 68)) (w.alloc (.cells #[.string nm, .slice (some x) 0 0, .bool false] 68))) := Lib.hid (Wrote.refl b vo _)
    have Hp1 : Hid (Pr B b m a vo out (w.alloc (.cells #[.string nm, .slice (some x) 0 0, .bool false] 68))) := Lib.hid (Hp.out.wrote ((Chg.refl Nowhere w).alloc _))
    have Hbx : Hid ((w.alloc (.cells #[.string nm, .slice (some x) 0 0, .bool false] 68)).heap[w.heap.size]? = some (.cells #[.string nm, .slice (some x) 0 0, .bool false] 68)) := Lib.hid (heap_alloc_at w _ _ rfl)
    refine (print_w B b m a vo (out) ⟨#[58]⟩ (w.alloc (.cells #[.string nm, .slice (some x) 0 0, .bool false] 68)) Hp1.out (by first | omega | (simp; omega)) (by decide)).mono ?_
    rintro e2 w2 ⟨rfl, vo2, hp, hw⟩
    have Hp2 : Hid (Pr B b m a vo2 (out ++ [58]) w2) := Lib.hid hp
    have Hw2 : Hid (Wrote b vo vo2 w w2) := Lib.hid (Hw1.out.trans hw)
    have Hv2 : Hid (Wrote b vo vo2 (w.alloc (.cells #[.string nm, .slice (some x) 0 0, .bool false] 68)) w2) := Lib.hid (Hv1.out.trans hw)
    clear hp hw
    have hb2 : w2.heap[w.heap.size]? = some (.cells #[.string nm, .slice (some x) 0 0, .bool false] 68) := Hv2.out.heap (by omega) (fun hh => by have := (Hp.out.addr _ hh).2; omega) Hbx.out
    have x2 := cell_of_heap hb2 0
    have y2 := cell_of_heap hb2 1
    have z2 := heap_lt hb2
    simp at x2 y2
    clear hb2
    go_wp2_with fail
    refine (ident22 B b m a vo2 (out ++ [58]) nm _ w2 hpl Hp2.out (by first | omega | (simp; omega)) ht).mono ?_
    rintro e3 w3 ⟨rfl, vo3, hp, hw⟩
    have Hp3 : Hid (Pr B b m a vo3 (out ++ [58] ++ nm.data.toList) w3) := Lib.hid hp
    have Hw3 : Hid (Wrote b vo vo3 w w3) := Lib.hid (Hw2.out.trans hw)
    have Hv3 : Hid (Wrote b vo vo3 (w.alloc (.cells #[.string nm, .slice (some x) 0 0, .bool false] 68)) w3) := Lib.hid (Hv2.out.trans hw)
    clear hp hw
    have hb3 : w3.heap[w.heap.size]? = some (.cells #[.string nm, .slice (some x) 0 0, .bool false] 68) := Hv3.out.heap (by omega) (fun hh => by have := (Hp.out.addr _ hh).2; omega) Hbx.out
    have x3 := cell_of_heap hb3 0
    have y3 := cell_of_heap hb3 1
    have z3 := heap_lt hb3
    simp at x3 y3
    clear hb3
    go_wp2_with fail
    refine (print_w B b m a vo3 (out ++ [58] ++ nm.data.toList) ⟨#[40]⟩ w3 Hp3.out (by first | omega | (simp; omega)) (by decide)).mono ?_
    rintro e4 w4 ⟨rfl, vo4, hp, hw⟩
    have Hp4 : Hid (Pr B b m a vo4 (out ++ [58] ++ nm.data.toList ++ [40]) w4) := Lib.hid hp
    have Hw4 : Hid (Wrote b vo vo4 w w4) := Lib.hid (Hw3.out.trans hw)
    have Hv4 : Hid (Wrote b vo vo4 (w.alloc (.cells #[.string nm, .slice (some x) 0 0, .bool false] 68)) w4) := Lib.hid (Hv3.out.trans hw)
    clear hp hw
    have hb4 : w4.heap[w.heap.size]? = some (.cells #[.string nm, .slice (some x) 0 0, .bool false] 68) := Hv4.out.heap (by omega) (fun hh => by have := (Hp.out.addr _ hh).2; omega) Hbx.out
    have x4 := cell_of_heap hb4 0
    have y4 := cell_of_heap hb4 1
    have z4 := heap_lt hb4
    simp at x4 y4
    clear hb4
    go_wp2_with fail
    refine (tokens0 B b m a (out ++ [58] ++ nm.data.toList ++ [40]) w4 vo4 (some x) Hp4.out).mono ?_
    rintro e5 w5 ⟨r, rfl, vo5, hp, hw⟩
    have Hp5 : Hid (Pr B b m a vo5 (out ++ [58] ++ nm.data.toList ++ [40]) w5) := Lib.hid hp
    have Hw5 : Hid (Wrote b vo vo5 w w5) := Lib.hid (Hw4.out.trans hw)
    have Hv5 : Hid (Wrote b vo vo5 (w.alloc (.cells #[.string nm, .slice (some x) 0 0, .bool false] 68)) w5) := Lib.hid (Hv4.out.trans hw)
    clear hp hw
    have hb5 : w5.heap[w.heap.size]? = some (.cells #[.string nm, .slice (some x) 0 0, .bool false] 68) := Hv5.out.heap (by omega) (fun hh => by have := (Hp.out.addr _ hh).2; omega) Hbx.out
    have x5 := cell_of_heap hb5 0
    have y5 := cell_of_heap hb5 1
    have z5 := heap_lt hb5
    simp at x5 y5
    clear hb5
    go_wp2_with fail
    refine (print_w B b m a vo5 (out ++ [58] ++ nm.data.toList ++ [40]) ⟨#[41]⟩ w5 Hp5.out (by first | omega | (simp; omega)) (by decide)).mono ?_
    rintro e6 w6 ⟨rfl, vo6, hp, hw⟩
    have Hp6 : Hid (Pr B b m a vo6 (out ++ [58] ++ nm.data.toList ++ [40] ++ [41]) w6) := Lib.hid hp
    have Hw6 : Hid (Wrote b vo vo6 w w6) := Lib.hid (Hw5.out.trans hw)
    have Hv6 : Hid (Wrote b vo vo6 (w.alloc (.cells #[.string nm, .slice (some x) 0 0, .bool false] 68)) w6) := Lib.hid (Hv5.out.trans hw)
    clear hp hw
    have hb6 : w6.heap[w.heap.size]? = some (.cells #[.string nm, .slice (some x) 0 0, .bool false] 68) := Hv6.out.heap (by omega) (fun hh => by have := (Hp.out.addr _ hh).2; omega) Hbx.out
    have x6 := cell_of_heap hb6 0
    have y6 := cell_of_heap hb6 1
    have z6 := heap_lt hb6
    simp at x6 y6
    clear hb6
    go_wp2_with fail
    go_end0
    exact ⟨rfl, vo6, Hp6.out, Hw6.out⟩
  · go_enter Tryf.func17, Tryf.ntmps17
    go_wp2_with fail
    have Hw1 : Hid (Wrote b vo vo w (w.alloc (.cells #[.string nm, .slice (some x) 0 0, .bool true] 68))) := Lib.hid ((Wrote.refl b vo w).alloc _)
    have Hv1 : Hid (Wrote b vo vo (w.alloc (.cells #[.string nm, .slice (some x) 0 0, .bool true] 68)) (w.alloc (.cells #[.string nm, .slice (some x) 0 0, .bool true] 68))) := Lib.hid (Wrote.refl b vo _)
    have Hp1 : Hid (Pr B b m a vo out (w.alloc (.cells #[.string nm, .slice (some x) 0 0, .bool true] 68))) := Lib.hid (Hp.out.wrote ((Chg.refl Nowhere w).alloc _))
    have Hbx : Hid ((w.alloc (.cells #[.string nm, .slice (some x) 0 0, .bool true] 68)).heap[w.heap.size]? = some (.cells #[.string nm, .slice (some x) 0 0, .bool true] 68)) := Lib.hid (heap_alloc_at w _ _ rfl)
    refine (print_w B b m a vo (out) ⟨#[58, 58]⟩ (w.alloc (.cells #[.string nm, .slice (some x) 0 0, .bool true] 68)) Hp1.out (by first | omega | (simp; omega)) (by decide)).mono ?_
    rintro e2 w2 ⟨rfl, vo2, hp, hw⟩
    have Hp2 : Hid (Pr B b m a vo2 (out ++ [58, 58]) w2) := Lib.hid hp
    have Hw2 : Hid (Wrote b vo vo2 w w2) := Lib.hid (Hw1.out.trans hw)
    have Hv2 : Hid (Wrote b vo vo2 (w.alloc (.cells #[.string nm, .slice (some x) 0 0, .bool true] 68)) w2) := Lib.hid (Hv1.out.trans hw)
    clear hp hw
    have hb2 : w2.heap[w.heap.size]? = some (.cells #[.string nm, .slice (some x) 0 0, .bool true] 68) := Hv2.out.heap (by omega) (fun hh => by have := (Hp.out.addr _ hh).2; omega) Hbx.out
    have x2 := cell_of_heap hb2 0
    have y2 := cell_of_heap hb2 1
    have z2 := heap_lt hb2
    simp at x2 y2
    clear hb2
    go_wp2_with fail
    refine (ident22 B b m a vo2 (out ++ [58, 58]) nm _ w2 hpl Hp2.out (by first | omega | (simp; omega)) ht).mono ?_
    rintro e3 w3 ⟨rfl, vo3, hp, hw⟩
    have Hp3 : Hid (Pr B b m a vo3 (out ++ [58, 58] ++ nm.data.toList) w3) := Lib.hid hp
    have Hw3 : Hid (Wrote b vo vo3 w w3) := Lib.hid (Hw2.out.trans hw)
    have Hv3 : Hid (Wrote b vo vo3 (w.alloc (.cells #[.string nm, .slice (some x) 0 0, .bool true] 68)) w3) := Lib.hid (Hv2.out.trans hw)
    clear hp hw
    have hb3 : w3.heap[w.heap.size]? = some (.cells #[.string nm, .slice (some x) 0 0, .bool true] 68) := Hv3.out.heap (by omega) (fun hh => by have := (Hp.out.addr _ hh).2; omega) Hbx.out
    have x3 := cell_of_heap hb3 0
    have y3 := cell_of_heap hb3 1
    have z3 := heap_lt hb3
    simp at x3 y3
    clear hb3
    go_wp2_with fail
    refine (print_w B b m a vo3 (out ++ [58, 58] ++ nm.data.toList) ⟨#[40]⟩ w3 Hp3.out (by first | omega | (simp; omega)) (by decide)).mono ?_
    rintro e4 w4 ⟨rfl, vo4, hp, hw⟩
    have Hp4 : Hid (Pr B b m a vo4 (out ++ [58, 58] ++ nm.data.toList ++ [40]) w4) := Lib.hid hp
    have Hw4 : Hid (Wrote b vo vo4 w w4) := Lib.hid (Hw3.out.trans hw)
    have Hv4 : Hid (Wrote b vo vo4 (w.alloc (.cells #[.string nm, .slice (some x) 0 0, .bool true] 68)) w4) := Lib.hid (Hv3.out.trans hw)
    clear hp hw
    have hb4 : w4.heap[w.heap.size]? = some (.cells #[.string nm, .slice (some x) 0 0, .bool true] 68) := Hv4.out.heap (by omega) (fun hh => by have := (Hp.out.addr _ hh).2; omega) Hbx.out
    have x4 := cell_of_heap hb4 0
    have y4 := cell_of_heap hb4 1
    have z4 := heap_lt hb4
    simp at x4 y4
    clear hb4
    go_wp2_with fail
    refine (tokens0 B b m a (out ++ [58, 58] ++ nm.data.toList ++ [40]) w4 vo4 (some x) Hp4.out).mono ?_
    rintro e5 w5 ⟨r, rfl, vo5, hp, hw⟩
    have Hp5 : Hid (Pr B b m a vo5 (out ++ [58, 58] ++ nm.data.toList ++ [40]) w5) := Lib.hid hp
    have Hw5 : Hid (Wrote b vo vo5 w w5) := Lib.hid (Hw4.out.trans hw)
    have Hv5 : Hid (Wrote b vo vo5 (w.alloc (.cells #[.string nm, .slice (some x) 0 0, .bool true] 68)) w5) := Lib.hid (Hv4.out.trans hw)
    clear hp hw
    have hb5 : w5.heap[w.heap.size]? = some (.cells #[.string nm, .slice (some x) 0 0, .bool true] 68) := Hv5.out.heap (by omega) (fun hh => by have := (Hp.out.addr _ hh).2; omega) Hbx.out
    have x5 := cell_of_heap hb5 0
    have y5 := cell_of_heap hb5 1
    have z5 := heap_lt hb5
    simp at x5 y5
    clear hb5
    go_wp2_with fail
    refine (print_w B b m a vo5 (out ++ [58, 58] ++ nm.data.toList ++ [40]) ⟨#[41]⟩ w5 Hp5.out (by first | omega | (simp; omega)) (by decide)).mono ?_
    rintro e6 w6 ⟨rfl, vo6, hp, hw⟩
    have Hp6 : Hid (Pr B b m a vo6 (out ++ [58, 58] ++ nm.data.toList ++ [40] ++ [41]) w6) := Lib.hid hp
    have Hw6 : Hid (Wrote b vo vo6 w w6) := Lib.hid (Hw5.out.trans hw)
    have Hv6 : Hid (Wrote b vo vo6 (w.alloc (.cells #[.string nm, .slice (some x) 0 0, .bool true] 68)) w6) := Lib.hid (Hv5.out.trans hw)
    clear hp hw
    have hb6 : w6.heap[w.heap.size]? = some (.cells #[.string nm, .slice (some x) 0 0, .bool true] 68) := Hv6.out.heap (by omega) (fun hh => by have := (Hp.out.addr _ hh).2; omega) Hbx.out
    have x6 := cell_of_heap hb6 0
    have y6 := cell_of_heap hb6 1
    have z6 := heap_lt hb6
    simp at x6 y6
    clear hb6
    go_wp2_with fail
    go_end0
    exact ⟨rfl, vo6, Hp6.out, Hw6.out⟩
set_option maxRecDepth 100000 in
set_option maxHeartbeats 4000000 in
theorem sel_one (B b : Nat) (m a el : Bool) (out : List UInt8) (nm : ByteArray) (g : Nat) (t : ByteArray) (ws : Int) (vo : Option Addr) (w : World) (h : Pr B b m a vo out w) (hpl : Plain nm) (ho : out.length ≤ 130000000000) (ht : nm.size ≤ 140000000) (hpt : Plain t) (htt : t.size ≤ 140000000) (hg : w.heap[g]? = some (.cells (tokCells t) 75 (0, 0))) (hne : g ≠ b) (hgr : ¬ InRow vo g) :
    Calls Tryf.prog 17 #[.pointer (some ⟨b, 0, none⟩), .agg #[.string nm, .slice (some ⟨g, 0, none⟩) 1 1, .bool el], .int .u8 ws] w (Wrt B b m a vo (out ++ colons el ++ nm.data.toList ++ [40] ++ t.data.toList ++ [41]) w) := by
  have hq := fun W : World => Go.run_neq_slice_nil (P := Tryf.prog) W 66 75 (some ⟨g, 0, none⟩) 1 1 Tryf.underlying66
  simp only [Option.isNone, Bool.not_true, Bool.not_false] at hq
  have hbs := h.lt_size
  have Hp := Lib.hid h
  have hns : nm.data.toList.length = nm.size := by rw [Array.length_toList]; rfl
  have hts : t.data.toList.length = t.size := by rw [Array.length_toList]; rfl
  have Hg := Lib.hid hg
  have hgs := heap_lt hg
  clear h hg
  cases el
  · go_enter Tryf.func17, Tryf.ntmps17
    go_wp2_with fail
    have Hw1 : Hid (Wrote b vo vo w (w.alloc (.cells #[.string nm, .slice (some ⟨g, 0, none⟩) 1 1, .bool false] 68))) := Lib.hid ((Wrote.refl b vo w).alloc _)
    have Hv1 : Hid (Wrote b vo vo (w.alloc (.cells #[.string nm, .slice (some ⟨g, 0, none⟩) 1 1, .bool false] 68)) (w.alloc (.cells #[.string nm, .slice (some ⟨g, 0, none⟩) 1 1, .bool false] 68))) := Lib.hid (Wrote.refl b vo _)
    have Hp1 : Hid (Pr B b m a vo out (w.alloc (.cells #[.string nm, .slice (some ⟨g, 0, none⟩) 1 1, .bool false] 68))) := Lib.hid (Hp.out.wrote ((Chg.refl Nowhere w).alloc _))
    have Hbx : Hid ((w.alloc (.cells #[.string nm, .slice (some ⟨g, 0, none⟩) 1 1, .bool false] 68)).heap[w.heap.size]? = some (.cells #[.string nm, .slice (some ⟨g, 0, none⟩) 1 1, .bool false] 68)) := Lib.hid (heap_alloc_at w _ _ rfl)
    refine (print_w B b m a vo (out) ⟨#[58]⟩ (w.alloc (.cells #[.string nm, .slice (some ⟨g, 0, none⟩) 1 1, .bool false] 68)) Hp1.out (by first | omega | (simp; omega)) (by decide)).mono ?_
    rintro e2 w2 ⟨rfl, vo2, hp, hw⟩
    have Hp2 : Hid (Pr B b m a vo2 (out ++ [58]) w2) := Lib.hid hp
    have Hw2 : Hid (Wrote b vo vo2 w w2) := Lib.hid (Hw1.out.trans hw)
    have Hv2 : Hid (Wrote b vo vo2 (w.alloc (.cells #[.string nm, .slice (some ⟨g, 0, none⟩) 1 1, .bool false] 68)) w2) := Lib.hid (Hv1.out.trans hw)
    clear hp hw
    have hb2 : w2.heap[w.heap.size]? = some (.cells #[.string nm, .slice (some ⟨g, 0, none⟩) 1 1, .bool false] 68) := Hv2.out.heap (by omega) (fun hh => by have := (Hp.out.addr _ hh).2; omega) Hbx.out
    have x2 := cell_of_heap hb2 0
    have y2 := cell_of_heap hb2 1
    have z2 := heap_lt hb2
    simp at x2 y2
    clear hb2
    go_wp2_with fail
    refine (ident22 B b m a vo2 (out ++ [58]) nm _ w2 hpl Hp2.out (by first | omega | (simp; omega)) ht).mono ?_
    rintro e3 w3 ⟨rfl, vo3, hp, hw⟩
    have Hp3 : Hid (Pr B b m a vo3 (out ++ [58] ++ nm.data.toList) w3) := Lib.hid hp
    have Hw3 : Hid (Wrote b vo vo3 w w3) := Lib.hid (Hw2.out.trans hw)
    have Hv3 : Hid (Wrote b vo vo3 (w.alloc (.cells #[.string nm, .slice (some ⟨g, 0, none⟩) 1 1, .bool false] 68)) w3) := Lib.hid (Hv2.out.trans hw)
    clear hp hw
    have hb3 : w3.heap[w.heap.size]? = some (.cells #[.string nm, .slice (some ⟨g, 0, none⟩) 1 1, .bool false] 68) := Hv3.out.heap (by omega) (fun hh => by have := (Hp.out.addr _ hh).2; omega) Hbx.out
    have x3 := cell_of_heap hb3 0
    have y3 := cell_of_heap hb3 1
    have z3 := heap_lt hb3
    simp at x3 y3
    clear hb3
    go_wp2_with fail
    refine (print_w B b m a vo3 (out ++ [58] ++ nm.data.toList) ⟨#[40]⟩ w3 Hp3.out (by first | omega | (simp; omega)) (by decide)).mono ?_
    rintro e4 w4 ⟨rfl, vo4, hp, hw⟩
    have Hp4 : Hid (Pr B b m a vo4 (out ++ [58] ++ nm.data.toList ++ [40]) w4) := Lib.hid hp
    have Hw4 : Hid (Wrote b vo vo4 w w4) := Lib.hid (Hw3.out.trans hw)
    have Hv4 : Hid (Wrote b vo vo4 (w.alloc (.cells #[.string nm, .slice (some ⟨g, 0, none⟩) 1 1, .bool false] 68)) w4) := Lib.hid (Hv3.out.trans hw)
    clear hp hw
    have hb4 : w4.heap[w.heap.size]? = some (.cells #[.string nm, .slice (some ⟨g, 0, none⟩) 1 1, .bool false] 68) := Hv4.out.heap (by omega) (fun hh => by have := (Hp.out.addr _ hh).2; omega) Hbx.out
    have x4 := cell_of_heap hb4 0
    have y4 := cell_of_heap hb4 1
    have z4 := heap_lt hb4
    simp at x4 y4
    clear hb4
    go_wp2_with fail
    refine (tokens1 B b g m a (out ++ [58] ++ nm.data.toList ++ [40]) t w4 vo4 Hp4.out hpt (by first | omega | (simp; omega)) htt (Hw4.out.heap hne hgr Hg.out) hne (Hw4.out.out hgr hgs)).mono ?_
    rintro e5 w5 ⟨r, rfl, vo5, hp, hw⟩
    have Hp5 : Hid (Pr B b m a vo5 (out ++ [58] ++ nm.data.toList ++ [40] ++ t.data.toList) w5) := Lib.hid hp
    have Hw5 : Hid (Wrote b vo vo5 w w5) := Lib.hid (Hw4.out.trans hw)
    have Hv5 : Hid (Wrote b vo vo5 (w.alloc (.cells #[.string nm, .slice (some ⟨g, 0, none⟩) 1 1, .bool false] 68)) w5) := Lib.hid (Hv4.out.trans hw)
    clear hp hw
    have hb5 : w5.heap[w.heap.size]? = some (.cells #[.string nm, .slice (some ⟨g, 0, none⟩) 1 1, .bool false] 68) := Hv5.out.heap (by omega) (fun hh => by have := (Hp.out.addr _ hh).2; omega) Hbx.out
    have x5 := cell_of_heap hb5 0
    have y5 := cell_of_heap hb5 1
    have z5 := heap_lt hb5
    simp at x5 y5
    clear hb5
    go_wp2_with fail
    refine (print_w B b m a vo5 (out ++ [58] ++ nm.data.toList ++ [40] ++ t.data.toList) ⟨#[41]⟩ w5 Hp5.out (by first | omega | (simp; omega)) (by decide)).mono ?_
    rintro e6 w6 ⟨rfl, vo6, hp, hw⟩
    have Hp6 : Hid (Pr B b m a vo6 (out ++ [58] ++ nm.data.toList ++ [40] ++ t.data.toList ++ [41]) w6) := Lib.hid hp
    have Hw6 : Hid (Wrote b vo vo6 w w6) := Lib.hid (Hw5.out.trans hw)
    have Hv6 : Hid (Wrote b vo vo6 (w.alloc (.cells #[.string nm, .slice (some ⟨g, 0, none⟩) 1 1, .bool false] 68)) w6) := Lib.hid (Hv5.out.trans hw)
    clear hp hw
    have hb6 : w6.heap[w.heap.size]? = some (.cells #[.string nm, .slice (some ⟨g, 0, none⟩) 1 1, .bool false] 68) := Hv6.out.heap (by omega) (fun hh => by have := (Hp.out.addr _ hh).2; omega) Hbx.out
    have x6 := cell_of_heap hb6 0
    have y6 := cell_of_heap hb6 1
    have z6 := heap_lt hb6
    simp at x6 y6
    clear hb6
    go_wp2_with fail
    go_end0
    exact ⟨rfl, vo6, Hp6.out, Hw6.out⟩
  · go_enter Tryf.func17, Tryf.ntmps17
    go_wp2_with fail
    have Hw1 : Hid (Wrote b vo vo w (w.alloc (.cells #[.string nm, .slice (some ⟨g, 0, none⟩) 1 1, .bool true] 68))) := Lib.hid ((Wrote.refl b vo w).alloc _)
    have Hv1 : Hid (Wrote b vo vo (w.alloc (.cells #[.string nm, .slice (some ⟨g, 0, none⟩) 1 1, .bool true] 68)) (w.alloc (.cells #[.string nm, .slice (some ⟨g, 0, none⟩) 1 1, .bool true] 68))) := Lib.hid (Wrote.refl b vo _)
    have Hp1 : Hid (Pr B b m a vo out (w.alloc (.cells #[.string nm, .slice (some ⟨g, 0, none⟩) 1 1, .bool true] 68))) := Lib.hid (Hp.out.wrote ((Chg.refl Nowhere w).alloc _))
    have Hbx : Hid ((w.alloc (.cells #[.string nm, .slice (some ⟨g, 0, none⟩) 1 1, .bool true] 68)).heap[w.heap.size]? = some (.cells #[.string nm, .slice (some ⟨g, 0, none⟩) 1 1, .bool true] 68)) := Lib.hid (heap_alloc_at w _ _ rfl)
    refine (print_w B b m a vo (out) ⟨#[58, 58]⟩ (w.alloc (.cells #[.string nm, .slice (some ⟨g, 0, none⟩) 1 1, .bool true] 68)) Hp1.out (by first | omega | (simp; omega)) (by decide)).mono ?_
    rintro e2 w2 ⟨rfl, vo2, hp, hw⟩
    have Hp2 : Hid (Pr B b m a vo2 (out ++ [58, 58]) w2) := Lib.hid hp
    have Hw2 : Hid (Wrote b vo vo2 w w2) := Lib.hid (Hw1.out.trans hw)
    have Hv2 : Hid (Wrote b vo vo2 (w.alloc (.cells #[.string nm, .slice (some ⟨g, 0, none⟩) 1 1, .bool true] 68)) w2) := Lib.hid (Hv1.out.trans hw)
    clear hp hw
    have hb2 : w2.heap[w.heap.size]? = some (.cells #[.string nm, .slice (some ⟨g, 0, none⟩) 1 1, .bool true] 68) := Hv2.out.heap (by omega) (fun hh => by have := (Hp.out.addr _ hh).2; omega) Hbx.out
    have x2 := cell_of_heap hb2 0
    have y2 := cell_of_heap hb2 1
    have z2 := heap_lt hb2
    simp at x2 y2
    clear hb2
    go_wp2_with fail
    refine (ident22 B b m a vo2 (out ++ [58, 58]) nm _ w2 hpl Hp2.out (by first | omega | (simp; omega)) ht).mono ?_
    rintro e3 w3 ⟨rfl, vo3, hp, hw⟩
    have Hp3 : Hid (Pr B b m a vo3 (out ++ [58, 58] ++ nm.data.toList) w3) := Lib.hid hp
    have Hw3 : Hid (Wrote b vo vo3 w w3) := Lib.hid (Hw2.out.trans hw)
    have Hv3 : Hid (Wrote b vo vo3 (w.alloc (.cells #[.string nm, .slice (some ⟨g, 0, none⟩) 1 1, .bool true] 68)) w3) := Lib.hid (Hv2.out.trans hw)
    clear hp hw
    have hb3 : w3.heap[w.heap.size]? = some (.cells #[.string nm, .slice (some ⟨g, 0, none⟩) 1 1, .bool true] 68) := Hv3.out.heap (by omega) (fun hh => by have := (Hp.out.addr _ hh).2; omega) Hbx.out
    have x3 := cell_of_heap hb3 0
    have y3 := cell_of_heap hb3 1
    have z3 := heap_lt hb3
    simp at x3 y3
    clear hb3
    go_wp2_with fail
    refine (print_w B b m a vo3 (out ++ [58, 58] ++ nm.data.toList) ⟨#[40]⟩ w3 Hp3.out (by first | omega | (simp; omega)) (by decide)).mono ?_
    rintro e4 w4 ⟨rfl, vo4, hp, hw⟩
    have Hp4 : Hid (Pr B b m a vo4 (out ++ [58, 58] ++ nm.data.toList ++ [40]) w4) := Lib.hid hp
    have Hw4 : Hid (Wrote b vo vo4 w w4) := Lib.hid (Hw3.out.trans hw)
    have Hv4 : Hid (Wrote b vo vo4 (w.alloc (.cells #[.string nm, .slice (some ⟨g, 0, none⟩) 1 1, .bool true] 68)) w4) := Lib.hid (Hv3.out.trans hw)
    clear hp hw
    have hb4 : w4.heap[w.heap.size]? = some (.cells #[.string nm, .slice (some ⟨g, 0, none⟩) 1 1, .bool true] 68) := Hv4.out.heap (by omega) (fun hh => by have := (Hp.out.addr _ hh).2; omega) Hbx.out
    have x4 := cell_of_heap hb4 0
    have y4 := cell_of_heap hb4 1
    have z4 := heap_lt hb4
    simp at x4 y4
    clear hb4
    go_wp2_with fail
    refine (tokens1 B b g m a (out ++ [58, 58] ++ nm.data.toList ++ [40]) t w4 vo4 Hp4.out hpt (by first | omega | (simp; omega)) htt (Hw4.out.heap hne hgr Hg.out) hne (Hw4.out.out hgr hgs)).mono ?_
    rintro e5 w5 ⟨r, rfl, vo5, hp, hw⟩
    have Hp5 : Hid (Pr B b m a vo5 (out ++ [58, 58] ++ nm.data.toList ++ [40] ++ t.data.toList) w5) := Lib.hid hp
    have Hw5 : Hid (Wrote b vo vo5 w w5) := Lib.hid (Hw4.out.trans hw)
    have Hv5 : Hid (Wrote b vo vo5 (w.alloc (.cells #[.string nm, .slice (some ⟨g, 0, none⟩) 1 1, .bool true] 68)) w5) := Lib.hid (Hv4.out.trans hw)
    clear hp hw
    have hb5 : w5.heap[w.heap.size]? = some (.cells #[.string nm, .slice (some ⟨g, 0, none⟩) 1 1, .bool true] 68) := Hv5.out.heap (by omega) (fun hh => by have := (Hp.out.addr _ hh).2; omega) Hbx.out
    have x5 := cell_of_heap hb5 0
    have y5 := cell_of_heap hb5 1
    have z5 := heap_lt hb5
    simp at x5 y5
    clear hb5
    go_wp2_with fail
    refine (print_w B b m a vo5 (out ++ [58, 58] ++ nm.data.toList ++ [40] ++ t.data.toList) ⟨#[41]⟩ w5 Hp5.out (by first | omega | (simp; omega)) (by decide)).mono ?_
    rintro e6 w6 ⟨rfl, vo6, hp, hw⟩
    have Hp6 : Hid (Pr B b m a vo6 (out ++ [58, 58] ++ nm.data.toList ++ [40] ++ t.data.toList ++ [41]) w6) := Lib.hid hp
    have Hw6 : Hid (Wrote b vo vo6 w w6) := Lib.hid (Hw5.out.trans hw)
    have Hv6 : Hid (Wrote b vo vo6 (w.alloc (.cells #[.string nm, .slice (some ⟨g, 0, none⟩) 1 1, .bool true] 68)) w6) := Lib.hid (Hv5.out.trans hw)
    clear hp hw
    have hb6 : w6.heap[w.heap.size]? = some (.cells #[.string nm, .slice (some ⟨g, 0, none⟩) 1 1, .bool true] 68) := Hv6.out.heap (by omega) (fun hh => by have := (Hp.out.addr _ hh).2; omega) Hbx.out
    have x6 := cell_of_heap hb6 0
    have y6 := cell_of_heap hb6 1
    have z6 := heap_lt hb6
    simp at x6 y6
    clear hb6
    go_wp2_with fail
    go_end0
    exact ⟨rfl, vo6, Hp6.out, Hw6.out⟩
end Go.Proofs.YtgfiigonjleeeaaFmt
