/-
  Proved: contracts of the css printer's printTokens at no token and at one plain identifier token. No statement of the seat stands here.
-/
import Derived.Test.YtgfiigonjleeeaaFmtIdent
namespace Go.Proofs.YtgfiigonjleeeaaFmt
open Go.RowKit Go.ChangeAt
set_option linter.unusedSimpArgs false
set_option linter.unusedVariables false
def tokCells (t : ByteArray) : Array Value := #[.pointer none, .string t, .int .i32 0, .int .u32 0, .int .u16 0, .int .u8 29, .int .u8 0]
set_option maxRecDepth 100000 in
set_option maxHeartbeats 4000000 in
theorem tokens0 (B b : Nat) (m a : Bool) (out : List UInt8) (w : World) (vo x : Option Addr) (h : Pr B b m a vo out w) :
    Calls Tryf.prog 23 #[.pointer (some ⟨b, 0, none⟩), .slice x 0 0, .agg #[.int .i32 0, .int .u8 0, .bool false]] w (WrtB B b m a vo out w) := by
  have p6 := h.cell 6 (by decide)
  have p3 := h.cell 3 (by decide)
  have p9 := h.cell 9 (by decide)
  simp [pc] at p6 p3 p9
  have hbs := h.lt_size
  have Hp := Lib.hid h
  clear h
  go_enter Tryf.func23, Tryf.ntmps23
  cases m
  all_goals (
    go_wp2
    refine wp_loop_rounds 1 ?_
    rw [rounds_succ]
    go_wp2
    go_ret
    exact ⟨_, rfl, vo, Hp.out.wrote ((Chg.refl Nowhere w).alloc _), (Wrote.refl b vo w).alloc _⟩)
set_option maxRecDepth 100000 in
set_option maxHeartbeats 4000000 in
theorem tokens1 (B b g : Nat) (m a : Bool) (out : List UInt8) (t : ByteArray) (w : World) (vo : Option Addr) (h : Pr B b m a vo out w) (hpl : Plain t) (ho : out.length ≤ 140000000000) (ht : t.size ≤ 140000000)
    (hg : w.heap[g]? = some (.cells (tokCells t) 75 (0, 0))) (hne : g ≠ b) (hr : ¬ InRow vo g) :
    Calls Tryf.prog 23 #[.pointer (some ⟨b, 0, none⟩), .slice (some ⟨g, 0, none⟩) 1 1, .agg #[.int .i32 0, .int .u8 0, .bool false]] w (WrtB B b m a vo (out ++ t.data.toList) w) := by
  have t0 := cell_of_heap hg 0
  have t1 := cell_of_heap hg 1
  have t2 := cell_of_heap hg 2
  have t3 := cell_of_heap hg 3
  have t4 := cell_of_heap hg 4
  have t5 := cell_of_heap hg 5
  have t6 := cell_of_heap hg 6
  have p6 := h.cell 6 (by decide)
  have p3 := h.cell 3 (by decide)
  have p9 := h.cell 9 (by decide)
  simp [pc] at p6 p3 p9
  simp [tokCells] at t0 t1 t2 t3 t4 t5 t6
  have hgs := heap_lt hg
  have hbs := h.lt_size
  have Hp := Lib.hid h
  clear h hg
  go_enter Tryf.func23, Tryf.ntmps23
  cases m
  all_goals (
    go_wp2
    refine wp_loop_rounds 2 ?_
    rw [rounds_succ]
    go_wp2_with fail
    have hc2 : Chg Nowhere w ((w.alloc (.cells #[.int .i32 0, .int .u8 0, .bool false] 81)).alloc (.cells #[.pointer none, .string t, .int .i32 0, .int .u32 0, .int .u16 0, .int .u8 29, .int .u8 0] 75)) := ((Chg.refl _ w).alloc _).alloc _
    have hp2 := Hp.out.wrote hc2
    have hw2 : Wrote b vo vo w ((w.alloc (.cells #[.int .i32 0, .int .u8 0, .bool false] 81)).alloc (.cells #[.pointer none, .string t, .int .i32 0, .int .u32 0, .int .u16 0, .int .u8 29, .int .u8 0] 75)) := ((Wrote.refl b vo w).alloc _).alloc _
    refine (ident22 B b _ a vo out t _ _ hpl hp2 ho ht).mono ?_
    rintro e w1 ⟨rfl, vo', hp3, hw3⟩
    have hbox : w1.cell? ⟨w.heap.size + 1, 0, none⟩ = some (.pointer none) := by
      have h9 := heap_alloc_new (w.alloc (.cells #[.int .i32 0, .int .u8 0, .bool false] 81)) (.cells #[.pointer none, .string t, .int .i32 0, .int .u32 0, .int .u16 0, .int .u8 29, .int .u8 0] 75)
      simp only [World.size_alloc] at h9
      have h10 := hw3.heap (k := w.heap.size + 1) (by omega) (fun hh => by have := (Hp.out.addr _ hh).2; omega) h9
      have h11 := cell_of_heap h10 0
      simpa using h11
    have Hp3 := Lib.hid hp3
    have Hw3 : Hid (Wrote b vo vo' w w1) := Lib.hid (hw2.trans hw3)
    clear hp2 hc2 hp3 hw3 hw2
    go_wp2_with fail
    rw [rounds_succ]
    go_wp2
    go_ret
    exact ⟨_, rfl, vo', Hp3.out, Hw3.out⟩)
end Go.Proofs.YtgfiigonjleeeaaFmt
