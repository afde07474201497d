/-
  Proved: contract of the css printer's printTokens at one number token. No statement of the seat stands here.
-/
import Derived.Test.YtogkpfdnfjlflaaGreatFmtPrint
import Derived.Handy
namespace Go.Proofs.YtogkpfdnfjlflaaGreatFmt
open Go.RowKit Go.ChangeAt
set_option linter.unusedSimpArgs false
set_option linter.unusedVariables false
def tokCells (t : ByteArray) : Array Value := #[.pointer none, .string t, .int .i32 0, .int .u32 0, .int .u16 0, .int .u8 30, .int .u8 0]
def TokOut (B b : Nat) (m : Bool) (vo : Option Addr) (out : List UInt8) (w : World) (e : Ending) (w' : World) : Prop :=
  (∃ r : Bool, e = .returned (.bool r)) ∧ ∃ vo', Pr B b m vo' out w' ∧ Chg (fun k => k = b ∨ InRow vo k) w w' ∧ (vo' = vo ∨ ∃ g, vo' = some ⟨g, 0, none⟩ ∧ w.heap.size ≤ g)
set_option maxRecDepth 100000 in
set_option maxHeartbeats 2000000 in
theorem tokens_any (B b g : Nat) (m : Bool) (out : List UInt8) (t : ByteArray) (w : World) (vo : Option Addr) (h : Pr B b m vo out w) (ho : out.length ≤ 140000000000) (ht : t.size ≤ 140000000) (hg : w.heap[g]? = some (.cells (tokCells t) 39 (0, 0))) (hgb : g < B) (hne : g ≠ b) :
    Calls Tryz.prog 13 #[.pointer (some ⟨b, 0, none⟩), .slice (some ⟨g, 0, none⟩) 1 1, .agg #[.int .i32 0, .int .u8 0, .bool false]] w (TokOut B b m vo (out ++ t.data.toList) w) := by
  obtain ⟨vc, hblk, hown⟩ := h.row
  have hlt := h.lt
  have hle := h.le
  have t0 := cell_of_heap hg 0
  have t1 := cell_of_heap hg 1
  have t2 := cell_of_heap hg 2
  have t3 := cell_of_heap hg 3
  have t4 := cell_of_heap hg 4
  have t5 := cell_of_heap hg 5
  have t6 := cell_of_heap hg 6
  have p3 := cell_of_heap hblk 3
  have p6 := cell_of_heap hblk 6
  have p9 := cell_of_heap hblk 9
  simp [tokCells] at t0 t1 t2 t3 t4 t5 t6
  simp [pc] at p3 p6 p9
  have Hp := Lib.hid h
  have hgs := heap_lt hg
  have hbs := heap_lt hblk
  clear h hblk hown hg
  go_enter Tryz.func13, Tryz.ntmps13
  have w86 : w.cell? ⟨g, 0, none⟩ = some (.pointer none) := t0
  cases m
  all_goals (
    go_wp2
    refine wp_loop_rounds 2 ?_
    rw [rounds_succ]
    go_wp2_with fail
    have hc2 : Chg Nowhere w ((w.alloc (.cells #[.int .i32 0, .int .u8 0, .bool false] 86)).alloc (.cells #[.pointer none, .string t, .int .i32 0, .int .u32 0, .int .u16 0, .int .u8 30, .int .u8 0] 39)) := ((Chg.refl _ w).alloc _).alloc _
    have hp2 := Hp.out.kept hc2 (fun h => h) (fun _ _ h => h)
    refine (print_any B b _ vo out t _ hp2 ho ht).mono ?_
    rintro e w1 ⟨rfl, vo', hp3, hch, hvo⟩
    have hbox : w1.cell? ⟨w.heap.size + 1, 0, none⟩ = some (.pointer none) := by
      rw [hch.cell_eq (p := ⟨w.heap.size + 1, 0, none⟩) (by simp) (by
        rintro (h | h)
        · simp at h; omega
        · have := (Hp.out.addr _ h).2
          simp at this
          omega)]
      have h9 := heap_alloc_new (w.alloc (.cells #[.int .i32 0, .int .u8 0, .bool false] 86)) (.cells #[.pointer none, .string t, .int .i32 0, .int .u32 0, .int .u16 0, .int .u8 30, .int .u8 0] 39)
      have h10 := cell_of_heap h9 0
      simp at h10 ⊢
    have Hp3 := Lib.hid hp3
    have Hch : Hid (Chg (fun k => k = b ∨ InRow vo k) w w1) := (hc2.mono (fun _ _ h => h.elim)).trans hch (fun _ _ h => h)
    have Hvo := Lib.hid hvo
    clear hp2 hc2 hp3 hch hvo
    go_wp2_with fail
    rw [rounds_succ]
    go_wp2
    go_ret
    exact ⟨⟨_, rfl⟩, vo', Hp3.out, Hch.out, Hvo.out.imp id (fun h => ⟨_, h, by simp; omega⟩)⟩)
end Go.Proofs.YtogkpfdnfjlflaaGreatFmt
