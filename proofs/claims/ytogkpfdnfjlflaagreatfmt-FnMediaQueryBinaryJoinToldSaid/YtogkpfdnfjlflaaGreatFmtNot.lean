/-
  Proved: contract of the css printer's printMediaQuery at a 'not' over a query of one number token. No statement of the seat stands here.
-/
import Derived.Test.YtogkpfdnfjlflaaGreatFmtQuery
namespace Go.Proofs.YtogkpfdnfjlflaaGreatFmt
open Go.RowKit Go.ChangeAt
set_option linter.unusedSimpArgs false
set_option linter.unusedVariables false
theorem as72_30 (v : Value) (w : World) : (Instr.typeAssert (.iface 72 v) 44 30 true).run Tryz.prog w = .ok (.tuple #[.pointer none, .bool false]) w := by kernel_rfl
theorem as72_87 (v : Value) (w : World) : (Instr.typeAssert (.iface 72 v) 44 87 true).run Tryz.prog w = .ok (.tuple #[.pointer none, .bool false]) w := by kernel_rfl
theorem as72_72 (v : Value) (w : World) : (Instr.typeAssert (.iface 72 v) 44 72 true).run Tryz.prog w = .ok (.tuple #[v, .bool true]) w := by kernel_rfl
theorem Pr.cell {B b : Nat} {m : Bool} {vo : Option Addr} {out : List UInt8} {w : World} (h : Pr B b m vo out w) (j : Nat) (hj : j ≠ 15) : w.cell? ⟨b, j, none⟩ = (pc m .nilFunc)[j]? := by
  obtain ⟨vc, h1, _⟩ := h.row
  rw [cell_of_heap h1 j]
  have e : pc m (.slice vo out.length vc) = (pc m .nilFunc).setIfInBounds 15 (.slice vo out.length vc) := rfl
  rw [e, Array.getElem?_setIfInBounds_ne (by omega)]
theorem Pr.lt_size {B b : Nat} {m : Bool} {vo : Option Addr} {out : List UInt8} {w : World} (h : Pr B b m vo out w) : b < w.heap.size := Nat.lt_of_lt_of_le h.lt h.le
def notText (f : Int) (t : List UInt8) : List UInt8 :=
  if bits .and .u8 f 1 ≠ 0 then [40] ++ [110, 111, 116, 32] ++ t ++ [41] else if bits .and .u8 f 2 ≠ 0 then [32] ++ [110, 111, 116, 32] ++ t else [110, 111, 116, 32] ++ t
def notQ (g3 : Nat) : Value := .agg #[.int .i32 0, .iface 72 (.pointer (some ⟨g3, 0, none⟩))]
set_option maxRecDepth 100000 in
set_option maxHeartbeats 4000000 in
theorem mq_not (B b g1 g2 g3 : Nat) (m : Bool) (f : Int) (out : List UInt8) (t : ByteArray) (w : World) (vo : Option Addr) (h : Pr B b m vo out w) (hq : TokAt B b g1 g2 t w)
    (hn : w.heap[g3]? = some (.cells #[.int .i32 0, .iface 30 (.pointer (some ⟨g1, 0, none⟩))] 74 (0, 0))) (hn1 : g3 < B) (hn2 : g3 ≠ b) (ho : out.length ≤ 130000000000) (ht : t.size ≤ 140000000) :
    Calls Tryz.prog 11 #[.pointer (some ⟨b, 0, none⟩), notQ g3, .int .u8 f] w (Wrt B b m vo (out ++ notText f t.data.toList) w) := by
  have n0 := cell_of_heap hn 0
  have n1 := cell_of_heap hn 1
  simp at n0 n1
  have hB := h.le
  have hg := heap_lt hn
  have p9 := h.cell 9 (by decide)
  simp [pc] at p9
  have hbs := h.lt_size
  have Hp := Lib.hid h
  have Hq := Lib.hid hq
  have Hn := Lib.hid hn
  clear h hq hn
  have as1 := as72_30
  have as2 := as72_87
  have as3 := as72_72
  unfold notQ
  by_cases c1 : bits .and .u8 f 1 = 0
  · by_cases c2 : bits .and .u8 f 2 = 0
    · go_enter Tryz.func11, Tryz.ntmps11
      go_wp2_with fail
      have Hw1 : Hid (Wrote b vo vo w (w.alloc (.cells #[.int .i32 0, .iface 72 (.pointer (some ⟨g3, 0, none⟩))] 46))) := Lib.hid ((Wrote.refl b vo w).alloc _)
      have Hp1 : Hid (Pr B b m vo out (w.alloc (.cells #[.int .i32 0, .iface 72 (.pointer (some ⟨g3, 0, none⟩))] 46))) := Lib.hid (Hp.out.wrote ((Chg.refl Nowhere w).alloc _))
      refine (print_w B b m vo (out) ⟨#[110, 111, 116, 32]⟩ (w.alloc (.cells #[.int .i32 0, .iface 72 (.pointer (some ⟨g3, 0, none⟩))] 46)) Hp1.out (by first | omega | (simp; omega)) (by decide)).mono ?_
      rintro e2 w2 ⟨rfl, vo2, hp, hw⟩
      have Hp2 : Hid (Pr B b m vo2 (out ++ [110, 111, 116, 32]) w2) := Lib.hid hp
      have Hw2 : Hid (Wrote b vo vo2 w w2) := Lib.hid (Hw1.out.trans hw)
      clear hp hw
      have q2 : w2.cell? ⟨b, 9, none⟩ = some (.bool false) := (Hp2.out.cell 9 (by decide)).trans (by simp [pc])
      have s2 := Hp2.out.lt_size
      have hn2 := Hw2.out.heap Hp.out hn1 hn2 Hn.out
      have r2 := cell_of_heap hn2 0
      have u2 := cell_of_heap hn2 1
      simp at r2 u2
      have x2 := heap_lt hn2
      clear hn2
      go_wp2_with fail
      refine (mq_tok B b g1 g2 m (out ++ [110, 111, 116, 32]) t w2 vo2 Hp2.out (Hq.out.kept Hw2.out Hp.out) (by first | omega | (simp; omega)) ht).mono ?_
      rintro e3 w3 ⟨rfl, vo3, hp, hw⟩
      have Hp3 : Hid (Pr B b m vo3 (out ++ [110, 111, 116, 32] ++ t.data.toList) w3) := Lib.hid hp
      have Hw3 : Hid (Wrote b vo vo3 w w3) := Lib.hid (Hw2.out.trans hw)
      clear hp hw
      have q3 : w3.cell? ⟨b, 9, none⟩ = some (.bool false) := (Hp3.out.cell 9 (by decide)).trans (by simp [pc])
      have s3 := Hp3.out.lt_size
      go_wp2_with fail
      go_end0
      refine ⟨rfl, vo3, ?_, Hw3.out⟩
      have hz := Hp3.out
      simp only [List.append_assoc] at hz
      simpa only [notText, c1, c2, ne_eq, not_true_eq_false, not_false_eq_true, if_true, if_false, List.append_assoc] using hz
    · go_enter Tryz.func11, Tryz.ntmps11
      go_wp2_with fail
      have Hw1 : Hid (Wrote b vo vo w (w.alloc (.cells #[.int .i32 0, .iface 72 (.pointer (some ⟨g3, 0, none⟩))] 46))) := Lib.hid ((Wrote.refl b vo w).alloc _)
      have Hp1 : Hid (Pr B b m vo out (w.alloc (.cells #[.int .i32 0, .iface 72 (.pointer (some ⟨g3, 0, none⟩))] 46))) := Lib.hid (Hp.out.wrote ((Chg.refl Nowhere w).alloc _))
      refine (print_w B b m vo (out) ⟨#[32]⟩ (w.alloc (.cells #[.int .i32 0, .iface 72 (.pointer (some ⟨g3, 0, none⟩))] 46)) Hp1.out (by first | omega | (simp; omega)) (by decide)).mono ?_
      rintro e2 w2 ⟨rfl, vo2, hp, hw⟩
      have Hp2 : Hid (Pr B b m vo2 (out ++ [32]) w2) := Lib.hid hp
      have Hw2 : Hid (Wrote b vo vo2 w w2) := Lib.hid (Hw1.out.trans hw)
      clear hp hw
      have q2 : w2.cell? ⟨b, 9, none⟩ = some (.bool false) := (Hp2.out.cell 9 (by decide)).trans (by simp [pc])
      have s2 := Hp2.out.lt_size
      have hn2 := Hw2.out.heap Hp.out hn1 hn2 Hn.out
      have r2 := cell_of_heap hn2 0
      have u2 := cell_of_heap hn2 1
      simp at r2 u2
      have x2 := heap_lt hn2
      clear hn2
      go_wp2_with fail
      refine (print_w B b m vo2 (out ++ [32]) ⟨#[110, 111, 116, 32]⟩ w2 Hp2.out (by first | omega | (simp; omega)) (by decide)).mono ?_
      rintro e3 w3 ⟨rfl, vo3, hp, hw⟩
      have Hp3 : Hid (Pr B b m vo3 (out ++ [32] ++ [110, 111, 116, 32]) w3) := Lib.hid hp
      have Hw3 : Hid (Wrote b vo vo3 w w3) := Lib.hid (Hw2.out.trans hw)
      clear hp hw
      have q3 : w3.cell? ⟨b, 9, none⟩ = some (.bool false) := (Hp3.out.cell 9 (by decide)).trans (by simp [pc])
      have s3 := Hp3.out.lt_size
      have hn3 := Hw3.out.heap Hp.out hn1 hn2 Hn.out
      have r3 := cell_of_heap hn3 0
      have u3 := cell_of_heap hn3 1
      simp at r3 u3
      have x3 := heap_lt hn3
      clear hn3
      go_wp2_with fail
      refine (mq_tok B b g1 g2 m (out ++ [32] ++ [110, 111, 116, 32]) t w3 vo3 Hp3.out (Hq.out.kept Hw3.out Hp.out) (by first | omega | (simp; omega)) ht).mono ?_
      rintro e4 w4 ⟨rfl, vo4, hp, hw⟩
      have Hp4 : Hid (Pr B b m vo4 (out ++ [32] ++ [110, 111, 116, 32] ++ t.data.toList) w4) := Lib.hid hp
      have Hw4 : Hid (Wrote b vo vo4 w w4) := Lib.hid (Hw3.out.trans hw)
      clear hp hw
      have q4 : w4.cell? ⟨b, 9, none⟩ = some (.bool false) := (Hp4.out.cell 9 (by decide)).trans (by simp [pc])
      have s4 := Hp4.out.lt_size
      go_wp2_with fail
      go_end0
      refine ⟨rfl, vo4, ?_, Hw4.out⟩
      have hz := Hp4.out
      simp only [List.append_assoc] at hz
      simpa only [notText, c1, c2, ne_eq, not_true_eq_false, not_false_eq_true, if_true, if_false, List.append_assoc] using hz
  · go_enter Tryz.func11, Tryz.ntmps11
    go_wp2_with fail
    have Hw1 : Hid (Wrote b vo vo w (w.alloc (.cells #[.int .i32 0, .iface 72 (.pointer (some ⟨g3, 0, none⟩))] 46))) := Lib.hid ((Wrote.refl b vo w).alloc _)
    have Hp1 : Hid (Pr B b m vo out (w.alloc (.cells #[.int .i32 0, .iface 72 (.pointer (some ⟨g3, 0, none⟩))] 46))) := Lib.hid (Hp.out.wrote ((Chg.refl Nowhere w).alloc _))
    refine (print_w B b m vo (out) ⟨#[40]⟩ (w.alloc (.cells #[.int .i32 0, .iface 72 (.pointer (some ⟨g3, 0, none⟩))] 46)) Hp1.out (by first | omega | (simp; omega)) (by decide)).mono ?_
    rintro e2 w2 ⟨rfl, vo2, hp, hw⟩
    have Hp2 : Hid (Pr B b m vo2 (out ++ [40]) w2) := Lib.hid hp
    have Hw2 : Hid (Wrote b vo vo2 w w2) := Lib.hid (Hw1.out.trans hw)
    clear hp hw
    have q2 : w2.cell? ⟨b, 9, none⟩ = some (.bool false) := (Hp2.out.cell 9 (by decide)).trans (by simp [pc])
    have s2 := Hp2.out.lt_size
    have hn2 := Hw2.out.heap Hp.out hn1 hn2 Hn.out
    have r2 := cell_of_heap hn2 0
    have u2 := cell_of_heap hn2 1
    simp at r2 u2
    have x2 := heap_lt hn2
    clear hn2
    go_wp2_with fail
    refine (print_w B b m vo2 (out ++ [40]) ⟨#[110, 111, 116, 32]⟩ w2 Hp2.out (by first | omega | (simp; omega)) (by decide)).mono ?_
    rintro e3 w3 ⟨rfl, vo3, hp, hw⟩
    have Hp3 : Hid (Pr B b m vo3 (out ++ [40] ++ [110, 111, 116, 32]) w3) := Lib.hid hp
    have Hw3 : Hid (Wrote b vo vo3 w w3) := Lib.hid (Hw2.out.trans hw)
    clear hp hw
    have q3 : w3.cell? ⟨b, 9, none⟩ = some (.bool false) := (Hp3.out.cell 9 (by decide)).trans (by simp [pc])
    have s3 := Hp3.out.lt_size
    have hn3 := Hw3.out.heap Hp.out hn1 hn2 Hn.out
    have r3 := cell_of_heap hn3 0
    have u3 := cell_of_heap hn3 1
    simp at r3 u3
    have x3 := heap_lt hn3
    clear hn3
    go_wp2_with fail
    refine (mq_tok B b g1 g2 m (out ++ [40] ++ [110, 111, 116, 32]) t w3 vo3 Hp3.out (Hq.out.kept Hw3.out Hp.out) (by first | omega | (simp; omega)) ht).mono ?_
    rintro e4 w4 ⟨rfl, vo4, hp, hw⟩
    have Hp4 : Hid (Pr B b m vo4 (out ++ [40] ++ [110, 111, 116, 32] ++ t.data.toList) w4) := Lib.hid hp
    have Hw4 : Hid (Wrote b vo vo4 w w4) := Lib.hid (Hw3.out.trans hw)
    clear hp hw
    have q4 : w4.cell? ⟨b, 9, none⟩ = some (.bool false) := (Hp4.out.cell 9 (by decide)).trans (by simp [pc])
    have s4 := Hp4.out.lt_size
    go_wp2_with fail
    refine (print_w B b m vo4 (out ++ [40] ++ [110, 111, 116, 32] ++ t.data.toList) ⟨#[41]⟩ w4 Hp4.out (by first | omega | (simp; omega)) (by decide)).mono ?_
    rintro e5 w5 ⟨rfl, vo5, hp, hw⟩
    have Hp5 : Hid (Pr B b m vo5 (out ++ [40] ++ [110, 111, 116, 32] ++ t.data.toList ++ [41]) w5) := Lib.hid hp
    have Hw5 : Hid (Wrote b vo vo5 w w5) := Lib.hid (Hw4.out.trans hw)
    clear hp hw
    have q5 : w5.cell? ⟨b, 9, none⟩ = some (.bool false) := (Hp5.out.cell 9 (by decide)).trans (by simp [pc])
    have s5 := Hp5.out.lt_size
    have hn5 := Hw5.out.heap Hp.out hn1 hn2 Hn.out
    have r5 := cell_of_heap hn5 0
    have u5 := cell_of_heap hn5 1
    simp at r5 u5
    have x5 := heap_lt hn5
    clear hn5
    go_wp2_with fail
    go_end0
    refine ⟨rfl, vo5, ?_, Hw5.out⟩
    have hz := Hp5.out
    simp only [List.append_assoc] at hz
    simpa only [notText, c1, ne_eq, not_true_eq_false, not_false_eq_true, if_true, if_false, List.append_assoc] using hz
end Go.Proofs.YtogkpfdnfjlflaaGreatFmt
