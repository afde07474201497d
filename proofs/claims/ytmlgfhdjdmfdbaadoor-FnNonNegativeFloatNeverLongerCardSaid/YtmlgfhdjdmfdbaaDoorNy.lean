/-
  Proved: what the listed tables of the row give the walk: the cells of Go's table of powers of ten, the decimal table, and one cell of the bit table. No statement of the seat stands here.
-/
import Derived.Test.YtmlgfhdjdmfdbaaDoorNx
import Derived.Laws.FloatArith
import Derived.Test.YtmlgfhdjdmfdbaaDoorRows
import Derived.ProofKit
import Derived.MakeChecks
import Derived.Lib.LaidTab
import Derived.OpenShut
import Derived.ChangeSame
namespace Go.Proofs.YtmlgfhdjdmfdbaaDoor
open Go.ChangeShapes Go.WideShapes Go.ChangeAt Go.RowKit
set_option linter.unusedSimpArgs false
set_option linter.unusedVariables false
set_option maxRecDepth 100000
theorem gPow : Tryd.prog.globalNamed "internal/strconv.pow10Tab" = some 3 := by kernel_rfl
theorem gU : Tryd.prog.globalNamed "internal/strconv.uint64pow10" = some 2 := by kernel_rfl
theorem tPow : (Tryd.prog.globals[3]?).map (·.type) = some 135 := by kernel_rfl
theorem tU : (Tryd.prog.globals[2]?).map (·.type) = some 125 := by kernel_rfl
theorem c109 : Tryd.prog.cellsOf 134 = 2 := by kernel_rfl
theorem c110 : Tryd.prog.cellsOf 135 = 1392 := by kernel_rfl
theorem c64 : Tryd.prog.cellsOf 39 = 1 := by kernel_rfl
theorem c20 : Tryd.prog.cellsOf 125 = 20 := by kernel_rfl
/-- The table's cells, read off the datum. -/
theorem pow_cells {H : Type} {enc : TypeId × Value → H} {w : World} {base : Nat} {sp : Nat → Bool} {held : Bool} {fuel : Nat} {cs : List Value} {p : List MemPlace} {D : DataW H}
    (hD : D = .agg (Go.Pinned.pow10Rows.map fun x => .agg [.lit (.int .u64 x.1), .lit (.int .u64 x.2)]))
    (h : DataW.trod enc Tryd.prog w base sp held fuel 135 cs = some (D, p)) (i : Nat) (hi : i < 696) :
    cs[i * 2]? = some (.int .u64 (rowHi i)) ∧ cs[i * 2 + 1]? = some (.int .u64 (rowLo i)) := by
  obtain ⟨xs, m, _, hx, hl, hlen, hel⟩ := DataW.trod_array Tryd.underlying135 h
  rw [c110] at hl
  have hi2 : i < xs.length := by omega
  have hrow : i < Go.Pinned.pow10Rows.length := by rw [rows_len]; exact hi
  have he := hel i hi
  rw [c109, List.getElem?_eq_getElem hi2] at he
  obtain ⟨y0, y1, n, hy, hl2, h0, h1⟩ := trod_struct2 Tryd.underlying134 he
  have hdat : (xs[i]).1 = .agg [.lit (.int .u64 (Go.Pinned.pow10Rows[i]).1), .lit (.int .u64 (Go.Pinned.pow10Rows[i]).2)] := by
    have h2 := congrArg Prod.fst hx
    rw [hD] at h2
    injection h2 with h2
    have h3 := congrArg (fun l => l[i]?) h2
    simp only [List.getElem?_map, List.getElem?_eq_getElem hrow, List.getElem?_eq_getElem hi2, Option.map_some, Option.some.injEq] at h3
    exact h3.symm
  rw [hy] at hdat
  simp only [DataW.agg.injEq, List.cons.injEq, and_true] at hdat
  obtain ⟨k0, e0, e1, _⟩ := DataW.trod_int Tryd.underlying39 h0
  obtain ⟨k1, e2, e3, _⟩ := DataW.trod_int Tryd.underlying39 h1
  rw [e1] at hdat
  rw [e3] at hdat
  simp only [DataW.lit.injEq, Lit.int.injEq, true_and] at hdat
  obtain ⟨rfl, rfl⟩ := hdat
  have hr0 : rowHi i = (Go.Pinned.pow10Rows[i]).1 := by unfold rowHi; rw [List.getD_eq_getElem?_getD, List.getElem?_eq_getElem hrow]; rfl
  have hr1 : rowLo i = (Go.Pinned.pow10Rows[i]).2 := by unfold rowLo; rw [List.getD_eq_getElem?_getD, List.getElem?_eq_getElem hrow]; rfl
  rw [c64] at e0 e2
  have g0 := congrArg (fun l => l[0]?) e0
  have g1 := congrArg (fun l => l[0]?) e2
  simp only [List.getElem?_take_of_lt (show 0 < 1 by omega), List.getElem?_drop, List.getElem?_cons_zero, Nat.add_zero, List.getElem?_take_of_lt (show 1 < 2 by omega), List.getElem?_take_of_lt (show 0 < 2 by omega)] at g0 g1
  rw [hr0, hr1]
  exact ⟨g0, g1⟩
theorem gB : Tryd.prog.globalNamed "math/bits.deBruijn64tab" = some 6 := by kernel_rfl
theorem tB : (Tryd.prog.globals[6]?).map (·.type) = some 73 := by kernel_rfl
theorem cu8 : Tryd.prog.cellsOf 5 = 1 := by kernel_rfl
theorem cB : Tryd.prog.cellsOf 73 = 64 := by kernel_rfl
def deb : List Int := [0, 1, 56, 2, 57, 49, 28, 3, 61, 58, 42, 50, 38, 29, 17, 4, 62, 47, 59, 36, 45, 43, 51, 22, 53, 39, 33, 30, 24, 18, 12, 5, 63, 55, 48, 27, 60, 41, 37, 16, 46, 35, 44, 21, 52, 32, 23, 11, 54, 26, 40, 15, 34, 20, 31, 10, 25, 14, 19, 9, 13, 8, 7, 6]
theorem of_laid {W : World} (h : laidMetH Tryd.prog Rows.fnNonNegativeFloatNeverLongerRow.laid W) : Tabs W := by
  rw [MakeChecks.laidMetH_plain _ _ _ (by kernel_rfl)] at h
  obtain ⟨ps, ⟨g0, t0, cs0, f0, p0, q0, hg0, ht0, hv0, hd0, ⟨g1, t1, cs1, f1, p1, q1, hg1, ht1, hv1, hd1, ⟨g2, t2, cs2, f2, p2, q2, hg2, ht2, hv2, hd2, ⟨g3, t3, cs3, f3, p3, q3, hg3, ht3, hv3, hd3, ⟨g4, t4, cs4, f4, p4, q4, hg4, ht4, hv4, hd4, ⟨g5, t5, cs5, f5, p5, q5, hg5, ht5, hv5, hd5, _, _⟩, _⟩, _⟩, _⟩, _⟩, _⟩, _, _⟩ := h
  clear hd0 hd2 hd4 hv0 hv2 hv4
  obtain rfl := Option.some.inj (gU.symm.trans hg3)
  obtain rfl := Option.some.inj (tU.symm.trans ht3)
  obtain rfl := Option.some.inj (gPow.symm.trans hg5)
  obtain rfl := Option.some.inj (tPow.symm.trans ht5)
  obtain rfl := Option.some.inj (gB.symm.trans hg1)
  obtain rfl := Option.some.inj (tB.symm.trans ht1)
  refine ⟨fun i hi => ?_, ?_, ?_⟩
  · obtain ⟨c0, c1⟩ := pow_cells (by rfl) hd5 i hi
    have v0 := World.var?_cell hg5 hv5 (i * 2)
    have v1 := World.var?_cell hg5 hv5 (i * 2 + 1)
    rw [Array.getElem?_toList] at c0 c1
    exact ⟨v0.trans c0, v1.trans c1⟩
  · have hc := Lib.cells_of_tab (zs := Lib.pow10Tab) (k := .u64) Tryd.underlying125 Tryd.underlying39 c64 c20 (by exact hd3)
    unfold Lib.TabIs
    rw [hv3]
    congr 1
    apply Array.toList_inj.1
    rw [hc]
  · have hc := Lib.cells_of_tab (zs := deb) (k := .u8) Tryd.underlying73 Tryd.underlying5 cu8 cB (by exact hd1)
    have v0 := World.var?_cell hg1 hv1 15
    rw [← Array.getElem?_toList, hc] at v0
    exact v0
end Go.Proofs.YtmlgfhdjdmfdbaaDoor
