/-
  Proved: results that lie in memory. No statement of the seat stands here.
-/
import Derived.Test.YtcbmankbjgbjgaaGreatFmtFind
import Derived.RegionTactic
import Derived.Deep.WholeRow
namespace Go.Proofs.YtcbmankbjgbjgaaGreatFmt
open Go.RowKit Go.ChangeAt
set_option linter.unusedSimpArgs false
set_option linter.unusedVariables false
set_option maxRecDepth 100000
theorem results_ct {fn : Func} {t p : Tmp} {ty : TypeId} (h : fn.results = #[.cell p ty, .tmp t]) (tmps : Array Value) (P : Program) (w : World) (b : Nat) (v : Value)
    (hp : tmps.getD p undef = .pointer (some ⟨b, 0, none⟩)) (hl : (loadVar ty ⟨b, 0, none⟩).run P w = .ok v w) : (results fn tmps).run P w = .ok (.tuple #[v, tmps.getD t undef]) w := by
  have hp2 : tmps[p]?.getD undef = .pointer (some ⟨b, 0, none⟩) := by simpa using hp
  simp [results, h, Result.andThen, hp2, asAddr, hl]
theorem results_ttc {fn : Func} {t u p : Tmp} {ty : TypeId} (h : fn.results = #[.tmp t, .tmp u, .cell p ty]) (tmps : Array Value) (P : Program) (w : World) (b : Nat) (v : Value)
    (hp : tmps.getD p undef = .pointer (some ⟨b, 0, none⟩)) (hl : (loadVar ty ⟨b, 0, none⟩).run P w = .ok v w) : (results fn tmps).run P w = .ok (.tuple #[tmps.getD t undef, tmps.getD u undef, v]) w := by
  have hp2 : tmps[p]?.getD undef = .pointer (some ⟨b, 0, none⟩) := by simpa using hp
  simp [results, h, Result.andThen, hp2, asAddr, hl]
theorem results_c {fn : Func} {p : Tmp} {ty : TypeId} (h : fn.results = #[.cell p ty]) (tmps : Array Value) (P : Program) (w : World) (b : Nat) (v : Value)
    (hp : tmps.getD p undef = .pointer (some ⟨b, 0, none⟩)) (hl : (loadVar ty ⟨b, 0, none⟩).run P w = .ok v w) : (results fn tmps).run P w = .ok v w := by
  have hp2 : tmps[p]?.getD undef = .pointer (some ⟨b, 0, none⟩) := by simpa using hp
  simp [results, h, Result.andThen, hp2, asAddr, hl]
theorem load59 {w : World} {b : Nat} {cs : Array Value} (h : w.heap[b]? = some (.cells cs 59 (0, 0))) (hs : cs.size = 7) : (loadVar 59 ⟨b, 0, none⟩).run Tryz.prog w = .ok (.agg cs) w := by
  refine run_loadVar_row w b 59 59 cs (0, 0) _ h Tryz.underlying59 (by rfl) ?_
  rw [hs]
  kernel_rfl
theorem load45 {w : World} {b : Nat} {cs : Array Value} (h : w.heap[b]? = some (.cells cs 45 (0, 0))) (hs : cs.size = 5) : (loadVar 45 ⟨b, 0, none⟩).run Tryz.prog w = .ok (.agg cs) w := by
  refine run_loadVar_row w b 45 45 cs (0, 0) _ h Tryz.underlying45 (by rfl) ?_
  rw [hs]
  kernel_rfl
def st7 (wr : World) (b : Nat) (a0 a1 a2 a3 a4 a5 a6 : Value) : World := ((((((wr.setCell ⟨b, 0, none⟩ a0).setCell ⟨b, 1, none⟩ a1).setCell ⟨b, 2, none⟩ a2).setCell ⟨b, 3, none⟩ a3).setCell ⟨b, 4, none⟩ a4).setCell ⟨b, 5, none⟩ a5).setCell ⟨b, 6, none⟩ a6
theorem st7_heap {wr : World} {b : Nat} {z0 z1 z2 z3 z4 z5 z6 : Value} (h : wr.heap[b]? = some (.cells #[z0, z1, z2, z3, z4, z5, z6] 59 (0, 0))) (a0 a1 a2 a3 a4 a5 a6 : Value) : (st7 wr b a0 a1 a2 a3 a4 a5 a6).heap[b]? = some (.cells #[a0, a1, a2, a3, a4, a5, a6] 59 (0, 0)) := by
  unfold st7
  have h1 := heap_setCell h 0 a0
  have h2 := heap_setCell h1 1 a1
  have h3 := heap_setCell h2 2 a2
  have h4 := heap_setCell h3 3 a3
  have h5 := heap_setCell h4 4 a4
  have h6 := heap_setCell h5 5 a5
  have h7 := heap_setCell h6 6 a6
  rw [h7]
  rfl
theorem st7_chg {w wr : World} {b : Nat} (h : Chg Nowhere w wr) (hb : w.heap.size ≤ b) (a0 a1 a2 a3 a4 a5 a6 : Value) : Chg Nowhere w (st7 wr b a0 a1 a2 a3 a4 a5 a6) := by
  unfold st7
  have hp : ∀ j, (⟨b, j, none⟩ : Addr).block < w.heap.size → Nowhere (⟨b, j, none⟩ : Addr).block := fun j h => by simp at h; omega
  exact ((((((h.setCell (hp 0) a0).setCell (hp 1) a1).setCell (hp 2) a2).setCell (hp 3) a3).setCell (hp 4) a4).setCell (hp 5) a5).setCell (hp 6) a6
def st5 (wr : World) (b : Nat) (a0 a1 a2 a3 a4 : Value) : World := ((((wr.setCell ⟨b, 0, none⟩ a0).setCell ⟨b, 1, none⟩ a1).setCell ⟨b, 2, none⟩ a2).setCell ⟨b, 3, none⟩ a3).setCell ⟨b, 4, none⟩ a4
theorem st5_heap {wr : World} {b : Nat} {z0 z1 z2 z3 z4 : Value} (h : wr.heap[b]? = some (.cells #[z0, z1, z2, z3, z4] 45 (0, 0))) (a0 a1 a2 a3 a4 : Value) : (st5 wr b a0 a1 a2 a3 a4).heap[b]? = some (.cells #[a0, a1, a2, a3, a4] 45 (0, 0)) := by
  unfold st5
  have h1 := heap_setCell h 0 a0
  have h2 := heap_setCell h1 1 a1
  have h3 := heap_setCell h2 2 a2
  have h4 := heap_setCell h3 3 a3
  have h5 := heap_setCell h4 4 a4
  rw [h5]
  rfl
theorem st5_chg {w wr : World} {b : Nat} (h : Chg Nowhere w wr) (hb : w.heap.size ≤ b) (a0 a1 a2 a3 a4 : Value) : Chg Nowhere w (st5 wr b a0 a1 a2 a3 a4) := by
  unfold st5
  have hp : ∀ j, (⟨b, j, none⟩ : Addr).block < w.heap.size → Nowhere (⟨b, j, none⟩ : Addr).block := fun j h => by simp at h; omega
  exact ((((h.setCell (hp 0) a0).setCell (hp 1) a1).setCell (hp 2) a2).setCell (hp 3) a3).setCell (hp 4) a4
theorem drew_heap (w : World) : w.drew.heap = w.heap := rfl
end Go.Proofs.YtcbmankbjgbjgaaGreatFmt
