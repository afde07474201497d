/-
  Proved: contract of ExprToConstValue at null, undefined, booleans and strings. No statement of the seat stands here.
-/
import Derived.Test.YtgfeaejpleppkaaDoorQb
namespace Go.Proofs.YtgfeaejpleppkaaDoor
open Go.RowKit Go.ChangeAt
set_option linter.unusedSimpArgs false
set_option linter.unusedVariables false
set_option maxRecDepth 100000
def CvOut (cv : Array Value) (w : World) (e : Ending) (w' : World) : Prop := e = .returned (.agg cv) ∧ Chg Nowhere w w'
theorem as_e2cNull_ENull (p : Option Addr) (w : World) : (Instr.typeAssert (.iface 46 (.pointer p)) 29 46 true).run Tryd.prog w = .ok (.tuple #[.pointer p, .bool true]) w := by kernel_rfl
set_option maxHeartbeats 4000000 in
theorem e2cNull (p : Option Addr) (loc : Int)  (w : World)  :
    Calls Tryd.prog 6 #[.agg #[.iface 46 (.pointer p), .int .i32 loc]] w (CvOut #[.float .f64 0, .slice none 0 0, .int .u8 1] w) := by
  have as_e2cNull_ENull := as_e2cNull_ENull p
  have sf := store_f64
  have hCC : Chg Nowhere w ((w.alloc (.cells #[.iface 46 (.pointer p), .int .i32 loc] 33)).alloc (.cells #[.float .f64 0, .slice none 0 0, .int .u8 0] 26)) := ((Chg.refl _ w).alloc _).alloc _
  have hb2 : (((w.alloc (.cells #[.iface 46 (.pointer p), .int .i32 loc] 33)).alloc (.cells #[.float .f64 0, .slice none 0 0, .int .u8 0] 26))).heap[w.heap.size + 1]? = some (.cells cvZero 26 (0, 0)) := heap_at _ _ _ (by simp)
  have HB := Lib.hid (And.intro hb2 hCC)
  clear hb2 hCC
  go_enter Tryd.func6, Tryd.ntmps6
  go_upto_region 4 with fail
  generalize ((w.alloc (.cells _ _)).alloc (.cells _ _)) = w0 at HB ⊢
  have hb2 := HB.out.1
  have r0 := cell_of_heap hb2 0
  have r1 := cell_of_heap hb2 1
  have r2 := cell_of_heap hb2 2
  simp only [cvZero, List.getElem?_toArray, List.getElem?_cons_succ, List.getElem?_cons_zero] at r0 r1 r2
  have fz : ∀ j, w0.frozen? ⟨w.heap.size + 1, j, none⟩ = false := fun j => frozen_of_heap hb2 j
  have lz := heap_lt hb2
  generalize hg2 : w.heap.size = gs at r0 r1 r2 fz lz HB ⊢
  have HG := Lib.hid hg2
  clear hb2 hg2
  go_wp2_with fail
  refine bodyPost_ret (v := .agg #[.float .f64 0, .slice none 0 0, .int .u8 1]) ?_ rfl ⟨rfl, st3_chg HB.out.2 (by have := HG.out; omega) _ _ _⟩
  exact results_c (p := 2) (ty := 26) (by rfl) _ _ _ (gs + 1) (.agg #[.float .f64 0, .slice none 0 0, .int .u8 1]) (by rfl) (loadCV (st3_heap HB.out.1 _ _ _) (by rfl))
theorem as_e2cUndef_ENull (p : Option Addr) (w : World) : (Instr.typeAssert (.iface 47 (.pointer p)) 29 46 true).run Tryd.prog w = .ok (.tuple #[.pointer none, .bool false]) w := by kernel_rfl
theorem as_e2cUndef_EUndefined (p : Option Addr) (w : World) : (Instr.typeAssert (.iface 47 (.pointer p)) 29 47 true).run Tryd.prog w = .ok (.tuple #[.pointer p, .bool true]) w := by kernel_rfl
set_option maxHeartbeats 4000000 in
theorem e2cUndef (p : Option Addr) (loc : Int)  (w : World)  :
    Calls Tryd.prog 6 #[.agg #[.iface 47 (.pointer p), .int .i32 loc]] w (CvOut #[.float .f64 0, .slice none 0 0, .int .u8 2] w) := by
  have as_e2cUndef_ENull := as_e2cUndef_ENull p
  have as_e2cUndef_EUndefined := as_e2cUndef_EUndefined p
  have sf := store_f64
  have hCC : Chg Nowhere w ((w.alloc (.cells #[.iface 47 (.pointer p), .int .i32 loc] 33)).alloc (.cells #[.float .f64 0, .slice none 0 0, .int .u8 0] 26)) := ((Chg.refl _ w).alloc _).alloc _
  have hb2 : (((w.alloc (.cells #[.iface 47 (.pointer p), .int .i32 loc] 33)).alloc (.cells #[.float .f64 0, .slice none 0 0, .int .u8 0] 26))).heap[w.heap.size + 1]? = some (.cells cvZero 26 (0, 0)) := heap_at _ _ _ (by simp)
  have HB := Lib.hid (And.intro hb2 hCC)
  clear hb2 hCC
  go_enter Tryd.func6, Tryd.ntmps6
  go_upto_region 7 with fail
  generalize ((w.alloc (.cells _ _)).alloc (.cells _ _)) = w0 at HB ⊢
  have hb2 := HB.out.1
  have r0 := cell_of_heap hb2 0
  have r1 := cell_of_heap hb2 1
  have r2 := cell_of_heap hb2 2
  simp only [cvZero, List.getElem?_toArray, List.getElem?_cons_succ, List.getElem?_cons_zero] at r0 r1 r2
  have fz : ∀ j, w0.frozen? ⟨w.heap.size + 1, j, none⟩ = false := fun j => frozen_of_heap hb2 j
  have lz := heap_lt hb2
  generalize hg2 : w.heap.size = gs at r0 r1 r2 fz lz HB ⊢
  have HG := Lib.hid hg2
  clear hb2 hg2
  go_wp2_with fail
  refine bodyPost_ret (v := .agg #[.float .f64 0, .slice none 0 0, .int .u8 2]) ?_ rfl ⟨rfl, st3_chg HB.out.2 (by have := HG.out; omega) _ _ _⟩
  exact results_c (p := 2) (ty := 26) (by rfl) _ _ _ (gs + 1) (.agg #[.float .f64 0, .slice none 0 0, .int .u8 2]) (by rfl) (loadCV (st3_heap HB.out.1 _ _ _) (by rfl))
theorem as_e2cTrue_ENull (p : Option Addr) (w : World) : (Instr.typeAssert (.iface 48 (.pointer p)) 29 46 true).run Tryd.prog w = .ok (.tuple #[.pointer none, .bool false]) w := by kernel_rfl
theorem as_e2cTrue_EUndefined (p : Option Addr) (w : World) : (Instr.typeAssert (.iface 48 (.pointer p)) 29 47 true).run Tryd.prog w = .ok (.tuple #[.pointer none, .bool false]) w := by kernel_rfl
theorem as_e2cTrue_EBoolean (p : Option Addr) (w : World) : (Instr.typeAssert (.iface 48 (.pointer p)) 29 48 true).run Tryd.prog w = .ok (.tuple #[.pointer p, .bool true]) w := by kernel_rfl
set_option maxHeartbeats 4000000 in
theorem e2cTrue (loc : Int) (g : Nat) (w : World) (hc : w.cell? ⟨g, 0, none⟩ = some (.bool true)) :
    Calls Tryd.prog 6 #[.agg #[.iface 48 (.pointer (some ⟨g, 0, none⟩)), .int .i32 loc]] w (CvOut #[.float .f64 0, .slice none 0 0, .int .u8 3] w) := by
  have as_e2cTrue_ENull := as_e2cTrue_ENull (some ⟨g, 0, none⟩)
  have as_e2cTrue_EUndefined := as_e2cTrue_EUndefined (some ⟨g, 0, none⟩)
  have as_e2cTrue_EBoolean := as_e2cTrue_EBoolean (some ⟨g, 0, none⟩)
  have sf := store_f64
  have hCC : Chg Nowhere w ((w.alloc (.cells #[.iface 48 (.pointer (some ⟨g, 0, none⟩)), .int .i32 loc] 33)).alloc (.cells #[.float .f64 0, .slice none 0 0, .int .u8 0] 26)) := ((Chg.refl _ w).alloc _).alloc _
  have hb2 : (((w.alloc (.cells #[.iface 48 (.pointer (some ⟨g, 0, none⟩)), .int .i32 loc] 33)).alloc (.cells #[.float .f64 0, .slice none 0 0, .int .u8 0] 26))).heap[w.heap.size + 1]? = some (.cells cvZero 26 (0, 0)) := heap_at _ _ _ (by simp)
  have HB := Lib.hid (And.intro hb2 hCC)
  clear hb2 hCC
  go_enter Tryd.func6, Tryd.ntmps6
  go_upto_region 10 with fail
  generalize ((w.alloc (.cells _ _)).alloc (.cells _ _)) = w0 at HB ⊢
  have hb2 := HB.out.1
  have r0 := cell_of_heap hb2 0
  have r1 := cell_of_heap hb2 1
  have r2 := cell_of_heap hb2 2
  simp only [cvZero, List.getElem?_toArray, List.getElem?_cons_succ, List.getElem?_cons_zero] at r0 r1 r2
  have fz : ∀ j, w0.frozen? ⟨w.heap.size + 1, j, none⟩ = false := fun j => frozen_of_heap hb2 j
  have lz := heap_lt hb2
  have hcc := HB.out.2.cell hc (fun h => h)
  generalize hg2 : w.heap.size = gs at r0 r1 r2 fz lz HB ⊢
  have HG := Lib.hid hg2
  clear hb2 hg2
  go_wp2_with fail
  refine bodyPost_ret (v := .agg #[.float .f64 0, .slice none 0 0, .int .u8 3]) ?_ rfl ⟨rfl, st3_chg HB.out.2 (by have := HG.out; omega) _ _ _⟩
  exact results_c (p := 2) (ty := 26) (by rfl) _ _ _ (gs + 1) (.agg #[.float .f64 0, .slice none 0 0, .int .u8 3]) (by rfl) (loadCV (st3_heap HB.out.1 _ _ _) (by rfl))
theorem as_e2cFalse_ENull (p : Option Addr) (w : World) : (Instr.typeAssert (.iface 48 (.pointer p)) 29 46 true).run Tryd.prog w = .ok (.tuple #[.pointer none, .bool false]) w := by kernel_rfl
theorem as_e2cFalse_EUndefined (p : Option Addr) (w : World) : (Instr.typeAssert (.iface 48 (.pointer p)) 29 47 true).run Tryd.prog w = .ok (.tuple #[.pointer none, .bool false]) w := by kernel_rfl
theorem as_e2cFalse_EBoolean (p : Option Addr) (w : World) : (Instr.typeAssert (.iface 48 (.pointer p)) 29 48 true).run Tryd.prog w = .ok (.tuple #[.pointer p, .bool true]) w := by kernel_rfl
set_option maxHeartbeats 4000000 in
theorem e2cFalse (loc : Int) (g : Nat) (w : World) (hc : w.cell? ⟨g, 0, none⟩ = some (.bool false)) :
    Calls Tryd.prog 6 #[.agg #[.iface 48 (.pointer (some ⟨g, 0, none⟩)), .int .i32 loc]] w (CvOut #[.float .f64 0, .slice none 0 0, .int .u8 4] w) := by
  have as_e2cFalse_ENull := as_e2cFalse_ENull (some ⟨g, 0, none⟩)
  have as_e2cFalse_EUndefined := as_e2cFalse_EUndefined (some ⟨g, 0, none⟩)
  have as_e2cFalse_EBoolean := as_e2cFalse_EBoolean (some ⟨g, 0, none⟩)
  have sf := store_f64
  have hCC : Chg Nowhere w ((w.alloc (.cells #[.iface 48 (.pointer (some ⟨g, 0, none⟩)), .int .i32 loc] 33)).alloc (.cells #[.float .f64 0, .slice none 0 0, .int .u8 0] 26)) := ((Chg.refl _ w).alloc _).alloc _
  have hb2 : (((w.alloc (.cells #[.iface 48 (.pointer (some ⟨g, 0, none⟩)), .int .i32 loc] 33)).alloc (.cells #[.float .f64 0, .slice none 0 0, .int .u8 0] 26))).heap[w.heap.size + 1]? = some (.cells cvZero 26 (0, 0)) := heap_at _ _ _ (by simp)
  have HB := Lib.hid (And.intro hb2 hCC)
  clear hb2 hCC
  go_enter Tryd.func6, Tryd.ntmps6
  go_upto_region 10 with fail
  generalize ((w.alloc (.cells _ _)).alloc (.cells _ _)) = w0 at HB ⊢
  have hb2 := HB.out.1
  have r0 := cell_of_heap hb2 0
  have r1 := cell_of_heap hb2 1
  have r2 := cell_of_heap hb2 2
  simp only [cvZero, List.getElem?_toArray, List.getElem?_cons_succ, List.getElem?_cons_zero] at r0 r1 r2
  have fz : ∀ j, w0.frozen? ⟨w.heap.size + 1, j, none⟩ = false := fun j => frozen_of_heap hb2 j
  have lz := heap_lt hb2
  have hcc := HB.out.2.cell hc (fun h => h)
  generalize hg2 : w.heap.size = gs at r0 r1 r2 fz lz HB ⊢
  have HG := Lib.hid hg2
  clear hb2 hg2
  go_wp2_with fail
  refine bodyPost_ret (v := .agg #[.float .f64 0, .slice none 0 0, .int .u8 4]) ?_ rfl ⟨rfl, st3_chg HB.out.2 (by have := HG.out; omega) _ _ _⟩
  exact results_c (p := 2) (ty := 26) (by rfl) _ _ _ (gs + 1) (.agg #[.float .f64 0, .slice none 0 0, .int .u8 4]) (by rfl) (loadCV (st3_heap HB.out.1 _ _ _) (by rfl))
theorem as_e2cStr_ENull (p : Option Addr) (w : World) : (Instr.typeAssert (.iface 55 (.pointer p)) 29 46 true).run Tryd.prog w = .ok (.tuple #[.pointer none, .bool false]) w := by kernel_rfl
theorem as_e2cStr_EUndefined (p : Option Addr) (w : World) : (Instr.typeAssert (.iface 55 (.pointer p)) 29 47 true).run Tryd.prog w = .ok (.tuple #[.pointer none, .bool false]) w := by kernel_rfl
theorem as_e2cStr_EBoolean (p : Option Addr) (w : World) : (Instr.typeAssert (.iface 55 (.pointer p)) 29 48 true).run Tryd.prog w = .ok (.tuple #[.pointer none, .bool false]) w := by kernel_rfl
theorem as_e2cStr_ENumber (p : Option Addr) (w : World) : (Instr.typeAssert (.iface 55 (.pointer p)) 29 51 true).run Tryd.prog w = .ok (.tuple #[.pointer none, .bool false]) w := by kernel_rfl
theorem as_e2cStr_EString (p : Option Addr) (w : World) : (Instr.typeAssert (.iface 55 (.pointer p)) 29 55 true).run Tryd.prog w = .ok (.tuple #[.pointer p, .bool true]) w := by kernel_rfl
set_option maxHeartbeats 4000000 in
theorem e2cStr (loc : Int) (g : Nat) (a : Option Addr) (n c : Nat) (w : World) (hc : w.cell? ⟨g, 0, none⟩ = some (.slice a n c)) (hn : n ≤ 3) :
    Calls Tryd.prog 6 #[.agg #[.iface 55 (.pointer (some ⟨g, 0, none⟩)), .int .i32 loc]] w (CvOut #[.float .f64 0, .slice a n c, .int .u8 6] w) := by
  have as_e2cStr_ENull := as_e2cStr_ENull (some ⟨g, 0, none⟩)
  have as_e2cStr_EUndefined := as_e2cStr_EUndefined (some ⟨g, 0, none⟩)
  have as_e2cStr_EBoolean := as_e2cStr_EBoolean (some ⟨g, 0, none⟩)
  have as_e2cStr_ENumber := as_e2cStr_ENumber (some ⟨g, 0, none⟩)
  have as_e2cStr_EString := as_e2cStr_EString (some ⟨g, 0, none⟩)
  have sf := store_f64
  have hCC : Chg Nowhere w ((w.alloc (.cells #[.iface 55 (.pointer (some ⟨g, 0, none⟩)), .int .i32 loc] 33)).alloc (.cells #[.float .f64 0, .slice none 0 0, .int .u8 0] 26)) := ((Chg.refl _ w).alloc _).alloc _
  have hb2 : (((w.alloc (.cells #[.iface 55 (.pointer (some ⟨g, 0, none⟩)), .int .i32 loc] 33)).alloc (.cells #[.float .f64 0, .slice none 0 0, .int .u8 0] 26))).heap[w.heap.size + 1]? = some (.cells cvZero 26 (0, 0)) := heap_at _ _ _ (by simp)
  have HB := Lib.hid (And.intro hb2 hCC)
  clear hb2 hCC
  go_enter Tryd.func6, Tryd.ntmps6
  go_upto_region 20 with fail
  generalize ((w.alloc (.cells _ _)).alloc (.cells _ _)) = w0 at HB ⊢
  have hb2 := HB.out.1
  have r0 := cell_of_heap hb2 0
  have r1 := cell_of_heap hb2 1
  have r2 := cell_of_heap hb2 2
  simp only [cvZero, List.getElem?_toArray, List.getElem?_cons_succ, List.getElem?_cons_zero] at r0 r1 r2
  have fz : ∀ j, w0.frozen? ⟨w.heap.size + 1, j, none⟩ = false := fun j => frozen_of_heap hb2 j
  have lz := heap_lt hb2
  have hcc := HB.out.2.cell hc (fun h => h)
  have hn3 : (n : Int) ≤ 3 := by omega
  generalize hg2 : w.heap.size = gs at r0 r1 r2 fz lz HB ⊢
  have HG := Lib.hid hg2
  clear hb2 hg2
  go_wp2_with fail
  refine bodyPost_ret (v := .agg #[.float .f64 0, .slice a n c, .int .u8 6]) ?_ rfl ⟨rfl, st3_chg HB.out.2 (by have := HG.out; omega) _ _ _⟩
  exact results_c (p := 2) (ty := 26) (by rfl) _ _ _ (gs + 1) (.agg #[.float .f64 0, .slice a n c, .int .u8 6]) (by rfl) (loadCV (st3_heap HB.out.1 _ _ _) (by rfl))
theorem as_e2cLong_ENull (p : Option Addr) (w : World) : (Instr.typeAssert (.iface 55 (.pointer p)) 29 46 true).run Tryd.prog w = .ok (.tuple #[.pointer none, .bool false]) w := by kernel_rfl
theorem as_e2cLong_EUndefined (p : Option Addr) (w : World) : (Instr.typeAssert (.iface 55 (.pointer p)) 29 47 true).run Tryd.prog w = .ok (.tuple #[.pointer none, .bool false]) w := by kernel_rfl
theorem as_e2cLong_EBoolean (p : Option Addr) (w : World) : (Instr.typeAssert (.iface 55 (.pointer p)) 29 48 true).run Tryd.prog w = .ok (.tuple #[.pointer none, .bool false]) w := by kernel_rfl
theorem as_e2cLong_ENumber (p : Option Addr) (w : World) : (Instr.typeAssert (.iface 55 (.pointer p)) 29 51 true).run Tryd.prog w = .ok (.tuple #[.pointer none, .bool false]) w := by kernel_rfl
theorem as_e2cLong_EString (p : Option Addr) (w : World) : (Instr.typeAssert (.iface 55 (.pointer p)) 29 55 true).run Tryd.prog w = .ok (.tuple #[.pointer p, .bool true]) w := by kernel_rfl
set_option maxHeartbeats 4000000 in
theorem e2cLong (loc : Int) (g : Nat) (a : Option Addr) (n c : Nat) (w : World) (hc : w.cell? ⟨g, 0, none⟩ = some (.slice a n c)) (hn : ¬ n ≤ 3) :
    Calls Tryd.prog 6 #[.agg #[.iface 55 (.pointer (some ⟨g, 0, none⟩)), .int .i32 loc]] w (CvOut cvZero w) := by
  have as_e2cLong_ENull := as_e2cLong_ENull (some ⟨g, 0, none⟩)
  have as_e2cLong_EUndefined := as_e2cLong_EUndefined (some ⟨g, 0, none⟩)
  have as_e2cLong_EBoolean := as_e2cLong_EBoolean (some ⟨g, 0, none⟩)
  have as_e2cLong_ENumber := as_e2cLong_ENumber (some ⟨g, 0, none⟩)
  have as_e2cLong_EString := as_e2cLong_EString (some ⟨g, 0, none⟩)
  have sf := store_f64
  have hCC : Chg Nowhere w ((w.alloc (.cells #[.iface 55 (.pointer (some ⟨g, 0, none⟩)), .int .i32 loc] 33)).alloc (.cells #[.float .f64 0, .slice none 0 0, .int .u8 0] 26)) := ((Chg.refl _ w).alloc _).alloc _
  have hb2 : (((w.alloc (.cells #[.iface 55 (.pointer (some ⟨g, 0, none⟩)), .int .i32 loc] 33)).alloc (.cells #[.float .f64 0, .slice none 0 0, .int .u8 0] 26))).heap[w.heap.size + 1]? = some (.cells cvZero 26 (0, 0)) := heap_at _ _ _ (by simp)
  have HB := Lib.hid (And.intro hb2 hCC)
  clear hb2 hCC
  go_enter Tryd.func6, Tryd.ntmps6
  go_upto_region 20 with fail
  generalize ((w.alloc (.cells _ _)).alloc (.cells _ _)) = w0 at HB ⊢
  have hb2 := HB.out.1
  have r0 := cell_of_heap hb2 0
  have r1 := cell_of_heap hb2 1
  have r2 := cell_of_heap hb2 2
  simp only [cvZero, List.getElem?_toArray, List.getElem?_cons_succ, List.getElem?_cons_zero] at r0 r1 r2
  have fz : ∀ j, w0.frozen? ⟨w.heap.size + 1, j, none⟩ = false := fun j => frozen_of_heap hb2 j
  have lz := heap_lt hb2
  have hcc := HB.out.2.cell hc (fun h => h)
  have hn3 : ¬ (n : Int) ≤ 3 := by omega
  generalize hg2 : w.heap.size = gs at r0 r1 r2 fz lz HB ⊢
  have HG := Lib.hid hg2
  clear hb2 hg2
  go_wp2_with fail
  refine bodyPost_ret (v := .agg cvZero) ?_ rfl ⟨rfl, st3_chg HB.out.2 (by have := HG.out; omega) _ _ _⟩
  exact results_c (p := 2) (ty := 26) (by rfl) _ _ _ (gs + 1) (.agg cvZero) (by rfl) (loadCV (st3_heap HB.out.1 _ _ _) (by rfl))
end Go.Proofs.YtgfeaejpleppkaaDoor
