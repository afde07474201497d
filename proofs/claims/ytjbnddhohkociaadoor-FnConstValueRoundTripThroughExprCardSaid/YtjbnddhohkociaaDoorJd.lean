/-
  Proved: contract of ConstValueToExpr, kind by kind. No statement of the seat stands here.
-/
import Derived.Test.YtjbnddhohkociaaDoorJc
namespace Go.Proofs.YtjbnddhohkociaaDoor
open Go.RowKit Go.ChangeAt
set_option linter.unusedSimpArgs false
set_option linter.unusedVariables false
set_option maxRecDepth 100000
theorem loadEx {w : World} {b : Nat} {cs : Array Value} (h : w.heap[b]? = some (.cells cs 35 (0, 0))) (hs : cs.size = 2) : (loadVar 35 ⟨b, 0, none⟩).run Tryd.prog w = .ok (.agg cs) w := by
  refine run_loadVar_row w b 35 35 cs (0, 0) _ h Tryd.underlying35 (by rfl) ?_
  rw [hs]
  kernel_rfl
/-- The expression that comes: its data lie in a new block with the cells 'cs'. -/
def ExOut (T : TypeId) (s : Int) (cs : Array Value) (w : World) (e : Ending) (w' : World) : Prop := ∃ g D, e = .returned (.agg #[.iface T (.pointer (some ⟨g, 0, none⟩)), .int .i32 s]) ∧ w'.heap[g]? = some (.cells cs D (0, 0)) ∧ Chg Nowhere w w'
set_option maxHeartbeats 4000000 in
theorem c2eNull (s : Int) (b : Nat) (a : Option Addr) (n c : Nat) (w : World) :
    Calls Tryd.prog 8 #[.agg #[.int .i32 s], .agg #[.float .f64 b, .slice a n c, .int .u8 1]] w (ExOut 44 s #[] w) := by
  have sf := store_f64
  have hCC : Chg Nowhere w (((w.alloc (.cells #[.int .i32 s] 27)).alloc (.cells #[.float .f64 b, .slice a n c, .int .u8 1] 30)).alloc (.cells #[.nilIface, .int .i32 0] 35)) := (((Chg.refl _ w).alloc _).alloc _).alloc _
  have h1 : ((((w.alloc (.cells #[.int .i32 s] 27)).alloc (.cells #[.float .f64 b, .slice a n c, .int .u8 1] 30)).alloc (.cells #[.nilIface, .int .i32 0] 35))).heap[w.heap.size]? = some (.cells #[.int .i32 s] 27 (0, 0)) := heap_keep (heap_keep (heap_at w _ _ rfl) _) _
  have h2 : ((((w.alloc (.cells #[.int .i32 s] 27)).alloc (.cells #[.float .f64 b, .slice a n c, .int .u8 1] 30)).alloc (.cells #[.nilIface, .int .i32 0] 35))).heap[w.heap.size + 1]? = some (.cells #[.float .f64 b, .slice a n c, .int .u8 1] 30 (0, 0)) := heap_keep (heap_at _ _ _ (by simp)) _
  have h3 : ((((w.alloc (.cells #[.int .i32 s] 27)).alloc (.cells #[.float .f64 b, .slice a n c, .int .u8 1] 30)).alloc (.cells #[.nilIface, .int .i32 0] 35))).heap[w.heap.size + 2]? = some (.cells #[.nilIface, .int .i32 0] 35 (0, 0)) := heap_at _ _ _ (by simp)
  have HB := Lib.hid (And.intro h1 (And.intro h2 (And.intro h3 hCC)))
  clear hCC h1 h2 h3
  go_enter Tryd.func8, Tryd.ntmps8
  go_upto_region 3 with fail
  generalize (((w.alloc (.cells _ _)).alloc (.cells _ _)).alloc (.cells _ _)) = w0 at HB ⊢
  have l0 := cell_of_heap HB.out.1 0
  have c0 := cell_of_heap HB.out.2.1 0
  have c1 := cell_of_heap HB.out.2.1 1
  have e0 := cell_of_heap HB.out.2.2.1 0
  have e1 := cell_of_heap HB.out.2.2.1 1
  simp only [List.getElem?_toArray, List.getElem?_cons_succ, List.getElem?_cons_zero] at l0 c0 c1 e0 e1
  have fz : ∀ j, w0.frozen? ⟨w.heap.size + 2, j, none⟩ = false := fun j => frozen_of_heap HB.out.2.2.1 j
  have lz := heap_lt HB.out.2.2.1
  go_wp2_with fail
  have fin : (((w0.setCell ⟨w.heap.size + 1 + 1, 0, none⟩ (.iface 44 (.pointer (some ⟨w0.heap.size, 0, none⟩)))).setCell ⟨w.heap.size + 1 + 1, 1, none⟩ (.int .i32 s)).alloc (.cells #[] 58)).heap[w.heap.size + 1 + 1]? = some (.cells #[.iface 44 (.pointer (some ⟨w0.heap.size, 0, none⟩)), .int .i32 s] 35 (0, 0)) := heap_keep (heap_setCell (heap_setCell HB.out.2.2.1 0 _) 1 _) _
  have hp : ∀ j, (⟨w.heap.size + 1 + 1, j, none⟩ : Addr).block < w.heap.size → Nowhere (⟨w.heap.size + 1 + 1, j, none⟩ : Addr).block := fun j h => by simp at h; omega
  refine bodyPost_ret (v := .agg #[.iface 44 (.pointer (some ⟨w0.heap.size, 0, none⟩)), .int .i32 s]) ?_ rfl ⟨w0.heap.size, 58, rfl, heap_at _ _ _ (by simp), ((HB.out.2.2.2.setCell (hp 0) _).setCell (hp 1) _).alloc _⟩
  exact results_c (p := 4) (ty := 35) (by rfl) _ _ _ (w.heap.size + 1 + 1) _ (by rfl) (loadEx fin (by rfl))
set_option maxHeartbeats 4000000 in
theorem c2eUndef (s : Int) (b : Nat) (a : Option Addr) (n c : Nat) (w : World) :
    Calls Tryd.prog 8 #[.agg #[.int .i32 s], .agg #[.float .f64 b, .slice a n c, .int .u8 2]] w (ExOut 45 s #[] w) := by
  have sf := store_f64
  have hCC : Chg Nowhere w (((w.alloc (.cells #[.int .i32 s] 27)).alloc (.cells #[.float .f64 b, .slice a n c, .int .u8 2] 30)).alloc (.cells #[.nilIface, .int .i32 0] 35)) := (((Chg.refl _ w).alloc _).alloc _).alloc _
  have h1 : ((((w.alloc (.cells #[.int .i32 s] 27)).alloc (.cells #[.float .f64 b, .slice a n c, .int .u8 2] 30)).alloc (.cells #[.nilIface, .int .i32 0] 35))).heap[w.heap.size]? = some (.cells #[.int .i32 s] 27 (0, 0)) := heap_keep (heap_keep (heap_at w _ _ rfl) _) _
  have h2 : ((((w.alloc (.cells #[.int .i32 s] 27)).alloc (.cells #[.float .f64 b, .slice a n c, .int .u8 2] 30)).alloc (.cells #[.nilIface, .int .i32 0] 35))).heap[w.heap.size + 1]? = some (.cells #[.float .f64 b, .slice a n c, .int .u8 2] 30 (0, 0)) := heap_keep (heap_at _ _ _ (by simp)) _
  have h3 : ((((w.alloc (.cells #[.int .i32 s] 27)).alloc (.cells #[.float .f64 b, .slice a n c, .int .u8 2] 30)).alloc (.cells #[.nilIface, .int .i32 0] 35))).heap[w.heap.size + 2]? = some (.cells #[.nilIface, .int .i32 0] 35 (0, 0)) := heap_at _ _ _ (by simp)
  have HB := Lib.hid (And.intro h1 (And.intro h2 (And.intro h3 hCC)))
  clear hCC h1 h2 h3
  go_enter Tryd.func8, Tryd.ntmps8
  go_upto_region 5 with fail
  generalize (((w.alloc (.cells _ _)).alloc (.cells _ _)).alloc (.cells _ _)) = w0 at HB ⊢
  have l0 := cell_of_heap HB.out.1 0
  have c0 := cell_of_heap HB.out.2.1 0
  have c1 := cell_of_heap HB.out.2.1 1
  have e0 := cell_of_heap HB.out.2.2.1 0
  have e1 := cell_of_heap HB.out.2.2.1 1
  simp only [List.getElem?_toArray, List.getElem?_cons_succ, List.getElem?_cons_zero] at l0 c0 c1 e0 e1
  have fz : ∀ j, w0.frozen? ⟨w.heap.size + 2, j, none⟩ = false := fun j => frozen_of_heap HB.out.2.2.1 j
  have lz := heap_lt HB.out.2.2.1
  go_wp2_with fail
  have fin : (((w0.setCell ⟨w.heap.size + 1 + 1, 0, none⟩ (.iface 45 (.pointer (some ⟨w0.heap.size, 0, none⟩)))).setCell ⟨w.heap.size + 1 + 1, 1, none⟩ (.int .i32 s)).alloc (.cells #[] 59)).heap[w.heap.size + 1 + 1]? = some (.cells #[.iface 45 (.pointer (some ⟨w0.heap.size, 0, none⟩)), .int .i32 s] 35 (0, 0)) := heap_keep (heap_setCell (heap_setCell HB.out.2.2.1 0 _) 1 _) _
  have hp : ∀ j, (⟨w.heap.size + 1 + 1, j, none⟩ : Addr).block < w.heap.size → Nowhere (⟨w.heap.size + 1 + 1, j, none⟩ : Addr).block := fun j h => by simp at h; omega
  refine bodyPost_ret (v := .agg #[.iface 45 (.pointer (some ⟨w0.heap.size, 0, none⟩)), .int .i32 s]) ?_ rfl ⟨w0.heap.size, 59, rfl, heap_at _ _ _ (by simp), ((HB.out.2.2.2.setCell (hp 0) _).setCell (hp 1) _).alloc _⟩
  exact results_c (p := 4) (ty := 35) (by rfl) _ _ _ (w.heap.size + 1 + 1) _ (by rfl) (loadEx fin (by rfl))
set_option maxHeartbeats 4000000 in
theorem c2eTrue (s : Int) (b : Nat) (a : Option Addr) (n c : Nat) (w : World) :
    Calls Tryd.prog 8 #[.agg #[.int .i32 s], .agg #[.float .f64 b, .slice a n c, .int .u8 3]] w (ExOut 46 s #[.bool true] w) := by
  have sf := store_f64
  have hCC : Chg Nowhere w (((w.alloc (.cells #[.int .i32 s] 27)).alloc (.cells #[.float .f64 b, .slice a n c, .int .u8 3] 30)).alloc (.cells #[.nilIface, .int .i32 0] 35)) := (((Chg.refl _ w).alloc _).alloc _).alloc _
  have h1 : ((((w.alloc (.cells #[.int .i32 s] 27)).alloc (.cells #[.float .f64 b, .slice a n c, .int .u8 3] 30)).alloc (.cells #[.nilIface, .int .i32 0] 35))).heap[w.heap.size]? = some (.cells #[.int .i32 s] 27 (0, 0)) := heap_keep (heap_keep (heap_at w _ _ rfl) _) _
  have h2 : ((((w.alloc (.cells #[.int .i32 s] 27)).alloc (.cells #[.float .f64 b, .slice a n c, .int .u8 3] 30)).alloc (.cells #[.nilIface, .int .i32 0] 35))).heap[w.heap.size + 1]? = some (.cells #[.float .f64 b, .slice a n c, .int .u8 3] 30 (0, 0)) := heap_keep (heap_at _ _ _ (by simp)) _
  have h3 : ((((w.alloc (.cells #[.int .i32 s] 27)).alloc (.cells #[.float .f64 b, .slice a n c, .int .u8 3] 30)).alloc (.cells #[.nilIface, .int .i32 0] 35))).heap[w.heap.size + 2]? = some (.cells #[.nilIface, .int .i32 0] 35 (0, 0)) := heap_at _ _ _ (by simp)
  have HB := Lib.hid (And.intro h1 (And.intro h2 (And.intro h3 hCC)))
  clear hCC h1 h2 h3
  go_enter Tryd.func8, Tryd.ntmps8
  go_upto_region 7 with fail
  generalize (((w.alloc (.cells _ _)).alloc (.cells _ _)).alloc (.cells _ _)) = w0 at HB ⊢
  have l0 := cell_of_heap HB.out.1 0
  have c0 := cell_of_heap HB.out.2.1 0
  have c1 := cell_of_heap HB.out.2.1 1
  have e0 := cell_of_heap HB.out.2.2.1 0
  have e1 := cell_of_heap HB.out.2.2.1 1
  simp only [List.getElem?_toArray, List.getElem?_cons_succ, List.getElem?_cons_zero] at l0 c0 c1 e0 e1
  have fz : ∀ j, w0.frozen? ⟨w.heap.size + 2, j, none⟩ = false := fun j => frozen_of_heap HB.out.2.2.1 j
  have lz := heap_lt HB.out.2.2.1
  go_wp2_with fail
  have fin : (((w0.setCell ⟨w.heap.size + 1 + 1, 0, none⟩ (.iface 46 (.pointer (some ⟨w0.heap.size, 0, none⟩)))).setCell ⟨w.heap.size + 1 + 1, 1, none⟩ (.int .i32 s)).alloc (.cells #[.bool true] 48)).heap[w.heap.size + 1 + 1]? = some (.cells #[.iface 46 (.pointer (some ⟨w0.heap.size, 0, none⟩)), .int .i32 s] 35 (0, 0)) := heap_keep (heap_setCell (heap_setCell HB.out.2.2.1 0 _) 1 _) _
  have hp : ∀ j, (⟨w.heap.size + 1 + 1, j, none⟩ : Addr).block < w.heap.size → Nowhere (⟨w.heap.size + 1 + 1, j, none⟩ : Addr).block := fun j h => by simp at h; omega
  refine bodyPost_ret (v := .agg #[.iface 46 (.pointer (some ⟨w0.heap.size, 0, none⟩)), .int .i32 s]) ?_ rfl ⟨w0.heap.size, 48, rfl, heap_at _ _ _ (by simp), ((HB.out.2.2.2.setCell (hp 0) _).setCell (hp 1) _).alloc _⟩
  exact results_c (p := 4) (ty := 35) (by rfl) _ _ _ (w.heap.size + 1 + 1) _ (by rfl) (loadEx fin (by rfl))
set_option maxHeartbeats 4000000 in
theorem c2eFalse (s : Int) (b : Nat) (a : Option Addr) (n c : Nat) (w : World) :
    Calls Tryd.prog 8 #[.agg #[.int .i32 s], .agg #[.float .f64 b, .slice a n c, .int .u8 4]] w (ExOut 46 s #[.bool false] w) := by
  have sf := store_f64
  have hCC : Chg Nowhere w (((w.alloc (.cells #[.int .i32 s] 27)).alloc (.cells #[.float .f64 b, .slice a n c, .int .u8 4] 30)).alloc (.cells #[.nilIface, .int .i32 0] 35)) := (((Chg.refl _ w).alloc _).alloc _).alloc _
  have h1 : ((((w.alloc (.cells #[.int .i32 s] 27)).alloc (.cells #[.float .f64 b, .slice a n c, .int .u8 4] 30)).alloc (.cells #[.nilIface, .int .i32 0] 35))).heap[w.heap.size]? = some (.cells #[.int .i32 s] 27 (0, 0)) := heap_keep (heap_keep (heap_at w _ _ rfl) _) _
  have h2 : ((((w.alloc (.cells #[.int .i32 s] 27)).alloc (.cells #[.float .f64 b, .slice a n c, .int .u8 4] 30)).alloc (.cells #[.nilIface, .int .i32 0] 35))).heap[w.heap.size + 1]? = some (.cells #[.float .f64 b, .slice a n c, .int .u8 4] 30 (0, 0)) := heap_keep (heap_at _ _ _ (by simp)) _
  have h3 : ((((w.alloc (.cells #[.int .i32 s] 27)).alloc (.cells #[.float .f64 b, .slice a n c, .int .u8 4] 30)).alloc (.cells #[.nilIface, .int .i32 0] 35))).heap[w.heap.size + 2]? = some (.cells #[.nilIface, .int .i32 0] 35 (0, 0)) := heap_at _ _ _ (by simp)
  have HB := Lib.hid (And.intro h1 (And.intro h2 (And.intro h3 hCC)))
  clear hCC h1 h2 h3
  go_enter Tryd.func8, Tryd.ntmps8
  go_upto_region 9 with fail
  generalize (((w.alloc (.cells _ _)).alloc (.cells _ _)).alloc (.cells _ _)) = w0 at HB ⊢
  have l0 := cell_of_heap HB.out.1 0
  have c0 := cell_of_heap HB.out.2.1 0
  have c1 := cell_of_heap HB.out.2.1 1
  have e0 := cell_of_heap HB.out.2.2.1 0
  have e1 := cell_of_heap HB.out.2.2.1 1
  simp only [List.getElem?_toArray, List.getElem?_cons_succ, List.getElem?_cons_zero] at l0 c0 c1 e0 e1
  have fz : ∀ j, w0.frozen? ⟨w.heap.size + 2, j, none⟩ = false := fun j => frozen_of_heap HB.out.2.2.1 j
  have lz := heap_lt HB.out.2.2.1
  go_wp2_with fail
  have fin : (((w0.setCell ⟨w.heap.size + 1 + 1, 0, none⟩ (.iface 46 (.pointer (some ⟨w0.heap.size, 0, none⟩)))).setCell ⟨w.heap.size + 1 + 1, 1, none⟩ (.int .i32 s)).alloc (.cells #[.bool false] 48)).heap[w.heap.size + 1 + 1]? = some (.cells #[.iface 46 (.pointer (some ⟨w0.heap.size, 0, none⟩)), .int .i32 s] 35 (0, 0)) := heap_keep (heap_setCell (heap_setCell HB.out.2.2.1 0 _) 1 _) _
  have hp : ∀ j, (⟨w.heap.size + 1 + 1, j, none⟩ : Addr).block < w.heap.size → Nowhere (⟨w.heap.size + 1 + 1, j, none⟩ : Addr).block := fun j h => by simp at h; omega
  refine bodyPost_ret (v := .agg #[.iface 46 (.pointer (some ⟨w0.heap.size, 0, none⟩)), .int .i32 s]) ?_ rfl ⟨w0.heap.size, 48, rfl, heap_at _ _ _ (by simp), ((HB.out.2.2.2.setCell (hp 0) _).setCell (hp 1) _).alloc _⟩
  exact results_c (p := 4) (ty := 35) (by rfl) _ _ _ (w.heap.size + 1 + 1) _ (by rfl) (loadEx fin (by rfl))
set_option maxHeartbeats 4000000 in
theorem c2eNum (s : Int) (b : Nat) (a : Option Addr) (n c : Nat) (w : World) :
    Calls Tryd.prog 8 #[.agg #[.int .i32 s], .agg #[.float .f64 b, .slice a n c, .int .u8 5]] w (ExOut 49 s #[.float .f64 b] w) := by
  have sf := store_f64
  have hCC : Chg Nowhere w (((w.alloc (.cells #[.int .i32 s] 27)).alloc (.cells #[.float .f64 b, .slice a n c, .int .u8 5] 30)).alloc (.cells #[.nilIface, .int .i32 0] 35)) := (((Chg.refl _ w).alloc _).alloc _).alloc _
  have h1 : ((((w.alloc (.cells #[.int .i32 s] 27)).alloc (.cells #[.float .f64 b, .slice a n c, .int .u8 5] 30)).alloc (.cells #[.nilIface, .int .i32 0] 35))).heap[w.heap.size]? = some (.cells #[.int .i32 s] 27 (0, 0)) := heap_keep (heap_keep (heap_at w _ _ rfl) _) _
  have h2 : ((((w.alloc (.cells #[.int .i32 s] 27)).alloc (.cells #[.float .f64 b, .slice a n c, .int .u8 5] 30)).alloc (.cells #[.nilIface, .int .i32 0] 35))).heap[w.heap.size + 1]? = some (.cells #[.float .f64 b, .slice a n c, .int .u8 5] 30 (0, 0)) := heap_keep (heap_at _ _ _ (by simp)) _
  have h3 : ((((w.alloc (.cells #[.int .i32 s] 27)).alloc (.cells #[.float .f64 b, .slice a n c, .int .u8 5] 30)).alloc (.cells #[.nilIface, .int .i32 0] 35))).heap[w.heap.size + 2]? = some (.cells #[.nilIface, .int .i32 0] 35 (0, 0)) := heap_at _ _ _ (by simp)
  have HB := Lib.hid (And.intro h1 (And.intro h2 (And.intro h3 hCC)))
  clear hCC h1 h2 h3
  go_enter Tryd.func8, Tryd.ntmps8
  go_upto_region 11 with fail
  generalize (((w.alloc (.cells _ _)).alloc (.cells _ _)).alloc (.cells _ _)) = w0 at HB ⊢
  have l0 := cell_of_heap HB.out.1 0
  have c0 := cell_of_heap HB.out.2.1 0
  have c1 := cell_of_heap HB.out.2.1 1
  have e0 := cell_of_heap HB.out.2.2.1 0
  have e1 := cell_of_heap HB.out.2.2.1 1
  simp only [List.getElem?_toArray, List.getElem?_cons_succ, List.getElem?_cons_zero] at l0 c0 c1 e0 e1
  have fz : ∀ j, w0.frozen? ⟨w.heap.size + 2, j, none⟩ = false := fun j => frozen_of_heap HB.out.2.2.1 j
  have lz := heap_lt HB.out.2.2.1
  go_wp2_with fail
  have fin : (((w0.setCell ⟨w.heap.size + 1 + 1, 0, none⟩ (.iface 49 (.pointer (some ⟨w0.heap.size, 0, none⟩)))).setCell ⟨w.heap.size + 1 + 1, 1, none⟩ (.int .i32 s)).alloc (.cells #[.float .f64 b] 51)).heap[w.heap.size + 1 + 1]? = some (.cells #[.iface 49 (.pointer (some ⟨w0.heap.size, 0, none⟩)), .int .i32 s] 35 (0, 0)) := heap_keep (heap_setCell (heap_setCell HB.out.2.2.1 0 _) 1 _) _
  have hp : ∀ j, (⟨w.heap.size + 1 + 1, j, none⟩ : Addr).block < w.heap.size → Nowhere (⟨w.heap.size + 1 + 1, j, none⟩ : Addr).block := fun j h => by simp at h; omega
  refine bodyPost_ret (v := .agg #[.iface 49 (.pointer (some ⟨w0.heap.size, 0, none⟩)), .int .i32 s]) ?_ rfl ⟨w0.heap.size, 51, rfl, heap_at _ _ _ (by simp), ((HB.out.2.2.2.setCell (hp 0) _).setCell (hp 1) _).alloc _⟩
  exact results_c (p := 4) (ty := 35) (by rfl) _ _ _ (w.heap.size + 1 + 1) _ (by rfl) (loadEx fin (by rfl))
set_option maxHeartbeats 4000000 in
theorem c2eStr (s : Int) (b : Nat) (a : Option Addr) (n c : Nat) (w : World) :
    Calls Tryd.prog 8 #[.agg #[.int .i32 s], .agg #[.float .f64 b, .slice a n c, .int .u8 6]] w (ExOut 53 s #[.slice a n c, .int .i32 0, .bool false, .bool false, .bool false] w) := by
  have sf := store_f64
  have hCC : Chg Nowhere w (((w.alloc (.cells #[.int .i32 s] 27)).alloc (.cells #[.float .f64 b, .slice a n c, .int .u8 6] 30)).alloc (.cells #[.nilIface, .int .i32 0] 35)) := (((Chg.refl _ w).alloc _).alloc _).alloc _
  have h1 : ((((w.alloc (.cells #[.int .i32 s] 27)).alloc (.cells #[.float .f64 b, .slice a n c, .int .u8 6] 30)).alloc (.cells #[.nilIface, .int .i32 0] 35))).heap[w.heap.size]? = some (.cells #[.int .i32 s] 27 (0, 0)) := heap_keep (heap_keep (heap_at w _ _ rfl) _) _
  have h2 : ((((w.alloc (.cells #[.int .i32 s] 27)).alloc (.cells #[.float .f64 b, .slice a n c, .int .u8 6] 30)).alloc (.cells #[.nilIface, .int .i32 0] 35))).heap[w.heap.size + 1]? = some (.cells #[.float .f64 b, .slice a n c, .int .u8 6] 30 (0, 0)) := heap_keep (heap_at _ _ _ (by simp)) _
  have h3 : ((((w.alloc (.cells #[.int .i32 s] 27)).alloc (.cells #[.float .f64 b, .slice a n c, .int .u8 6] 30)).alloc (.cells #[.nilIface, .int .i32 0] 35))).heap[w.heap.size + 2]? = some (.cells #[.nilIface, .int .i32 0] 35 (0, 0)) := heap_at _ _ _ (by simp)
  have HB := Lib.hid (And.intro h1 (And.intro h2 (And.intro h3 hCC)))
  clear hCC h1 h2 h3
  go_enter Tryd.func8, Tryd.ntmps8
  go_upto_region 13 with fail
  generalize (((w.alloc (.cells _ _)).alloc (.cells _ _)).alloc (.cells _ _)) = w0 at HB ⊢
  have l0 := cell_of_heap HB.out.1 0
  have c0 := cell_of_heap HB.out.2.1 0
  have c1 := cell_of_heap HB.out.2.1 1
  have e0 := cell_of_heap HB.out.2.2.1 0
  have e1 := cell_of_heap HB.out.2.2.1 1
  simp only [List.getElem?_toArray, List.getElem?_cons_succ, List.getElem?_cons_zero] at l0 c0 c1 e0 e1
  have fz : ∀ j, w0.frozen? ⟨w.heap.size + 2, j, none⟩ = false := fun j => frozen_of_heap HB.out.2.2.1 j
  have lz := heap_lt HB.out.2.2.1
  go_wp2_with fail
  have fin : (((w0.setCell ⟨w.heap.size + 1 + 1, 0, none⟩ (.iface 53 (.pointer (some ⟨w0.heap.size, 0, none⟩)))).setCell ⟨w.heap.size + 1 + 1, 1, none⟩ (.int .i32 s)).alloc (.cells #[.slice a n c, .int .i32 0, .bool false, .bool false, .bool false] 55)).heap[w.heap.size + 1 + 1]? = some (.cells #[.iface 53 (.pointer (some ⟨w0.heap.size, 0, none⟩)), .int .i32 s] 35 (0, 0)) := heap_keep (heap_setCell (heap_setCell HB.out.2.2.1 0 _) 1 _) _
  have hp : ∀ j, (⟨w.heap.size + 1 + 1, j, none⟩ : Addr).block < w.heap.size → Nowhere (⟨w.heap.size + 1 + 1, j, none⟩ : Addr).block := fun j h => by simp at h; omega
  refine bodyPost_ret (v := .agg #[.iface 53 (.pointer (some ⟨w0.heap.size, 0, none⟩)), .int .i32 s]) ?_ rfl ⟨w0.heap.size, 55, rfl, heap_at _ _ _ (by simp), ((HB.out.2.2.2.setCell (hp 0) _).setCell (hp 1) _).alloc _⟩
  exact results_c (p := 4) (ty := 35) (by rfl) _ _ _ (w.heap.size + 1 + 1) _ (by rfl) (loadEx fin (by rfl))
end Go.Proofs.YtjbnddhohkociaaDoor
