/-
  Proved: contracts of the law's builders of expressions, and of ExprToConstValue at the kinds that are never inlined. No statement of the seat stands here.
-/
import Derived.Test.YtgfeaejpleppkaaDoorQi
namespace Go.Proofs.YtgfeaejpleppkaaDoor
open Go.RowKit Go.ChangeAt
set_option linter.unusedSimpArgs false
set_option linter.unusedVariables false
set_option maxRecDepth 100000
theorem loadEx {w : World} {b : Nat} {cs : Array Value} (h : w.heap[b]? = some (.cells cs 33 (0, 0))) (hs : cs.size = 2) : (loadVar 33 ⟨b, 0, none⟩).run Tryd.prog w = .ok (.agg cs) w := by
  refine run_loadVar_row w b 33 33 cs (0, 0) _ h Tryd.underlying33 (by rfl) ?_
  rw [hs]
  kernel_rfl
def ExOut (T : TypeId) (cs : Array Value) (w : World) (e : Ending) (w' : World) : Prop := ∃ g D, e = .returned (.agg #[.iface T (.pointer (some ⟨g, 0, none⟩)), .int .i32 0]) ∧ w'.heap[g]? = some (.cells cs D (0, 0)) ∧ Chg Nowhere w w'
def NilOut (w : World) (e : Ending) (w' : World) : Prop := e = .returned (.agg #[.nilIface, .int .i32 0]) ∧ Chg Nowhere w w'
set_option maxHeartbeats 4000000 in
theorem xNull  (w : World) : Calls Tryd.prog 19 #[] w (ExOut 46 #[] w) := by
  have sf := store_f64
  have hCC : Chg Nowhere w (w.alloc (.cells #[.nilIface, .int .i32 0] 33)) := (Chg.refl _ w).alloc _
  have h3 : (w.alloc (.cells #[.nilIface, .int .i32 0] 33)).heap[w.heap.size]? = some (.cells #[.nilIface, .int .i32 0] 33 (0, 0)) := heap_at _ _ _ rfl
  have HB := Lib.hid (And.intro h3 hCC)
  clear hCC h3
  go_enter Tryd.func19, Tryd.ntmps19
  go_upto_region 1 with fail
  generalize (w.alloc (.cells _ _)) = w0 at HB ⊢
  have e0 := cell_of_heap HB.out.1 0
  have e1 := cell_of_heap HB.out.1 1
  simp only [List.getElem?_toArray, List.getElem?_cons_succ, List.getElem?_cons_zero] at e0 e1
  have fz : ∀ j, w0.frozen? ⟨w.heap.size, j, none⟩ = false := fun j => frozen_of_heap HB.out.1 j
  have lz := heap_lt HB.out.1
  go_wp2_with fail
  have fin : (((w0.setCell ⟨w.heap.size, 0, none⟩ (.iface 46 (.pointer (some ⟨w0.heap.size, 0, none⟩)))).setCell ⟨w.heap.size, 1, none⟩ (.int .i32 0)).alloc (.cells #[] 65)).heap[w.heap.size]? = some (.cells #[.iface 46 (.pointer (some ⟨w0.heap.size, 0, none⟩)), .int .i32 0] 33 (0, 0)) := heap_keep (heap_setCell (heap_setCell HB.out.1 0 _) 1 _) _
  have hp : ∀ j, (⟨w.heap.size, j, none⟩ : Addr).block < w.heap.size → Nowhere (⟨w.heap.size, j, none⟩ : Addr).block := fun j h => by simp at h
  refine bodyPost_ret (v := .agg #[.iface 46 (.pointer (some ⟨w0.heap.size, 0, none⟩)), .int .i32 0]) ?_ rfl ⟨w0.heap.size, 65, rfl, heap_at _ _ _ (by simp), ((HB.out.2.setCell (hp 0) _).setCell (hp 1) _).alloc _⟩
  exact results_c (p := 0) (ty := 33) (by rfl) _ _ _ w.heap.size _ (by rfl) (loadEx fin (by rfl))
set_option maxHeartbeats 4000000 in
theorem xUndef  (w : World) : Calls Tryd.prog 20 #[] w (ExOut 47 #[] w) := by
  have sf := store_f64
  have hCC : Chg Nowhere w (w.alloc (.cells #[.nilIface, .int .i32 0] 33)) := (Chg.refl _ w).alloc _
  have h3 : (w.alloc (.cells #[.nilIface, .int .i32 0] 33)).heap[w.heap.size]? = some (.cells #[.nilIface, .int .i32 0] 33 (0, 0)) := heap_at _ _ _ rfl
  have HB := Lib.hid (And.intro h3 hCC)
  clear hCC h3
  go_enter Tryd.func20, Tryd.ntmps20
  go_upto_region 1 with fail
  generalize (w.alloc (.cells _ _)) = w0 at HB ⊢
  have e0 := cell_of_heap HB.out.1 0
  have e1 := cell_of_heap HB.out.1 1
  simp only [List.getElem?_toArray, List.getElem?_cons_succ, List.getElem?_cons_zero] at e0 e1
  have fz : ∀ j, w0.frozen? ⟨w.heap.size, j, none⟩ = false := fun j => frozen_of_heap HB.out.1 j
  have lz := heap_lt HB.out.1
  go_wp2_with fail
  have fin : (((w0.setCell ⟨w.heap.size, 0, none⟩ (.iface 47 (.pointer (some ⟨w0.heap.size, 0, none⟩)))).setCell ⟨w.heap.size, 1, none⟩ (.int .i32 0)).alloc (.cells #[] 66)).heap[w.heap.size]? = some (.cells #[.iface 47 (.pointer (some ⟨w0.heap.size, 0, none⟩)), .int .i32 0] 33 (0, 0)) := heap_keep (heap_setCell (heap_setCell HB.out.1 0 _) 1 _) _
  have hp : ∀ j, (⟨w.heap.size, j, none⟩ : Addr).block < w.heap.size → Nowhere (⟨w.heap.size, j, none⟩ : Addr).block := fun j h => by simp at h
  refine bodyPost_ret (v := .agg #[.iface 47 (.pointer (some ⟨w0.heap.size, 0, none⟩)), .int .i32 0]) ?_ rfl ⟨w0.heap.size, 66, rfl, heap_at _ _ _ (by simp), ((HB.out.2.setCell (hp 0) _).setCell (hp 1) _).alloc _⟩
  exact results_c (p := 0) (ty := 33) (by rfl) _ _ _ w.heap.size _ (by rfl) (loadEx fin (by rfl))
set_option maxHeartbeats 4000000 in
theorem xBool (b : Bool) (w : World) : Calls Tryd.prog 21 #[.bool b] w (ExOut 48 #[.bool b] w) := by
  have sf := store_f64
  have hCC : Chg Nowhere w (w.alloc (.cells #[.nilIface, .int .i32 0] 33)) := (Chg.refl _ w).alloc _
  have h3 : (w.alloc (.cells #[.nilIface, .int .i32 0] 33)).heap[w.heap.size]? = some (.cells #[.nilIface, .int .i32 0] 33 (0, 0)) := heap_at _ _ _ rfl
  have HB := Lib.hid (And.intro h3 hCC)
  clear hCC h3
  go_enter Tryd.func21, Tryd.ntmps21
  go_upto_region 1 with fail
  generalize (w.alloc (.cells _ _)) = w0 at HB ⊢
  have e0 := cell_of_heap HB.out.1 0
  have e1 := cell_of_heap HB.out.1 1
  simp only [List.getElem?_toArray, List.getElem?_cons_succ, List.getElem?_cons_zero] at e0 e1
  have fz : ∀ j, w0.frozen? ⟨w.heap.size, j, none⟩ = false := fun j => frozen_of_heap HB.out.1 j
  have lz := heap_lt HB.out.1
  go_wp2_with fail
  have fin : (((w0.setCell ⟨w.heap.size, 0, none⟩ (.iface 48 (.pointer (some ⟨w0.heap.size, 0, none⟩)))).setCell ⟨w.heap.size, 1, none⟩ (.int .i32 0)).alloc (.cells #[.bool b] 50)).heap[w.heap.size]? = some (.cells #[.iface 48 (.pointer (some ⟨w0.heap.size, 0, none⟩)), .int .i32 0] 33 (0, 0)) := heap_keep (heap_setCell (heap_setCell HB.out.1 0 _) 1 _) _
  have hp : ∀ j, (⟨w.heap.size, j, none⟩ : Addr).block < w.heap.size → Nowhere (⟨w.heap.size, j, none⟩ : Addr).block := fun j h => by simp at h
  refine bodyPost_ret (v := .agg #[.iface 48 (.pointer (some ⟨w0.heap.size, 0, none⟩)), .int .i32 0]) ?_ rfl ⟨w0.heap.size, 50, rfl, heap_at _ _ _ (by simp), ((HB.out.2.setCell (hp 0) _).setCell (hp 1) _).alloc _⟩
  exact results_c (p := 2) (ty := 33) (by rfl) _ _ _ w.heap.size _ (by rfl) (loadEx fin (by rfl))
set_option maxHeartbeats 4000000 in
theorem xNum (b : Nat) (w : World) : Calls Tryd.prog 7 #[.float .f64 b] w (ExOut 51 #[.float .f64 b] w) := by
  have sf := store_f64
  have hCC : Chg Nowhere w (w.alloc (.cells #[.nilIface, .int .i32 0] 33)) := (Chg.refl _ w).alloc _
  have h3 : (w.alloc (.cells #[.nilIface, .int .i32 0] 33)).heap[w.heap.size]? = some (.cells #[.nilIface, .int .i32 0] 33 (0, 0)) := heap_at _ _ _ rfl
  have HB := Lib.hid (And.intro h3 hCC)
  clear hCC h3
  go_enter Tryd.func7, Tryd.ntmps7
  go_upto_region 1 with fail
  generalize (w.alloc (.cells _ _)) = w0 at HB ⊢
  have e0 := cell_of_heap HB.out.1 0
  have e1 := cell_of_heap HB.out.1 1
  simp only [List.getElem?_toArray, List.getElem?_cons_succ, List.getElem?_cons_zero] at e0 e1
  have fz : ∀ j, w0.frozen? ⟨w.heap.size, j, none⟩ = false := fun j => frozen_of_heap HB.out.1 j
  have lz := heap_lt HB.out.1
  go_wp2_with fail
  have fin : (((w0.setCell ⟨w.heap.size, 0, none⟩ (.iface 51 (.pointer (some ⟨w0.heap.size, 0, none⟩)))).setCell ⟨w.heap.size, 1, none⟩ (.int .i32 0)).alloc (.cells #[.float .f64 b] 53)).heap[w.heap.size]? = some (.cells #[.iface 51 (.pointer (some ⟨w0.heap.size, 0, none⟩)), .int .i32 0] 33 (0, 0)) := heap_keep (heap_setCell (heap_setCell HB.out.1 0 _) 1 _) _
  have hp : ∀ j, (⟨w.heap.size, j, none⟩ : Addr).block < w.heap.size → Nowhere (⟨w.heap.size, j, none⟩ : Addr).block := fun j h => by simp at h
  refine bodyPost_ret (v := .agg #[.iface 51 (.pointer (some ⟨w0.heap.size, 0, none⟩)), .int .i32 0]) ?_ rfl ⟨w0.heap.size, 53, rfl, heap_at _ _ _ (by simp), ((HB.out.2.setCell (hp 0) _).setCell (hp 1) _).alloc _⟩
  exact results_c (p := 2) (ty := 33) (by rfl) _ _ _ w.heap.size _ (by rfl) (loadEx fin (by rfl))
set_option maxHeartbeats 4000000 in
theorem xStr (a : Option Addr) (n c : Nat) (w : World) : Calls Tryd.prog 22 #[.slice a n c] w (ExOut 55 #[.slice a n c, .int .i32 0, .bool false, .bool false, .bool false] w) := by
  have sf := store_f64
  have hCC : Chg Nowhere w (w.alloc (.cells #[.nilIface, .int .i32 0] 33)) := (Chg.refl _ w).alloc _
  have h3 : (w.alloc (.cells #[.nilIface, .int .i32 0] 33)).heap[w.heap.size]? = some (.cells #[.nilIface, .int .i32 0] 33 (0, 0)) := heap_at _ _ _ rfl
  have HB := Lib.hid (And.intro h3 hCC)
  clear hCC h3
  go_enter Tryd.func22, Tryd.ntmps22
  go_upto_region 1 with fail
  generalize (w.alloc (.cells _ _)) = w0 at HB ⊢
  have e0 := cell_of_heap HB.out.1 0
  have e1 := cell_of_heap HB.out.1 1
  simp only [List.getElem?_toArray, List.getElem?_cons_succ, List.getElem?_cons_zero] at e0 e1
  have fz : ∀ j, w0.frozen? ⟨w.heap.size, j, none⟩ = false := fun j => frozen_of_heap HB.out.1 j
  have lz := heap_lt HB.out.1
  go_wp2_with fail
  have fin : (((w0.setCell ⟨w.heap.size, 0, none⟩ (.iface 55 (.pointer (some ⟨w0.heap.size, 0, none⟩)))).setCell ⟨w.heap.size, 1, none⟩ (.int .i32 0)).alloc (.cells #[.slice a n c, .int .i32 0, .bool false, .bool false, .bool false] 57)).heap[w.heap.size]? = some (.cells #[.iface 55 (.pointer (some ⟨w0.heap.size, 0, none⟩)), .int .i32 0] 33 (0, 0)) := heap_keep (heap_setCell (heap_setCell HB.out.1 0 _) 1 _) _
  have hp : ∀ j, (⟨w.heap.size, j, none⟩ : Addr).block < w.heap.size → Nowhere (⟨w.heap.size, j, none⟩ : Addr).block := fun j h => by simp at h
  refine bodyPost_ret (v := .agg #[.iface 55 (.pointer (some ⟨w0.heap.size, 0, none⟩)), .int .i32 0]) ?_ rfl ⟨w0.heap.size, 57, rfl, heap_at _ _ _ (by simp), ((HB.out.2.setCell (hp 0) _).setCell (hp 1) _).alloc _⟩
  exact results_c (p := 2) (ty := 33) (by rfl) _ _ _ w.heap.size _ (by rfl) (loadEx fin (by rfl))
set_option maxHeartbeats 4000000 in
theorem xBig (s : ByteArray) (w : World) : Calls Tryd.prog 23 #[.string s] w (ExOut 58 #[.string s] w) := by
  have sf := store_f64
  have hCC : Chg Nowhere w (w.alloc (.cells #[.nilIface, .int .i32 0] 33)) := (Chg.refl _ w).alloc _
  have h3 : (w.alloc (.cells #[.nilIface, .int .i32 0] 33)).heap[w.heap.size]? = some (.cells #[.nilIface, .int .i32 0] 33 (0, 0)) := heap_at _ _ _ rfl
  have HB := Lib.hid (And.intro h3 hCC)
  clear hCC h3
  go_enter Tryd.func23, Tryd.ntmps23
  go_upto_region 1 with fail
  generalize (w.alloc (.cells _ _)) = w0 at HB ⊢
  have e0 := cell_of_heap HB.out.1 0
  have e1 := cell_of_heap HB.out.1 1
  simp only [List.getElem?_toArray, List.getElem?_cons_succ, List.getElem?_cons_zero] at e0 e1
  have fz : ∀ j, w0.frozen? ⟨w.heap.size, j, none⟩ = false := fun j => frozen_of_heap HB.out.1 j
  have lz := heap_lt HB.out.1
  go_wp2_with fail
  have fin : (((w0.setCell ⟨w.heap.size, 0, none⟩ (.iface 58 (.pointer (some ⟨w0.heap.size, 0, none⟩)))).setCell ⟨w.heap.size, 1, none⟩ (.int .i32 0)).alloc (.cells #[.string s] 68)).heap[w.heap.size]? = some (.cells #[.iface 58 (.pointer (some ⟨w0.heap.size, 0, none⟩)), .int .i32 0] 33 (0, 0)) := heap_keep (heap_setCell (heap_setCell HB.out.1 0 _) 1 _) _
  have hp : ∀ j, (⟨w.heap.size, j, none⟩ : Addr).block < w.heap.size → Nowhere (⟨w.heap.size, j, none⟩ : Addr).block := fun j h => by simp at h
  refine bodyPost_ret (v := .agg #[.iface 58 (.pointer (some ⟨w0.heap.size, 0, none⟩)), .int .i32 0]) ?_ rfl ⟨w0.heap.size, 68, rfl, heap_at _ _ _ (by simp), ((HB.out.2.setCell (hp 0) _).setCell (hp 1) _).alloc _⟩
  exact results_c (p := 2) (ty := 33) (by rfl) _ _ _ w.heap.size _ (by rfl) (loadEx fin (by rfl))
set_option maxHeartbeats 4000000 in
theorem xThis  (w : World) : Calls Tryd.prog 24 #[] w (ExOut 69 #[] w) := by
  have sf := store_f64
  have hCC : Chg Nowhere w (w.alloc (.cells #[.nilIface, .int .i32 0] 33)) := (Chg.refl _ w).alloc _
  have h3 : (w.alloc (.cells #[.nilIface, .int .i32 0] 33)).heap[w.heap.size]? = some (.cells #[.nilIface, .int .i32 0] 33 (0, 0)) := heap_at _ _ _ rfl
  have HB := Lib.hid (And.intro h3 hCC)
  clear hCC h3
  go_enter Tryd.func24, Tryd.ntmps24
  go_upto_region 1 with fail
  generalize (w.alloc (.cells _ _)) = w0 at HB ⊢
  have e0 := cell_of_heap HB.out.1 0
  have e1 := cell_of_heap HB.out.1 1
  simp only [List.getElem?_toArray, List.getElem?_cons_succ, List.getElem?_cons_zero] at e0 e1
  have fz : ∀ j, w0.frozen? ⟨w.heap.size, j, none⟩ = false := fun j => frozen_of_heap HB.out.1 j
  have lz := heap_lt HB.out.1
  go_wp2_with fail
  have fin : (((w0.setCell ⟨w.heap.size, 0, none⟩ (.iface 69 (.pointer (some ⟨w0.heap.size, 0, none⟩)))).setCell ⟨w.heap.size, 1, none⟩ (.int .i32 0)).alloc (.cells #[] 70)).heap[w.heap.size]? = some (.cells #[.iface 69 (.pointer (some ⟨w0.heap.size, 0, none⟩)), .int .i32 0] 33 (0, 0)) := heap_keep (heap_setCell (heap_setCell HB.out.1 0 _) 1 _) _
  have hp : ∀ j, (⟨w.heap.size, j, none⟩ : Addr).block < w.heap.size → Nowhere (⟨w.heap.size, j, none⟩ : Addr).block := fun j h => by simp at h
  refine bodyPost_ret (v := .agg #[.iface 69 (.pointer (some ⟨w0.heap.size, 0, none⟩)), .int .i32 0]) ?_ rfl ⟨w0.heap.size, 70, rfl, heap_at _ _ _ (by simp), ((HB.out.2.setCell (hp 0) _).setCell (hp 1) _).alloc _⟩
  exact results_c (p := 0) (ty := 33) (by rfl) _ _ _ w.heap.size _ (by rfl) (loadEx fin (by rfl))
set_option maxHeartbeats 4000000 in
theorem xNo (w : World) : Calls Tryd.prog 25 #[] w (NilOut w) := by
  have hCC : Chg Nowhere w (w.alloc (.cells #[.nilIface, .int .i32 0] 33)) := (Chg.refl _ w).alloc _
  have h3 : (w.alloc (.cells #[.nilIface, .int .i32 0] 33)).heap[w.heap.size]? = some (.cells #[.nilIface, .int .i32 0] 33 (0, 0)) := heap_at _ _ _ rfl
  have HB := Lib.hid (And.intro h3 hCC)
  clear hCC h3
  go_enter Tryd.func25, Tryd.ntmps25
  go_upto_region 1 with fail
  generalize (w.alloc (.cells _ _)) = w0 at HB ⊢
  have e0 := cell_of_heap HB.out.1 0
  have e1 := cell_of_heap HB.out.1 1
  simp only [List.getElem?_toArray, List.getElem?_cons_succ, List.getElem?_cons_zero] at e0 e1
  have fz : ∀ j, w0.frozen? ⟨w.heap.size, j, none⟩ = false := fun j => frozen_of_heap HB.out.1 j
  have lz := heap_lt HB.out.1
  go_wp2_with fail
  have fin : ((w0.setCell ⟨w.heap.size, 0, none⟩ .nilIface).setCell ⟨w.heap.size, 1, none⟩ (.int .i32 0)).heap[w.heap.size]? = some (.cells #[.nilIface, .int .i32 0] 33 (0, 0)) := heap_setCell (heap_setCell HB.out.1 0 _) 1 _
  have hp : ∀ j, (⟨w.heap.size, j, none⟩ : Addr).block < w.heap.size → Nowhere (⟨w.heap.size, j, none⟩ : Addr).block := fun j h => by simp at h
  refine bodyPost_ret (v := .agg #[.nilIface, .int .i32 0]) ?_ rfl ⟨rfl, (HB.out.2.setCell (hp 0) _).setCell (hp 1) _⟩
  exact results_c (p := 0) (ty := 33) (by rfl) _ _ _ w.heap.size _ (by rfl) (loadEx fin (by rfl))
theorem as_e2cBig_ENull (p : Option Addr) (w : World) : (Instr.typeAssert (.iface 58 (.pointer p)) 29 46 true).run Tryd.prog w = .ok (.tuple #[.pointer none, .bool false]) w := by kernel_rfl
theorem as_e2cBig_EUndefined (p : Option Addr) (w : World) : (Instr.typeAssert (.iface 58 (.pointer p)) 29 47 true).run Tryd.prog w = .ok (.tuple #[.pointer none, .bool false]) w := by kernel_rfl
theorem as_e2cBig_EBoolean (p : Option Addr) (w : World) : (Instr.typeAssert (.iface 58 (.pointer p)) 29 48 true).run Tryd.prog w = .ok (.tuple #[.pointer none, .bool false]) w := by kernel_rfl
theorem as_e2cBig_ENumber (p : Option Addr) (w : World) : (Instr.typeAssert (.iface 58 (.pointer p)) 29 51 true).run Tryd.prog w = .ok (.tuple #[.pointer none, .bool false]) w := by kernel_rfl
theorem as_e2cBig_EString (p : Option Addr) (w : World) : (Instr.typeAssert (.iface 58 (.pointer p)) 29 55 true).run Tryd.prog w = .ok (.tuple #[.pointer none, .bool false]) w := by kernel_rfl
theorem as_e2cBig_EBigInt (p : Option Addr) (w : World) : (Instr.typeAssert (.iface 58 (.pointer p)) 29 58 true).run Tryd.prog w = .ok (.tuple #[.pointer p, .bool true]) w := by kernel_rfl
set_option maxHeartbeats 4000000 in
theorem e2cBig (p : Option Addr) (loc : Int) (w : World) :
    Calls Tryd.prog 6 #[.agg #[.iface 58 (.pointer p), .int .i32 loc]] w (CvOut cvZero w) := by
  have as_e2cBig_ENull := as_e2cBig_ENull p
  have as_e2cBig_EUndefined := as_e2cBig_EUndefined p
  have as_e2cBig_EBoolean := as_e2cBig_EBoolean p
  have as_e2cBig_ENumber := as_e2cBig_ENumber p
  have as_e2cBig_EString := as_e2cBig_EString p
  have as_e2cBig_EBigInt := as_e2cBig_EBigInt p
  have sf := store_f64
  have hCC : Chg Nowhere w ((w.alloc (.cells #[.iface 58 (.pointer p), .int .i32 loc] 33)).alloc (.cells #[.float .f64 0, .slice none 0 0, .int .u8 0] 26)) := ((Chg.refl _ w).alloc _).alloc _
  have hb2 : (((w.alloc (.cells #[.iface 58 (.pointer p), .int .i32 loc] 33)).alloc (.cells #[.float .f64 0, .slice none 0 0, .int .u8 0] 26))).heap[w.heap.size + 1]? = some (.cells cvZero 26 (0, 0)) := heap_at _ _ _ (by simp)
  have HB := Lib.hid (And.intro hb2 hCC)
  clear hb2 hCC
  go_enter Tryd.func6, Tryd.ntmps6
  go_upto_region 24 with fail
  generalize ((w.alloc (.cells _ _)).alloc (.cells _ _)) = w0 at HB ⊢
  have hb2 := HB.out.1
  have r0 := cell_of_heap hb2 0
  have r1 := cell_of_heap hb2 1
  have r2 := cell_of_heap hb2 2
  simp only [cvZero, List.getElem?_toArray, List.getElem?_cons_succ, List.getElem?_cons_zero] at r0 r1 r2
  have fz : ∀ j, w0.frozen? ⟨w.heap.size + 1, j, none⟩ = false := fun j => frozen_of_heap hb2 j
  have lz := heap_lt hb2
  generalize hg2 : w.heap.size = gs at r0 r1 r2 fz lz HB ⊢
  have HG := Lib.hid hg2
  clear hb2 hg2
  go_wp2_with fail
  refine bodyPost_ret (v := .agg cvZero) ?_ rfl ⟨rfl, st3_chg HB.out.2 (by have := HG.out; omega) _ _ _⟩
  exact results_c (p := 2) (ty := 26) (by rfl) _ _ _ (gs + 1) (.agg cvZero) (by rfl) (loadCV (st3_heap HB.out.1 _ _ _) (by rfl))
theorem as_e2cThis_ENull (p : Option Addr) (w : World) : (Instr.typeAssert (.iface 69 (.pointer p)) 29 46 true).run Tryd.prog w = .ok (.tuple #[.pointer none, .bool false]) w := by kernel_rfl
theorem as_e2cThis_EUndefined (p : Option Addr) (w : World) : (Instr.typeAssert (.iface 69 (.pointer p)) 29 47 true).run Tryd.prog w = .ok (.tuple #[.pointer none, .bool false]) w := by kernel_rfl
theorem as_e2cThis_EBoolean (p : Option Addr) (w : World) : (Instr.typeAssert (.iface 69 (.pointer p)) 29 48 true).run Tryd.prog w = .ok (.tuple #[.pointer none, .bool false]) w := by kernel_rfl
theorem as_e2cThis_ENumber (p : Option Addr) (w : World) : (Instr.typeAssert (.iface 69 (.pointer p)) 29 51 true).run Tryd.prog w = .ok (.tuple #[.pointer none, .bool false]) w := by kernel_rfl
theorem as_e2cThis_EString (p : Option Addr) (w : World) : (Instr.typeAssert (.iface 69 (.pointer p)) 29 55 true).run Tryd.prog w = .ok (.tuple #[.pointer none, .bool false]) w := by kernel_rfl
theorem as_e2cThis_EBigInt (p : Option Addr) (w : World) : (Instr.typeAssert (.iface 69 (.pointer p)) 29 58 true).run Tryd.prog w = .ok (.tuple #[.pointer none, .bool false]) w := by kernel_rfl
set_option maxHeartbeats 4000000 in
theorem e2cThis (p : Option Addr) (loc : Int) (w : World) :
    Calls Tryd.prog 6 #[.agg #[.iface 69 (.pointer p), .int .i32 loc]] w (CvOut cvZero w) := by
  have as_e2cThis_ENull := as_e2cThis_ENull p
  have as_e2cThis_EUndefined := as_e2cThis_EUndefined p
  have as_e2cThis_EBoolean := as_e2cThis_EBoolean p
  have as_e2cThis_ENumber := as_e2cThis_ENumber p
  have as_e2cThis_EString := as_e2cThis_EString p
  have as_e2cThis_EBigInt := as_e2cThis_EBigInt p
  have sf := store_f64
  have hCC : Chg Nowhere w ((w.alloc (.cells #[.iface 69 (.pointer p), .int .i32 loc] 33)).alloc (.cells #[.float .f64 0, .slice none 0 0, .int .u8 0] 26)) := ((Chg.refl _ w).alloc _).alloc _
  have hb2 : (((w.alloc (.cells #[.iface 69 (.pointer p), .int .i32 loc] 33)).alloc (.cells #[.float .f64 0, .slice none 0 0, .int .u8 0] 26))).heap[w.heap.size + 1]? = some (.cells cvZero 26 (0, 0)) := heap_at _ _ _ (by simp)
  have HB := Lib.hid (And.intro hb2 hCC)
  clear hb2 hCC
  go_enter Tryd.func6, Tryd.ntmps6
  go_upto_region 24 with fail
  generalize ((w.alloc (.cells _ _)).alloc (.cells _ _)) = w0 at HB ⊢
  have hb2 := HB.out.1
  have r0 := cell_of_heap hb2 0
  have r1 := cell_of_heap hb2 1
  have r2 := cell_of_heap hb2 2
  simp only [cvZero, List.getElem?_toArray, List.getElem?_cons_succ, List.getElem?_cons_zero] at r0 r1 r2
  have fz : ∀ j, w0.frozen? ⟨w.heap.size + 1, j, none⟩ = false := fun j => frozen_of_heap hb2 j
  have lz := heap_lt hb2
  generalize hg2 : w.heap.size = gs at r0 r1 r2 fz lz HB ⊢
  have HG := Lib.hid hg2
  clear hb2 hg2
  go_wp2_with fail
  refine bodyPost_ret (v := .agg cvZero) ?_ rfl ⟨rfl, st3_chg HB.out.2 (by have := HG.out; omega) _ _ _⟩
  exact results_c (p := 2) (ty := 26) (by rfl) _ _ _ (gs + 1) (.agg cvZero) (by rfl) (loadCV (st3_heap HB.out.1 _ _ _) (by rfl))
theorem as_e2cNil_ENull (w : World) : (Instr.typeAssert (.nilIface) 29 46 true).run Tryd.prog w = .ok (.tuple #[.pointer none, .bool false]) w := by kernel_rfl
theorem as_e2cNil_EUndefined (w : World) : (Instr.typeAssert (.nilIface) 29 47 true).run Tryd.prog w = .ok (.tuple #[.pointer none, .bool false]) w := by kernel_rfl
theorem as_e2cNil_EBoolean (w : World) : (Instr.typeAssert (.nilIface) 29 48 true).run Tryd.prog w = .ok (.tuple #[.pointer none, .bool false]) w := by kernel_rfl
theorem as_e2cNil_ENumber (w : World) : (Instr.typeAssert (.nilIface) 29 51 true).run Tryd.prog w = .ok (.tuple #[.pointer none, .bool false]) w := by kernel_rfl
theorem as_e2cNil_EString (w : World) : (Instr.typeAssert (.nilIface) 29 55 true).run Tryd.prog w = .ok (.tuple #[.pointer none, .bool false]) w := by kernel_rfl
theorem as_e2cNil_EBigInt (w : World) : (Instr.typeAssert (.nilIface) 29 58 true).run Tryd.prog w = .ok (.tuple #[.pointer none, .bool false]) w := by kernel_rfl
set_option maxHeartbeats 4000000 in
theorem e2cNil (loc : Int) (w : World) :
    Calls Tryd.prog 6 #[.agg #[.nilIface, .int .i32 loc]] w (CvOut cvZero w) := by
  have as_e2cNil_ENull := as_e2cNil_ENull
  have as_e2cNil_EUndefined := as_e2cNil_EUndefined
  have as_e2cNil_EBoolean := as_e2cNil_EBoolean
  have as_e2cNil_ENumber := as_e2cNil_ENumber
  have as_e2cNil_EString := as_e2cNil_EString
  have as_e2cNil_EBigInt := as_e2cNil_EBigInt
  have sf := store_f64
  have hCC : Chg Nowhere w ((w.alloc (.cells #[.nilIface, .int .i32 loc] 33)).alloc (.cells #[.float .f64 0, .slice none 0 0, .int .u8 0] 26)) := ((Chg.refl _ w).alloc _).alloc _
  have hb2 : (((w.alloc (.cells #[.nilIface, .int .i32 loc] 33)).alloc (.cells #[.float .f64 0, .slice none 0 0, .int .u8 0] 26))).heap[w.heap.size + 1]? = some (.cells cvZero 26 (0, 0)) := heap_at _ _ _ (by simp)
  have HB := Lib.hid (And.intro hb2 hCC)
  clear hb2 hCC
  go_enter Tryd.func6, Tryd.ntmps6
  go_upto_region 24 with fail
  generalize ((w.alloc (.cells _ _)).alloc (.cells _ _)) = w0 at HB ⊢
  have hb2 := HB.out.1
  have r0 := cell_of_heap hb2 0
  have r1 := cell_of_heap hb2 1
  have r2 := cell_of_heap hb2 2
  simp only [cvZero, List.getElem?_toArray, List.getElem?_cons_succ, List.getElem?_cons_zero] at r0 r1 r2
  have fz : ∀ j, w0.frozen? ⟨w.heap.size + 1, j, none⟩ = false := fun j => frozen_of_heap hb2 j
  have lz := heap_lt hb2
  generalize hg2 : w.heap.size = gs at r0 r1 r2 fz lz HB ⊢
  have HG := Lib.hid hg2
  clear hb2 hg2
  go_wp2_with fail
  refine bodyPost_ret (v := .agg cvZero) ?_ rfl ⟨rfl, st3_chg HB.out.2 (by have := HG.out; omega) _ _ _⟩
  exact results_c (p := 2) (ty := 26) (by rfl) _ _ _ (gs + 1) (.agg cvZero) (by rfl) (loadCV (st3_heap HB.out.1 _ _ _) (by rfl))
end Go.Proofs.YtgfeaejpleppkaaDoor
