/-
  Proved: contract of zzBuild, tag by tag. No statement of the seat stands here.
-/
import Derived.Test.YtgfeaejpleppkaaDoorQj
namespace Go.Proofs.YtgfeaejpleppkaaDoor
open Go.RowKit Go.ChangeAt
set_option linter.unusedSimpArgs false
set_option linter.unusedVariables false
set_option maxRecDepth 100000
set_option maxHeartbeats 4000000 in
theorem bdNull (tag : Int) (bb : Bool) (b : Nat) (a : Option Addr) (n c : Nat) (s : ByteArray) (w : World) (ht : tag.tmod 8 = 0) : Calls Tryd.prog 11 #[.int .u8 tag, .bool bb, .float .f64 b, .slice a n c, .string s] w (ExOut 46 #[] w) := by
  have sf := store_f64
  have hCC : Chg Nowhere w (w.alloc (.cells #[.nilIface, .int .i32 0] 33)) := (Chg.refl _ w).alloc _
  have h3 : (w.alloc (.cells #[.nilIface, .int .i32 0] 33)).heap[w.heap.size]? = some (.cells #[.nilIface, .int .i32 0] 33 (0, 0)) := heap_at _ _ _ rfl
  have HB := Lib.hid (And.intro h3 hCC)
  clear hCC h3
  go_enter Tryd.func11, Tryd.ntmps11
  go_upto_region 3 with fail
  generalize (w.alloc (.cells _ _)) = w0 at HB ⊢
  go_wp2_with fail
  refine (xNull _).mono ?_
  rintro e1 w1 ⟨g, D, rfl, hg, hC⟩
  have hx : w1.heap[w.heap.size]? = some (.cells #[.nilIface, .int .i32 0] 33 (0, 0)) := hC.heap HB.out.1 (fun h => h)
  have e0 := cell_of_heap hx 0
  have e1 := cell_of_heap hx 1
  simp only [List.getElem?_toArray, List.getElem?_cons_succ, List.getElem?_cons_zero] at e0 e1
  have fz : ∀ j, w1.frozen? ⟨w.heap.size, j, none⟩ = false := fun j => frozen_of_heap hx j
  have lz := heap_lt hx
  have hW := HB.out.2.trans hC (fun _ _ h => h)
  have hne : ¬ g = w.heap.size := fun h => by rw [h, hx] at hg; simp at hg
  have HG := Lib.hid (And.intro hW (And.intro hg hne))
  clear hW hg hne hC
  generalize hgs : w.heap.size = gs at e0 e1 fz lz hx HG ⊢
  go_wp2_with fail
  have fin : ((w1.setCell ⟨gs, 0, none⟩ (.iface 46 (.pointer (some ⟨g, 0, none⟩)))).setCell ⟨gs, 1, none⟩ (.int .i32 0)).heap[gs]? = some (.cells #[.iface 46 (.pointer (some ⟨g, 0, none⟩)), .int .i32 0] 33 (0, 0)) := heap_setCell (heap_setCell hx 0 _) 1 _
  have hp : ∀ j, (⟨gs, j, none⟩ : Addr).block < w.heap.size → Nowhere (⟨gs, j, none⟩ : Addr).block := fun j h => by simp at h; omega
  have h2 : Chg (fun k => k = gs) w1 ((w1.setCell ⟨gs, 0, none⟩ (.iface 46 (.pointer (some ⟨g, 0, none⟩)))).setCell ⟨gs, 1, none⟩ (.int .i32 0)) := ((Chg.refl (fun k : Nat => k = gs) w1).setCell (fun _ => rfl) _).setCell (fun _ => rfl) _
  refine bodyPost_ret (v := .agg #[.iface 46 (.pointer (some ⟨g, 0, none⟩)), .int .i32 0]) ?_ rfl ⟨g, D, rfl, h2.heap HG.out.2.1 HG.out.2.2, (HG.out.1.setCell (hp 0) _).setCell (hp 1) _⟩
  exact results_c (p := 10) (ty := 33) (by rfl) _ _ _ gs _ (by rfl) (loadEx fin (by rfl))
set_option maxHeartbeats 4000000 in
theorem bdUndef (tag : Int) (bb : Bool) (b : Nat) (a : Option Addr) (n c : Nat) (s : ByteArray) (w : World) (ht : tag.tmod 8 = 1) : Calls Tryd.prog 11 #[.int .u8 tag, .bool bb, .float .f64 b, .slice a n c, .string s] w (ExOut 47 #[] w) := by
  have sf := store_f64
  have hCC : Chg Nowhere w (w.alloc (.cells #[.nilIface, .int .i32 0] 33)) := (Chg.refl _ w).alloc _
  have h3 : (w.alloc (.cells #[.nilIface, .int .i32 0] 33)).heap[w.heap.size]? = some (.cells #[.nilIface, .int .i32 0] 33 (0, 0)) := heap_at _ _ _ rfl
  have HB := Lib.hid (And.intro h3 hCC)
  clear hCC h3
  go_enter Tryd.func11, Tryd.ntmps11
  go_upto_region 5 with fail
  generalize (w.alloc (.cells _ _)) = w0 at HB ⊢
  go_wp2_with fail
  refine (xUndef _).mono ?_
  rintro e1 w1 ⟨g, D, rfl, hg, hC⟩
  have hx : w1.heap[w.heap.size]? = some (.cells #[.nilIface, .int .i32 0] 33 (0, 0)) := hC.heap HB.out.1 (fun h => h)
  have e0 := cell_of_heap hx 0
  have e1 := cell_of_heap hx 1
  simp only [List.getElem?_toArray, List.getElem?_cons_succ, List.getElem?_cons_zero] at e0 e1
  have fz : ∀ j, w1.frozen? ⟨w.heap.size, j, none⟩ = false := fun j => frozen_of_heap hx j
  have lz := heap_lt hx
  have hW := HB.out.2.trans hC (fun _ _ h => h)
  have hne : ¬ g = w.heap.size := fun h => by rw [h, hx] at hg; simp at hg
  have HG := Lib.hid (And.intro hW (And.intro hg hne))
  clear hW hg hne hC
  generalize hgs : w.heap.size = gs at e0 e1 fz lz hx HG ⊢
  go_wp2_with fail
  have fin : ((w1.setCell ⟨gs, 0, none⟩ (.iface 47 (.pointer (some ⟨g, 0, none⟩)))).setCell ⟨gs, 1, none⟩ (.int .i32 0)).heap[gs]? = some (.cells #[.iface 47 (.pointer (some ⟨g, 0, none⟩)), .int .i32 0] 33 (0, 0)) := heap_setCell (heap_setCell hx 0 _) 1 _
  have hp : ∀ j, (⟨gs, j, none⟩ : Addr).block < w.heap.size → Nowhere (⟨gs, j, none⟩ : Addr).block := fun j h => by simp at h; omega
  have h2 : Chg (fun k => k = gs) w1 ((w1.setCell ⟨gs, 0, none⟩ (.iface 47 (.pointer (some ⟨g, 0, none⟩)))).setCell ⟨gs, 1, none⟩ (.int .i32 0)) := ((Chg.refl (fun k : Nat => k = gs) w1).setCell (fun _ => rfl) _).setCell (fun _ => rfl) _
  refine bodyPost_ret (v := .agg #[.iface 47 (.pointer (some ⟨g, 0, none⟩)), .int .i32 0]) ?_ rfl ⟨g, D, rfl, h2.heap HG.out.2.1 HG.out.2.2, (HG.out.1.setCell (hp 0) _).setCell (hp 1) _⟩
  exact results_c (p := 10) (ty := 33) (by rfl) _ _ _ gs _ (by rfl) (loadEx fin (by rfl))
set_option maxHeartbeats 4000000 in
theorem bdBool (tag : Int) (bb : Bool) (b : Nat) (a : Option Addr) (n c : Nat) (s : ByteArray) (w : World) (ht : tag.tmod 8 = 2) : Calls Tryd.prog 11 #[.int .u8 tag, .bool bb, .float .f64 b, .slice a n c, .string s] w (ExOut 48 #[.bool bb] w) := by
  have sf := store_f64
  have hCC : Chg Nowhere w (w.alloc (.cells #[.nilIface, .int .i32 0] 33)) := (Chg.refl _ w).alloc _
  have h3 : (w.alloc (.cells #[.nilIface, .int .i32 0] 33)).heap[w.heap.size]? = some (.cells #[.nilIface, .int .i32 0] 33 (0, 0)) := heap_at _ _ _ rfl
  have HB := Lib.hid (And.intro h3 hCC)
  clear hCC h3
  go_enter Tryd.func11, Tryd.ntmps11
  go_upto_region 7 with fail
  generalize (w.alloc (.cells _ _)) = w0 at HB ⊢
  go_wp2_with fail
  refine (xBool bb _).mono ?_
  rintro e1 w1 ⟨g, D, rfl, hg, hC⟩
  have hx : w1.heap[w.heap.size]? = some (.cells #[.nilIface, .int .i32 0] 33 (0, 0)) := hC.heap HB.out.1 (fun h => h)
  have e0 := cell_of_heap hx 0
  have e1 := cell_of_heap hx 1
  simp only [List.getElem?_toArray, List.getElem?_cons_succ, List.getElem?_cons_zero] at e0 e1
  have fz : ∀ j, w1.frozen? ⟨w.heap.size, j, none⟩ = false := fun j => frozen_of_heap hx j
  have lz := heap_lt hx
  have hW := HB.out.2.trans hC (fun _ _ h => h)
  have hne : ¬ g = w.heap.size := fun h => by rw [h, hx] at hg; simp at hg
  have HG := Lib.hid (And.intro hW (And.intro hg hne))
  clear hW hg hne hC
  generalize hgs : w.heap.size = gs at e0 e1 fz lz hx HG ⊢
  go_wp2_with fail
  have fin : ((w1.setCell ⟨gs, 0, none⟩ (.iface 48 (.pointer (some ⟨g, 0, none⟩)))).setCell ⟨gs, 1, none⟩ (.int .i32 0)).heap[gs]? = some (.cells #[.iface 48 (.pointer (some ⟨g, 0, none⟩)), .int .i32 0] 33 (0, 0)) := heap_setCell (heap_setCell hx 0 _) 1 _
  have hp : ∀ j, (⟨gs, j, none⟩ : Addr).block < w.heap.size → Nowhere (⟨gs, j, none⟩ : Addr).block := fun j h => by simp at h; omega
  have h2 : Chg (fun k => k = gs) w1 ((w1.setCell ⟨gs, 0, none⟩ (.iface 48 (.pointer (some ⟨g, 0, none⟩)))).setCell ⟨gs, 1, none⟩ (.int .i32 0)) := ((Chg.refl (fun k : Nat => k = gs) w1).setCell (fun _ => rfl) _).setCell (fun _ => rfl) _
  refine bodyPost_ret (v := .agg #[.iface 48 (.pointer (some ⟨g, 0, none⟩)), .int .i32 0]) ?_ rfl ⟨g, D, rfl, h2.heap HG.out.2.1 HG.out.2.2, (HG.out.1.setCell (hp 0) _).setCell (hp 1) _⟩
  exact results_c (p := 10) (ty := 33) (by rfl) _ _ _ gs _ (by rfl) (loadEx fin (by rfl))
set_option maxHeartbeats 4000000 in
theorem bdNum (tag : Int) (bb : Bool) (b : Nat) (a : Option Addr) (n c : Nat) (s : ByteArray) (w : World) (ht : tag.tmod 8 = 3) : Calls Tryd.prog 11 #[.int .u8 tag, .bool bb, .float .f64 b, .slice a n c, .string s] w (ExOut 51 #[.float .f64 b] w) := by
  have sf := store_f64
  have hCC : Chg Nowhere w (w.alloc (.cells #[.nilIface, .int .i32 0] 33)) := (Chg.refl _ w).alloc _
  have h3 : (w.alloc (.cells #[.nilIface, .int .i32 0] 33)).heap[w.heap.size]? = some (.cells #[.nilIface, .int .i32 0] 33 (0, 0)) := heap_at _ _ _ rfl
  have HB := Lib.hid (And.intro h3 hCC)
  clear hCC h3
  go_enter Tryd.func11, Tryd.ntmps11
  go_upto_region 9 with fail
  generalize (w.alloc (.cells _ _)) = w0 at HB ⊢
  go_wp2_with fail
  refine (xNum b _).mono ?_
  rintro e1 w1 ⟨g, D, rfl, hg, hC⟩
  have hx : w1.heap[w.heap.size]? = some (.cells #[.nilIface, .int .i32 0] 33 (0, 0)) := hC.heap HB.out.1 (fun h => h)
  have e0 := cell_of_heap hx 0
  have e1 := cell_of_heap hx 1
  simp only [List.getElem?_toArray, List.getElem?_cons_succ, List.getElem?_cons_zero] at e0 e1
  have fz : ∀ j, w1.frozen? ⟨w.heap.size, j, none⟩ = false := fun j => frozen_of_heap hx j
  have lz := heap_lt hx
  have hW := HB.out.2.trans hC (fun _ _ h => h)
  have hne : ¬ g = w.heap.size := fun h => by rw [h, hx] at hg; simp at hg
  have HG := Lib.hid (And.intro hW (And.intro hg hne))
  clear hW hg hne hC
  generalize hgs : w.heap.size = gs at e0 e1 fz lz hx HG ⊢
  go_wp2_with fail
  have fin : ((w1.setCell ⟨gs, 0, none⟩ (.iface 51 (.pointer (some ⟨g, 0, none⟩)))).setCell ⟨gs, 1, none⟩ (.int .i32 0)).heap[gs]? = some (.cells #[.iface 51 (.pointer (some ⟨g, 0, none⟩)), .int .i32 0] 33 (0, 0)) := heap_setCell (heap_setCell hx 0 _) 1 _
  have hp : ∀ j, (⟨gs, j, none⟩ : Addr).block < w.heap.size → Nowhere (⟨gs, j, none⟩ : Addr).block := fun j h => by simp at h; omega
  have h2 : Chg (fun k => k = gs) w1 ((w1.setCell ⟨gs, 0, none⟩ (.iface 51 (.pointer (some ⟨g, 0, none⟩)))).setCell ⟨gs, 1, none⟩ (.int .i32 0)) := ((Chg.refl (fun k : Nat => k = gs) w1).setCell (fun _ => rfl) _).setCell (fun _ => rfl) _
  refine bodyPost_ret (v := .agg #[.iface 51 (.pointer (some ⟨g, 0, none⟩)), .int .i32 0]) ?_ rfl ⟨g, D, rfl, h2.heap HG.out.2.1 HG.out.2.2, (HG.out.1.setCell (hp 0) _).setCell (hp 1) _⟩
  exact results_c (p := 10) (ty := 33) (by rfl) _ _ _ gs _ (by rfl) (loadEx fin (by rfl))
set_option maxHeartbeats 4000000 in
theorem bdStr (tag : Int) (bb : Bool) (b : Nat) (a : Option Addr) (n c : Nat) (s : ByteArray) (w : World) (ht : tag.tmod 8 = 4) : Calls Tryd.prog 11 #[.int .u8 tag, .bool bb, .float .f64 b, .slice a n c, .string s] w (ExOut 55 #[.slice a n c, .int .i32 0, .bool false, .bool false, .bool false] w) := by
  have sf := store_f64
  have hCC : Chg Nowhere w (w.alloc (.cells #[.nilIface, .int .i32 0] 33)) := (Chg.refl _ w).alloc _
  have h3 : (w.alloc (.cells #[.nilIface, .int .i32 0] 33)).heap[w.heap.size]? = some (.cells #[.nilIface, .int .i32 0] 33 (0, 0)) := heap_at _ _ _ rfl
  have HB := Lib.hid (And.intro h3 hCC)
  clear hCC h3
  go_enter Tryd.func11, Tryd.ntmps11
  go_upto_region 11 with fail
  generalize (w.alloc (.cells _ _)) = w0 at HB ⊢
  go_wp2_with fail
  refine (xStr a n c _).mono ?_
  rintro e1 w1 ⟨g, D, rfl, hg, hC⟩
  have hx : w1.heap[w.heap.size]? = some (.cells #[.nilIface, .int .i32 0] 33 (0, 0)) := hC.heap HB.out.1 (fun h => h)
  have e0 := cell_of_heap hx 0
  have e1 := cell_of_heap hx 1
  simp only [List.getElem?_toArray, List.getElem?_cons_succ, List.getElem?_cons_zero] at e0 e1
  have fz : ∀ j, w1.frozen? ⟨w.heap.size, j, none⟩ = false := fun j => frozen_of_heap hx j
  have lz := heap_lt hx
  have hW := HB.out.2.trans hC (fun _ _ h => h)
  have hne : ¬ g = w.heap.size := fun h => by rw [h, hx] at hg; simp at hg
  have HG := Lib.hid (And.intro hW (And.intro hg hne))
  clear hW hg hne hC
  generalize hgs : w.heap.size = gs at e0 e1 fz lz hx HG ⊢
  go_wp2_with fail
  have fin : ((w1.setCell ⟨gs, 0, none⟩ (.iface 55 (.pointer (some ⟨g, 0, none⟩)))).setCell ⟨gs, 1, none⟩ (.int .i32 0)).heap[gs]? = some (.cells #[.iface 55 (.pointer (some ⟨g, 0, none⟩)), .int .i32 0] 33 (0, 0)) := heap_setCell (heap_setCell hx 0 _) 1 _
  have hp : ∀ j, (⟨gs, j, none⟩ : Addr).block < w.heap.size → Nowhere (⟨gs, j, none⟩ : Addr).block := fun j h => by simp at h; omega
  have h2 : Chg (fun k => k = gs) w1 ((w1.setCell ⟨gs, 0, none⟩ (.iface 55 (.pointer (some ⟨g, 0, none⟩)))).setCell ⟨gs, 1, none⟩ (.int .i32 0)) := ((Chg.refl (fun k : Nat => k = gs) w1).setCell (fun _ => rfl) _).setCell (fun _ => rfl) _
  refine bodyPost_ret (v := .agg #[.iface 55 (.pointer (some ⟨g, 0, none⟩)), .int .i32 0]) ?_ rfl ⟨g, D, rfl, h2.heap HG.out.2.1 HG.out.2.2, (HG.out.1.setCell (hp 0) _).setCell (hp 1) _⟩
  exact results_c (p := 10) (ty := 33) (by rfl) _ _ _ gs _ (by rfl) (loadEx fin (by rfl))
set_option maxHeartbeats 4000000 in
theorem bdBig (tag : Int) (bb : Bool) (b : Nat) (a : Option Addr) (n c : Nat) (s : ByteArray) (w : World) (ht : tag.tmod 8 = 5) : Calls Tryd.prog 11 #[.int .u8 tag, .bool bb, .float .f64 b, .slice a n c, .string s] w (ExOut 58 #[.string s] w) := by
  have sf := store_f64
  have hCC : Chg Nowhere w (w.alloc (.cells #[.nilIface, .int .i32 0] 33)) := (Chg.refl _ w).alloc _
  have h3 : (w.alloc (.cells #[.nilIface, .int .i32 0] 33)).heap[w.heap.size]? = some (.cells #[.nilIface, .int .i32 0] 33 (0, 0)) := heap_at _ _ _ rfl
  have HB := Lib.hid (And.intro h3 hCC)
  clear hCC h3
  go_enter Tryd.func11, Tryd.ntmps11
  go_upto_region 13 with fail
  generalize (w.alloc (.cells _ _)) = w0 at HB ⊢
  go_wp2_with fail
  refine (xBig s _).mono ?_
  rintro e1 w1 ⟨g, D, rfl, hg, hC⟩
  have hx : w1.heap[w.heap.size]? = some (.cells #[.nilIface, .int .i32 0] 33 (0, 0)) := hC.heap HB.out.1 (fun h => h)
  have e0 := cell_of_heap hx 0
  have e1 := cell_of_heap hx 1
  simp only [List.getElem?_toArray, List.getElem?_cons_succ, List.getElem?_cons_zero] at e0 e1
  have fz : ∀ j, w1.frozen? ⟨w.heap.size, j, none⟩ = false := fun j => frozen_of_heap hx j
  have lz := heap_lt hx
  have hW := HB.out.2.trans hC (fun _ _ h => h)
  have hne : ¬ g = w.heap.size := fun h => by rw [h, hx] at hg; simp at hg
  have HG := Lib.hid (And.intro hW (And.intro hg hne))
  clear hW hg hne hC
  generalize hgs : w.heap.size = gs at e0 e1 fz lz hx HG ⊢
  go_wp2_with fail
  have fin : ((w1.setCell ⟨gs, 0, none⟩ (.iface 58 (.pointer (some ⟨g, 0, none⟩)))).setCell ⟨gs, 1, none⟩ (.int .i32 0)).heap[gs]? = some (.cells #[.iface 58 (.pointer (some ⟨g, 0, none⟩)), .int .i32 0] 33 (0, 0)) := heap_setCell (heap_setCell hx 0 _) 1 _
  have hp : ∀ j, (⟨gs, j, none⟩ : Addr).block < w.heap.size → Nowhere (⟨gs, j, none⟩ : Addr).block := fun j h => by simp at h; omega
  have h2 : Chg (fun k => k = gs) w1 ((w1.setCell ⟨gs, 0, none⟩ (.iface 58 (.pointer (some ⟨g, 0, none⟩)))).setCell ⟨gs, 1, none⟩ (.int .i32 0)) := ((Chg.refl (fun k : Nat => k = gs) w1).setCell (fun _ => rfl) _).setCell (fun _ => rfl) _
  refine bodyPost_ret (v := .agg #[.iface 58 (.pointer (some ⟨g, 0, none⟩)), .int .i32 0]) ?_ rfl ⟨g, D, rfl, h2.heap HG.out.2.1 HG.out.2.2, (HG.out.1.setCell (hp 0) _).setCell (hp 1) _⟩
  exact results_c (p := 10) (ty := 33) (by rfl) _ _ _ gs _ (by rfl) (loadEx fin (by rfl))
set_option maxHeartbeats 4000000 in
theorem bdThis (tag : Int) (bb : Bool) (b : Nat) (a : Option Addr) (n c : Nat) (s : ByteArray) (w : World) (ht : tag.tmod 8 = 6) : Calls Tryd.prog 11 #[.int .u8 tag, .bool bb, .float .f64 b, .slice a n c, .string s] w (ExOut 69 #[] w) := by
  have sf := store_f64
  have hCC : Chg Nowhere w (w.alloc (.cells #[.nilIface, .int .i32 0] 33)) := (Chg.refl _ w).alloc _
  have h3 : (w.alloc (.cells #[.nilIface, .int .i32 0] 33)).heap[w.heap.size]? = some (.cells #[.nilIface, .int .i32 0] 33 (0, 0)) := heap_at _ _ _ rfl
  have HB := Lib.hid (And.intro h3 hCC)
  clear hCC h3
  go_enter Tryd.func11, Tryd.ntmps11
  go_upto_region 15 with fail
  generalize (w.alloc (.cells _ _)) = w0 at HB ⊢
  go_wp2_with fail
  refine (xThis _).mono ?_
  rintro e1 w1 ⟨g, D, rfl, hg, hC⟩
  have hx : w1.heap[w.heap.size]? = some (.cells #[.nilIface, .int .i32 0] 33 (0, 0)) := hC.heap HB.out.1 (fun h => h)
  have e0 := cell_of_heap hx 0
  have e1 := cell_of_heap hx 1
  simp only [List.getElem?_toArray, List.getElem?_cons_succ, List.getElem?_cons_zero] at e0 e1
  have fz : ∀ j, w1.frozen? ⟨w.heap.size, j, none⟩ = false := fun j => frozen_of_heap hx j
  have lz := heap_lt hx
  have hW := HB.out.2.trans hC (fun _ _ h => h)
  have hne : ¬ g = w.heap.size := fun h => by rw [h, hx] at hg; simp at hg
  have HG := Lib.hid (And.intro hW (And.intro hg hne))
  clear hW hg hne hC
  generalize hgs : w.heap.size = gs at e0 e1 fz lz hx HG ⊢
  go_wp2_with fail
  have fin : ((w1.setCell ⟨gs, 0, none⟩ (.iface 69 (.pointer (some ⟨g, 0, none⟩)))).setCell ⟨gs, 1, none⟩ (.int .i32 0)).heap[gs]? = some (.cells #[.iface 69 (.pointer (some ⟨g, 0, none⟩)), .int .i32 0] 33 (0, 0)) := heap_setCell (heap_setCell hx 0 _) 1 _
  have hp : ∀ j, (⟨gs, j, none⟩ : Addr).block < w.heap.size → Nowhere (⟨gs, j, none⟩ : Addr).block := fun j h => by simp at h; omega
  have h2 : Chg (fun k => k = gs) w1 ((w1.setCell ⟨gs, 0, none⟩ (.iface 69 (.pointer (some ⟨g, 0, none⟩)))).setCell ⟨gs, 1, none⟩ (.int .i32 0)) := ((Chg.refl (fun k : Nat => k = gs) w1).setCell (fun _ => rfl) _).setCell (fun _ => rfl) _
  refine bodyPost_ret (v := .agg #[.iface 69 (.pointer (some ⟨g, 0, none⟩)), .int .i32 0]) ?_ rfl ⟨g, D, rfl, h2.heap HG.out.2.1 HG.out.2.2, (HG.out.1.setCell (hp 0) _).setCell (hp 1) _⟩
  exact results_c (p := 10) (ty := 33) (by rfl) _ _ _ gs _ (by rfl) (loadEx fin (by rfl))
set_option maxHeartbeats 4000000 in
theorem bdNo (tag : Int) (bb : Bool) (b : Nat) (a : Option Addr) (n c : Nat) (s : ByteArray) (w : World) (ht : tag.tmod 8 = 7) : Calls Tryd.prog 11 #[.int .u8 tag, .bool bb, .float .f64 b, .slice a n c, .string s] w (NilOut w) := by
  have sf := store_f64
  have hCC : Chg Nowhere w (w.alloc (.cells #[.nilIface, .int .i32 0] 33)) := (Chg.refl _ w).alloc _
  have h3 : (w.alloc (.cells #[.nilIface, .int .i32 0] 33)).heap[w.heap.size]? = some (.cells #[.nilIface, .int .i32 0] 33 (0, 0)) := heap_at _ _ _ rfl
  have HB := Lib.hid (And.intro h3 hCC)
  clear hCC h3
  go_enter Tryd.func11, Tryd.ntmps11
  go_upto_region 16 with fail
  generalize (w.alloc (.cells _ _)) = w0 at HB ⊢
  go_wp2_with fail
  refine (xNo _).mono ?_
  rintro e1 w1 ⟨rfl, hC⟩
  have hx : w1.heap[w.heap.size]? = some (.cells #[.nilIface, .int .i32 0] 33 (0, 0)) := hC.heap HB.out.1 (fun h => h)
  have e0 := cell_of_heap hx 0
  have e1 := cell_of_heap hx 1
  simp only [List.getElem?_toArray, List.getElem?_cons_succ, List.getElem?_cons_zero] at e0 e1
  have fz : ∀ j, w1.frozen? ⟨w.heap.size, j, none⟩ = false := fun j => frozen_of_heap hx j
  have lz := heap_lt hx
  have hW := HB.out.2.trans hC (fun _ _ h => h)
  have HG := Lib.hid hW
  clear hW hC
  generalize hgs : w.heap.size = gs at e0 e1 fz lz hx HG ⊢
  go_wp2_with fail
  have fin : ((w1.setCell ⟨gs, 0, none⟩ (.nilIface)).setCell ⟨gs, 1, none⟩ (.int .i32 0)).heap[gs]? = some (.cells #[.nilIface, .int .i32 0] 33 (0, 0)) := heap_setCell (heap_setCell hx 0 _) 1 _
  have hp : ∀ j, (⟨gs, j, none⟩ : Addr).block < w.heap.size → Nowhere (⟨gs, j, none⟩ : Addr).block := fun j h => by simp at h; omega
  refine bodyPost_ret (v := .agg #[.nilIface, .int .i32 0]) ?_ rfl ⟨rfl, (HG.out.setCell (hp 0) _).setCell (hp 1) _⟩
  exact results_c (p := 10) (ty := 33) (by rfl) _ _ _ gs _ (by rfl) (loadEx fin (by rfl))
end Go.Proofs.YtgfeaejpleppkaaDoor
