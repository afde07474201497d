/-
  Proved: contract of ExprToConstValue at a number. No statement of the seat stands here.
-/
import Derived.Test.YtgfeaejpleppkaaDoorJa
import Derived.Test.YtgfeaejpleppkaaDoorKd
namespace Go.Proofs.YtgfeaejpleppkaaDoor
open Go.RowKit Go.ChangeAt
set_option linter.unusedSimpArgs false
set_option linter.unusedVariables false
set_option maxRecDepth 100000
def NotInl (b : Nat) : Prop := (∀ n, floatToIntVal .f64 b .i64 = some n → (FloatKind.f64.format.order b (floatOfInt .f64 n) == some .eq) = false) ∧ 8 < (ffText b).length
def cvZero : Array Value := #[.float .f64 0, .slice none 0 0, .int .u8 0]
def NumOut (b : Nat) (w : World) (e : Ending) (w' : World) : Prop := ∃ r : Bool, e = .returned (.agg (if r then #[.float .f64 b, .slice none 0 0, .int .u8 5] else cvZero)) ∧ Chg Nowhere w w' ∧ (r = false → NotInl b) ∧ (r = true → ¬ NotS b)
theorem asN1 (v : Value) (w : World) : (Instr.typeAssert (.iface 51 v) 29 46 true).run Tryd.prog w = .ok (.tuple #[.pointer none, .bool false]) w := by kernel_rfl
theorem asN2 (v : Value) (w : World) : (Instr.typeAssert (.iface 51 v) 29 47 true).run Tryd.prog w = .ok (.tuple #[.pointer none, .bool false]) w := by kernel_rfl
theorem asN3 (v : Value) (w : World) : (Instr.typeAssert (.iface 51 v) 29 48 true).run Tryd.prog w = .ok (.tuple #[.pointer none, .bool false]) w := by kernel_rfl
theorem asN4 (p : Option Addr) (w : World) : (Instr.typeAssert (.iface 51 (.pointer p)) 29 51 true).run Tryd.prog w = .ok (.tuple #[.pointer p, .bool true]) w := by kernel_rfl
theorem asN5 (v : Value) (w : World) : (Instr.typeAssert (.iface 51 v) 29 55 true).run Tryd.prog w = .ok (.tuple #[.pointer none, .bool false]) w := by kernel_rfl
theorem asN6 (v : Value) (w : World) : (Instr.typeAssert (.iface 51 v) 29 58 true).run Tryd.prog w = .ok (.tuple #[.pointer none, .bool false]) w := by kernel_rfl
theorem store_f64 (a : Addr) (b : Nat) (w : World) : (store a (.float .f64 b)).run Tryd.prog w = stored Tryd.prog w a (.float .f64 b) .plain := run_store Tryd.prog w a _ .plain rfl
theorem results_c {fn : Func} {p : Tmp} {ty : TypeId} (h : fn.results = #[.cell p ty]) (tmps : Array Value) (P : Program) (w : World) (b : Nat) (v : Value)
    (hp : tmps.getD p undef = .pointer (some ⟨b, 0, none⟩)) (hl : (loadVar ty ⟨b, 0, none⟩).run P w = .ok v w) : (results fn tmps).run P w = .ok v w := by
  have hp2 : tmps[p]?.getD undef = .pointer (some ⟨b, 0, none⟩) := by simpa using hp
  simp [results, h, Result.andThen, hp2, asAddr, hl]
theorem loadCV {w : World} {b : Nat} {cs : Array Value} (h : w.heap[b]? = some (.cells cs 26 (0, 0))) (hs : cs.size = 3) : (loadVar 26 ⟨b, 0, none⟩).run Tryd.prog w = .ok (.agg cs) w := by
  refine run_loadVar_row w b 26 26 cs (0, 0) _ h Tryd.underlying26 (by rfl) ?_
  rw [hs]
  kernel_rfl
def st3 (wr : World) (b : Nat) (a0 a1 a2 : Value) : World := ((wr.setCell ⟨b, 0, none⟩ a0).setCell ⟨b, 1, none⟩ a1).setCell ⟨b, 2, none⟩ a2
theorem st3_heap {wr : World} {b : Nat} {T : TypeId} {z0 z1 z2 : Value} (h : wr.heap[b]? = some (.cells #[z0, z1, z2] T (0, 0))) (a0 a1 a2 : Value) : (st3 wr b a0 a1 a2).heap[b]? = some (.cells #[a0, a1, a2] T (0, 0)) := by
  unfold st3
  have h3 := heap_setCell (heap_setCell (heap_setCell h 0 a0) 1 a1) 2 a2
  rw [h3]
  rfl
theorem st3_chg {w wr : World} {b : Nat} (h : Chg Nowhere w wr) (hb : w.heap.size ≤ b) (a0 a1 a2 : Value) : Chg Nowhere w (st3 wr b a0 a1 a2) := by
  unfold st3
  have hp : ∀ j, (⟨b, j, none⟩ : Addr).block < w.heap.size → Nowhere (⟨b, j, none⟩ : Addr).block := fun j h => by simp at h; omega
  exact ((h.setCell (hp 0) a0).setCell (hp 1) a1).setCell (hp 2) a2
set_option maxHeartbeats 4000000 in
theorem e2cNum (g b : Nat) (loc : Int) (w : World) (hg : g < w.heap.size) (hc : w.cell? ⟨g, 0, none⟩ = some (.float .f64 b)) (hb : b < 18446744073709551616) (hz : (∃ n, floatToIntVal .f64 b .i64 = some n ∧ (FloatKind.f64.format.order b (floatOfInt .f64 n) == some .eq) = true) ∨ fE b = 2047 ∨ fMant b ≠ 0)
    (hT : TabP w) (hU : Lib.TabIs Tryd.prog w "internal/strconv.uint64pow10" .u64 Lib.pow10Tab) :
    Calls Tryd.prog 6 #[.agg #[.iface 51 (.pointer (some ⟨g, 0, none⟩)), .int .i32 loc]] w (NumOut b w) := by
  have a1 := asN1 (.pointer (some ⟨g, 0, none⟩))
  have a2 := asN2 (.pointer (some ⟨g, 0, none⟩))
  have a3 := asN3 (.pointer (some ⟨g, 0, none⟩))
  have a4 := asN4 (some ⟨g, 0, none⟩)
  have a5 := asN5 (.pointer (some ⟨g, 0, none⟩))
  have a6 := asN6 (.pointer (some ⟨g, 0, none⟩))
  have sf := store_f64
  have HZ := Lib.hid (And.intro hb hz)
  have HT := Lib.hid (And.intro hT hU)
  clear hb hz hT hU
  rcases hv : floatToIntVal .f64 b .i64 with _ | n
  · obtain ⟨F, hcv⟩ : ∃ F : World → Int, ∀ w, (convert 22 2 (.float .f64 b)).run Tryd.prog w = .ok (.int .i64 (F w)) w.drew :=
      ⟨fun w => Classical.choose (conv_any 22 2 Tryd.prog b w Tryd.underlying22 Tryd.underlying2 hv), fun w => Classical.choose_spec (conv_any 22 2 Tryd.prog b w Tryd.underlying22 Tryd.underlying2 hv)⟩
    have HV := Lib.hid hv
    clear hv
    go_enter Tryd.func6, Tryd.ntmps6
    go_upto_region 16 with fail
    clear hcv
    generalize F _ = n
    cases hq : (FloatKind.f64.format.order b (floatOfInt .f64 n) == some .eq)
    · go_wp2_with fail
      have hC : Chg Nowhere w (((w.alloc (.cells #[.iface 51 (.pointer (some ⟨g, 0, none⟩)), .int .i32 loc] 33)).alloc (.cells #[.float .f64 0, .slice none 0 0, .int .u8 0] 26)).drew) := (((Chg.refl _ w).alloc _).alloc _).drew
      refine (ff15 b HZ.out.1 (by rcases HZ.out.2 with ⟨n', h1, h2⟩ | h; (rw [HV.out] at h1; cases h1); exact h) _ (HT.out.1.keep hC) (tabIs_keep HT.out.1 HT.out.2 hC)).mono ?_
      rintro e2 w2 ⟨rfl, hc2⟩
      have hcc := hc2.cell (hC.cell hc (fun h => h)) (fun h => h)
      have hb2 : w2.heap[w.heap.size + 1]? = some (.cells cvZero 26 (0, 0)) := hc2.heap (heap_at _ _ _ (by simp)) (fun h => h)
      have r0 := cell_of_heap hb2 0
      have r1 := cell_of_heap hb2 1
      have r2 := cell_of_heap hb2 2
      simp only [cvZero, List.getElem?_toArray, List.getElem?_cons_succ, List.getElem?_cons_zero] at r0 r1 r2
      have fz : ∀ j, w2.frozen? ⟨w.heap.size + 1, j, none⟩ = false := fun j => frozen_of_heap hb2 j
      have lz := heap_lt hb2
      have hCC : Chg Nowhere w w2 := hC.trans hc2 (fun _ _ h => h)
      have HB := Lib.hid (And.intro hb2 hCC)
      generalize hg2 : w.heap.size = gs at r0 r1 r2 fz lz HB ⊢
      have hne : g ≠ gs + 1 := by omega
      have HG := Lib.hid hg2
      clear hC hc2 hb2 hCC hg2 hc hg
      by_cases h8 : 8 < (ffText b).length
      · have x8 : ¬ (((⟨⟨ffText b⟩⟩ : ByteArray).size : Nat) : Int) ≤ 8 := by show ¬ (((ffText b).length : Nat) : Int) ≤ 8; omega
        have H8 := Lib.hid h8
        generalize (⟨⟨ffText b⟩⟩ : ByteArray) = tx at x8 ⊢
        clear h8
        go_wp2_with fail
        refine bodyPost_ret (v := .agg cvZero) ?_ rfl ⟨false, rfl, st3_chg HB.out.2 (by have := HG.out; omega) _ _ _, fun _ => ⟨(fun n' h => by rw [HV.out] at h; cases h), H8.out⟩, fun h => by cases h⟩
        exact results_c (p := 2) (ty := 26) (by rfl) _ _ _ (gs + 1) (.agg cvZero) (by rfl) (loadCV (st3_heap HB.out.1 _ _ _) (by rfl))
      · have x8 : (((⟨⟨ffText b⟩⟩ : ByteArray).size : Nat) : Int) ≤ 8 := by show (((ffText b).length : Nat) : Int) ≤ 8; omega
        generalize (⟨⟨ffText b⟩⟩ : ByteArray) = tx at x8 ⊢
        clear h8
        go_wp2_with fail
        refine bodyPost_ret (v := .agg #[.float .f64 b, .slice none 0 0, .int .u8 5]) ?_ rfl ⟨true, rfl, st3_chg HB.out.2 (by have := HG.out; omega) _ _ _, (fun h => by cases h), fun _ h => by obtain ⟨⟨n', h1, _⟩, _⟩ := h; rw [HV.out] at h1; cases h1⟩
        exact results_c (p := 2) (ty := 26) (by rfl) _ _ _ (gs + 1) (.agg #[.float .f64 b, .slice none 0 0, .int .u8 5]) (by rfl) (loadCV (st3_heap HB.out.1 _ _ _) (by rfl))
    ·
      have hCC : Chg Nowhere w (((w.alloc (.cells #[.iface 51 (.pointer (some ⟨g, 0, none⟩)), .int .i32 loc] 33)).alloc (.cells #[.float .f64 0, .slice none 0 0, .int .u8 0] 26)).drew) := (((Chg.refl _ w).alloc _).alloc _).drew
      have hb2 : (((w.alloc (.cells #[.iface 51 (.pointer (some ⟨g, 0, none⟩)), .int .i32 loc] 33)).alloc (.cells #[.float .f64 0, .slice none 0 0, .int .u8 0] 26)).drew).heap[w.heap.size + 1]? = some (.cells cvZero 26 (0, 0)) := heap_at _ _ _ (by simp)
      have HB := Lib.hid (And.intro hb2 hCC)
      clear hb2 hCC
      go_upto_region 17 with fail
      generalize ((w.alloc (.cells _ _)).alloc (.cells _ _)).drew = w0 at HB ⊢
      have hb2 := HB.out.1
      have r0 := cell_of_heap hb2 0
      have r1 := cell_of_heap hb2 1
      have r2 := cell_of_heap hb2 2
      simp only [cvZero, List.getElem?_toArray, List.getElem?_cons_succ, List.getElem?_cons_zero] at r0 r1 r2
      have fz : ∀ j, w0.frozen? ⟨w.heap.size + 1, j, none⟩ = false := fun j => frozen_of_heap hb2 j
      have lz := heap_lt hb2
      have hcc := HB.out.2.cell hc (fun h => h)
      generalize hg2 : w.heap.size = gs at r0 r1 r2 fz lz HB ⊢
      have HG := Lib.hid hg2
      clear hb2 hg2 hc hg
      go_wp2_with fail
      refine bodyPost_ret (v := .agg #[.float .f64 b, .slice none 0 0, .int .u8 5]) ?_ rfl ⟨true, rfl, st3_chg HB.out.2 (by have := HG.out; omega) _ _ _, (fun h => by cases h), fun _ h => by obtain ⟨⟨n', h1, _⟩, _⟩ := h; rw [HV.out] at h1; cases h1⟩
      exact results_c (p := 2) (ty := 26) (by rfl) _ _ _ (gs + 1) (.agg #[.float .f64 b, .slice none 0 0, .int .u8 5]) (by rfl) (loadCV (st3_heap HB.out.1 _ _ _) (by rfl))
  · have hcv : ∀ w, (convert 22 2 (.float .f64 b)).run Tryd.prog w = .ok (.int .i64 n) w := fun w => run_convert_float_int w _ _ .f64 .i64 b n (by rw [Tryd.underlying22]; rfl) Tryd.underlying2 hv
    have HV := Lib.hid hv
    clear hv
    cases hq : (FloatKind.f64.format.order b (floatOfInt .f64 n) == some .eq)
    · go_enter Tryd.func6, Tryd.ntmps6
      go_wp2_with fail
      have hC : Chg Nowhere w ((w.alloc (.cells #[.iface 51 (.pointer (some ⟨g, 0, none⟩)), .int .i32 loc] 33)).alloc (.cells #[.float .f64 0, .slice none 0 0, .int .u8 0] 26)) := ((Chg.refl _ w).alloc _).alloc _
      refine (ff15 b HZ.out.1 (by rcases HZ.out.2 with ⟨n', h1, h2⟩ | h; (rw [HV.out] at h1; cases h1; rw [hq] at h2; cases h2); exact h) _ (HT.out.1.keep hC) (tabIs_keep HT.out.1 HT.out.2 hC)).mono ?_
      rintro e2 w2 ⟨rfl, hc2⟩
      have hcc := hc2.cell (hC.cell hc (fun h => h)) (fun h => h)
      have hb2 : w2.heap[w.heap.size + 1]? = some (.cells cvZero 26 (0, 0)) := hc2.heap (heap_at _ _ _ (by simp)) (fun h => h)
      have r0 := cell_of_heap hb2 0
      have r1 := cell_of_heap hb2 1
      have r2 := cell_of_heap hb2 2
      simp only [cvZero, List.getElem?_toArray, List.getElem?_cons_succ, List.getElem?_cons_zero] at r0 r1 r2
      have fz : ∀ j, w2.frozen? ⟨w.heap.size + 1, j, none⟩ = false := fun j => frozen_of_heap hb2 j
      have lz := heap_lt hb2
      have hCC : Chg Nowhere w w2 := hC.trans hc2 (fun _ _ h => h)
      have HB := Lib.hid (And.intro hb2 hCC)
      generalize hg2 : w.heap.size = gs at r0 r1 r2 fz lz HB ⊢
      have hne : g ≠ gs + 1 := by omega
      have HG := Lib.hid hg2
      clear hC hc2 hb2 hCC hg2 hc hg
      by_cases h8 : 8 < (ffText b).length
      · have x8 : ¬ (((⟨⟨ffText b⟩⟩ : ByteArray).size : Nat) : Int) ≤ 8 := by show ¬ (((ffText b).length : Nat) : Int) ≤ 8; omega
        have H8 := Lib.hid h8
        generalize (⟨⟨ffText b⟩⟩ : ByteArray) = tx at x8 ⊢
        clear h8
        go_wp2_with fail
        refine bodyPost_ret (v := .agg cvZero) ?_ rfl ⟨false, rfl, st3_chg HB.out.2 (by have := HG.out; omega) _ _ _, fun _ => ⟨fun n' h => by rw [HV.out] at h; cases h; exact hq, H8.out⟩, fun h => by cases h⟩
        exact results_c (p := 2) (ty := 26) (by rfl) _ _ _ (gs + 1) (.agg cvZero) (by rfl) (loadCV (st3_heap HB.out.1 _ _ _) (by rfl))
      · have x8 : (((⟨⟨ffText b⟩⟩ : ByteArray).size : Nat) : Int) ≤ 8 := by show (((ffText b).length : Nat) : Int) ≤ 8; omega
        have H8 := Lib.hid h8
        generalize (⟨⟨ffText b⟩⟩ : ByteArray) = tx at x8 ⊢
        clear h8
        go_wp2_with fail
        refine bodyPost_ret (v := .agg #[.float .f64 b, .slice none 0 0, .int .u8 5]) ?_ rfl ⟨true, rfl, st3_chg HB.out.2 (by have := HG.out; omega) _ _ _, (fun h => by cases h), fun _ h => H8.out h.2⟩
        exact results_c (p := 2) (ty := 26) (by rfl) _ _ _ (gs + 1) (.agg #[.float .f64 b, .slice none 0 0, .int .u8 5]) (by rfl) (loadCV (st3_heap HB.out.1 _ _ _) (by rfl))
    · have hCC : Chg Nowhere w ((w.alloc (.cells #[.iface 51 (.pointer (some ⟨g, 0, none⟩)), .int .i32 loc] 33)).alloc (.cells #[.float .f64 0, .slice none 0 0, .int .u8 0] 26)) := ((Chg.refl _ w).alloc _).alloc _
      have hb2 : (((w.alloc (.cells #[.iface 51 (.pointer (some ⟨g, 0, none⟩)), .int .i32 loc] 33)).alloc (.cells #[.float .f64 0, .slice none 0 0, .int .u8 0] 26))).heap[w.heap.size + 1]? = some (.cells cvZero 26 (0, 0)) := heap_at _ _ _ (by simp)
      have HB := Lib.hid (And.intro hb2 hCC)
      clear hb2 hCC
      go_enter Tryd.func6, Tryd.ntmps6
      go_upto_region 17 with fail
      generalize ((w.alloc (.cells _ _)).alloc (.cells _ _)) = w0 at HB ⊢
      have hb2 := HB.out.1
      have r0 := cell_of_heap hb2 0
      have r1 := cell_of_heap hb2 1
      have r2 := cell_of_heap hb2 2
      simp only [cvZero, List.getElem?_toArray, List.getElem?_cons_succ, List.getElem?_cons_zero] at r0 r1 r2
      have fz : ∀ j, w0.frozen? ⟨w.heap.size + 1, j, none⟩ = false := fun j => frozen_of_heap hb2 j
      have lz := heap_lt hb2
      have hcc := HB.out.2.cell hc (fun h => h)
      generalize hg2 : w.heap.size = gs at r0 r1 r2 fz lz HB ⊢
      have HG := Lib.hid hg2
      clear hb2 hg2 hc hg
      go_wp2_with fail
      refine bodyPost_ret (v := .agg #[.float .f64 b, .slice none 0 0, .int .u8 5]) ?_ rfl ⟨true, rfl, st3_chg HB.out.2 (by have := HG.out; omega) _ _ _, (fun h => by cases h), fun _ h => by obtain ⟨⟨n', h1, h2⟩, _⟩ := h; rw [HV.out] at h1; cases h1; rw [hq] at h2; cases h2⟩
      exact results_c (p := 2) (ty := 26) (by rfl) _ _ _ (gs + 1) (.agg #[.float .f64 b, .slice none 0 0, .int .u8 5]) (by rfl) (loadCV (st3_heap HB.out.1 _ _ _) (by rfl))
end Go.Proofs.YtgfeaejpleppkaaDoor
