/-
  Proved: contracts of the resolver's functions where no key matches. No statement of the seat stands here.
-/
import Derived.Test.YtmmpajfajfkpcaaGreatFmtPrem
import Derived.RegionTactic
import Derived.Deep.WholeRow
import Derived.WideShapes
namespace Go.Proofs.YtmmpajfajfkpcaaGreatFmt
open Go.RowKit Go.ChangeAt
set_option linter.unusedSimpArgs false
set_option linter.unusedVariables false
set_option maxRecDepth 100000
def ent (ma : Option Addr) (n mc : Nat) (x y kd : Int) : Array Value := #[.string ⟨#[]⟩, .slice none 0 0, .slice ma n mc, .slice none 0 0, .int .i32 x, .int .i32 y, .int .u8 kd]
def item (k : ByteArray) : Array Value := #[.string k, .string ⟨#[]⟩, .slice none 0 0, .slice none 0 0, .slice none 0 0, .int .i32 0, .int .i32 0, .int .u8 0, .int .i32 0, .int .i32 0]
def Items (w : World) (ma : Option Addr) (n : Nat) (f : Nat → ByteArray) : Prop := n = 0 ∨ ∃ g, ma = some ⟨g, 0, none⟩ ∧ ∀ i, i < n → ∀ q, q < 10 → w.cell? ⟨g, i * 10 + q, none⟩ = (item (f i))[q]?
theorem Items.keep {w w' : World} {ma : Option Addr} {n : Nat} {f : Nat → ByteArray} (h : Items w ma n f) (hc : Chg Nowhere w w') : Items w' ma n f := by
  rcases h with h | ⟨g, e, h⟩
  · exact .inl h
  · refine .inr ⟨g, e, fun i hi q hq => ?_⟩
    have h1 := h i hi q hq
    have hv : (item (f i))[q]? = some ((item (f i))[q]'(by simpa [item] using hq)) := Array.getElem?_eq_getElem _
    rw [hv] at h1 ⊢
    exact hc.cell h1 (fun h => h)
theorem results_ct {fn : Func} {t p : Tmp} {ty : TypeId} (h : fn.results = #[.cell p ty, .tmp t]) (tmps : Array Value) (P : Program) (w : World) (b : Nat) (v : Value)
    (hp : tmps.getD p undef = .pointer (some ⟨b, 0, none⟩)) (hl : (loadVar ty ⟨b, 0, none⟩).run P w = .ok v w) : (results fn tmps).run P w = .ok (.tuple #[v, tmps.getD t undef]) w := by
  have hp2 : tmps[p]?.getD undef = .pointer (some ⟨b, 0, none⟩) := by simpa using hp
  simp [results, h, Result.andThen, hp2, asAddr, hl]
theorem results_ttc {fn : Func} {t u p : Tmp} {ty : TypeId} (h : fn.results = #[.tmp t, .tmp u, .cell p ty]) (tmps : Array Value) (P : Program) (w : World) (b : Nat) (v : Value)
    (hp : tmps.getD p undef = .pointer (some ⟨b, 0, none⟩)) (hl : (loadVar ty ⟨b, 0, none⟩).run P w = .ok v w) : (results fn tmps).run P w = .ok (.tuple #[tmps.getD t undef, tmps.getD u undef, v]) w := by
  have hp2 : tmps[p]?.getD undef = .pointer (some ⟨b, 0, none⟩) := by simpa using hp
  simp [results, h, Result.andThen, hp2, asAddr, hl]
theorem results_c {fn : Func} {p : Tmp} {ty : TypeId} (h : fn.results = #[.cell p ty]) (tmps : Array Value) (P : Program) (w : World) (b : Nat) (v : Value)
    (hp : tmps.getD p undef = .pointer (some ⟨b, 0, none⟩)) (hl : (loadVar ty ⟨b, 0, none⟩).run P w = .ok v w) : (results fn tmps).run P w = .ok v w := by
  have hp2 : tmps[p]?.getD undef = .pointer (some ⟨b, 0, none⟩) := by simpa using hp
  simp [results, h, Result.andThen, hp2, asAddr, hl]
theorem load42 {w : World} {b : Nat} {cs : Array Value} (h : w.heap[b]? = some (.cells cs 42 (0, 0))) (hs : cs.size = 7) : (loadVar 42 ⟨b, 0, none⟩).run Tryz.prog w = .ok (.agg cs) w := by
  refine run_loadVar_row w b 42 42 cs (0, 0) _ h Tryz.underlying42 (by rfl) ?_
  rw [hs]
  kernel_rfl
theorem load47 {w : World} {b : Nat} {cs : Array Value} (h : w.heap[b]? = some (.cells cs 47 (0, 0))) (hs : cs.size = 5) : (loadVar 47 ⟨b, 0, none⟩).run Tryz.prog w = .ok (.agg cs) w := by
  refine run_loadVar_row w b 47 47 cs (0, 0) _ h Tryz.underlying47 (by rfl) ?_
  rw [hs]
  kernel_rfl
theorem heap_at (w : World) (p : Obj) (k : Nat) (hk : k = w.heap.size) : (w.alloc p).heap[k]? = some p := by
  subst hk
  exact heap_alloc_new w p
theorem heap_keep {w : World} {k : Nat} {o : Obj} (h : w.heap[k]? = some o) (p : Obj) : (w.alloc p).heap[k]? = some o := (heap_alloc_old _ _ (heap_lt h)).trans h
def st7 (wr : World) (b : Nat) (a0 a1 a2 a3 a4 a5 a6 : Value) : World := ((((((wr.setCell ⟨b, 0, none⟩ a0).setCell ⟨b, 1, none⟩ a1).setCell ⟨b, 2, none⟩ a2).setCell ⟨b, 3, none⟩ a3).setCell ⟨b, 4, none⟩ a4).setCell ⟨b, 5, none⟩ a5).setCell ⟨b, 6, none⟩ a6
theorem st7_heap {wr : World} {b : Nat} {z0 z1 z2 z3 z4 z5 z6 : Value} (h : wr.heap[b]? = some (.cells #[z0, z1, z2, z3, z4, z5, z6] 42 (0, 0))) (a0 a1 a2 a3 a4 a5 a6 : Value) : (st7 wr b a0 a1 a2 a3 a4 a5 a6).heap[b]? = some (.cells #[a0, a1, a2, a3, a4, a5, a6] 42 (0, 0)) := by
  unfold st7
  have h1 := heap_setCell h 0 a0
  have h2 := heap_setCell h1 1 a1
  have h3 := heap_setCell h2 2 a2
  have h4 := heap_setCell h3 3 a3
  have h5 := heap_setCell h4 4 a4
  have h6 := heap_setCell h5 5 a5
  have h7 := heap_setCell h6 6 a6
  rw [h7]
  rfl
theorem st7_chg {w wr : World} {b : Nat} (h : Chg Nowhere w wr) (hb : w.heap.size ≤ b) (a0 a1 a2 a3 a4 a5 a6 : Value) : Chg Nowhere w (st7 wr b a0 a1 a2 a3 a4 a5 a6) := by
  unfold st7
  have hp : ∀ j, (⟨b, j, none⟩ : Addr).block < w.heap.size → Nowhere (⟨b, j, none⟩ : Addr).block := fun j h => by simp at h; omega
  exact ((((((h.setCell (hp 0) a0).setCell (hp 1) a1).setCell (hp 2) a2).setCell (hp 3) a3).setCell (hp 4) a4).setCell (hp 5) a5).setCell (hp 6) a6
def NoKey (w : World) (e : Ending) (w' : World) : Prop := e = .returned (.tuple #[.agg #[.string ⟨#[]⟩, .slice none 0 0, .slice none 0 0, .slice none 0 0, .int .i32 0, .int .i32 0, .int .u8 0], .bool false]) ∧ Chg Nowhere w w'
set_option maxHeartbeats 8000000 in
theorem value20 (ma : Option Addr) (n mc : Nat) (f : Nat → ByteArray) (x y kd : Int) (s : ByteArray) (w : World) (hI : Items w ma n f) (hne : ∀ i, i < n → f i ≠ s) (hn : n ≤ 1048576) :
    Calls Tryz.prog 20 #[.agg (ent ma n mc x y kd), .string s] w (NoKey w) := by
  have HI := Lib.hid hI
  have Hne := Lib.hid hne
  clear hI hne
  unfold ent
  go_enter Tryz.func20, Tryz.ntmps20
  go_wp2_with fail
  have Hc0 : Hid (Chg Nowhere w ((w.alloc (.cells #[.string ⟨#[]⟩, .slice none 0 0, .slice ma n mc, .slice none 0 0, .int .i32 x, .int .i32 y, .int .u8 kd] 42)).alloc (.cells #[.string ⟨#[]⟩, .slice none 0 0, .slice none 0 0, .slice none 0 0, .int .i32 0, .int .i32 0, .int .u8 0] 42))) := Lib.hid (((Chg.refl _ w).alloc _).alloc _)
  have Hz : Hid (((w.alloc (.cells #[.string ⟨#[]⟩, .slice none 0 0, .slice ma n mc, .slice none 0 0, .int .i32 x, .int .i32 y, .int .u8 kd] 42)).alloc (.cells #[.string ⟨#[]⟩, .slice none 0 0, .slice none 0 0, .slice none 0 0, .int .i32 0, .int .i32 0, .int .u8 0] 42)).heap[w.heap.size + 1]? = some (.cells #[.string ⟨#[]⟩, .slice none 0 0, .slice none 0 0, .slice none 0 0, .int .i32 0, .int .i32 0, .int .u8 0] 42)) := Lib.hid (heap_at _ _ _ (by simp))
  go_loopw [11] (fun i wr => ∃ k : Nat, k ≤ n ∧ i = .int .i64 k ∧ Chg Nowhere ((w.alloc (.cells #[.string ⟨#[]⟩, .slice none 0 0, .slice ma n mc, .slice none 0 0, .int .i32 x, .int .i32 y, .int .u8 kd] 42)).alloc (.cells #[.string ⟨#[]⟩, .slice none 0 0, .slice none 0 0, .slice none 0 0, .int .i32 0, .int .i32 0, .int .u8 0] 42)) wr) (fun i _ => n - (intOf i).toNat)
  case atStart => exact ⟨0, by omega, rfl, Chg.refl _ _⟩
  case round =>
    obtain ⟨k, hk, rfl, hch⟩ := hrel
    have hsz := hch.size
    simp at hsz
    by_cases hlt : k < n
    · rcases HI.out with h0 | ⟨g, rfl, hR⟩
      · omega
      have hcw := Hc0.out.trans hch (fun _ _ h => h)
      have cc : ∀ q, q < 10 → wr.cell? ⟨g, k * 10 + q, none⟩ = (item (f k))[q]? := fun q hq => by
        have h1 := hR k hlt q hq
        have hv : (item (f k))[q]? = some ((item (f k))[q]'(by simpa [item] using hq)) := Array.getElem?_eq_getElem _
        rw [hv] at h1 ⊢
        exact hcw.cell h1 (fun h => h)
      have c0 := cc 0 (by decide)
      have c1 := cc 1 (by decide)
      have c2 := cc 2 (by decide)
      have c3 := cc 3 (by decide)
      have c4 := cc 4 (by decide)
      have c5 := cc 5 (by decide)
      have c6 := cc 6 (by decide)
      have c7 := cc 7 (by decide)
      have c8 := cc 8 (by decide)
      have c9 := cc 9 (by decide)
      simp only [item, List.getElem?_toArray, List.getElem?_cons_succ, List.getElem?_cons_zero, Nat.add_zero] at c0 c1 c2 c3 c4 c5 c6 c7 c8 c9
      have hne := Hne.out k hlt
      have e1 : ((f k).toList == s.toList) = false := by
        refine beq_eq_false_iff_ne.2 fun e => hne ?_
        rw [ByteArray.toList_eq, ByteArray.toList_eq] at e
        exact WideShapes.bytes_inj e
      have Hch := Lib.hid hch
      clear cc hR hch hcw hne
      have hx1 : (k : Int) < (n : Int) := by omega
      have hx0 : (0 : Int) ≤ (k : Int) := by omega
      go_wp2_with fail
      go_roundw
      case rel => exact ⟨k + 1, by omega, by go_num, Hch.out.alloc _⟩
      case measure => simp [intOf]; omega
    · have hx1 : ¬ (k : Int) < (n : Int) := by omega
      have hz := hch.heap Hz.out (fun h => h)
      have z0 := cell_of_heap hz 0
      have z1 := cell_of_heap hz 1
      have z2 := cell_of_heap hz 2
      have z3 := cell_of_heap hz 3
      have z4 := cell_of_heap hz 4
      have z5 := cell_of_heap hz 5
      have z6 := cell_of_heap hz 6
      simp at z0 z1 z2 z3 z4 z5 z6
      have fz : ∀ j, wr.frozen? ⟨w.heap.size + 1, j, none⟩ = false := fun j => frozen_of_heap hz j
      have Hzz := Lib.hid hz
      have Hch := Lib.hid hch
      clear hch hz
      go_wp2_with fail
      refine bodyPost_ret (v := .tuple #[.agg #[.string ⟨#[]⟩, .slice none 0 0, .slice none 0 0, .slice none 0 0, .int .i32 0, .int .i32 0, .int .u8 0], .bool false]) ?_ rfl ⟨rfl, st7_chg (Hc0.out.trans Hch.out (fun _ _ h => h)) (by omega) _ _ _ _ _ _ _⟩
      exact (results_ct (t := 5) (p := 4) (ty := 42) (by rfl) _ _ _ (w.heap.size + 1) _ (by rfl) (load42 (st7_heap Hzz.out _ _ _ _ _ _ _) (by rfl))).trans (by rfl)
end Go.Proofs.YtmmpajfajfkpcaaGreatFmt
