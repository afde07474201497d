/-
  Proved: contracts of the entry's building and of ZZimportsResolve. No statement of the seat stands here.
-/
import Derived.Test.YtmmpajfajfkpcaaGreatFmtRes3
namespace Go.Proofs.YtmmpajfajfkpcaaGreatFmt
open Go.RowKit Go.ChangeAt
set_option linter.unusedSimpArgs false
set_option linter.unusedVariables false
set_option maxRecDepth 100000
theorem made_get (z : Array Value) (s n i q : Nat) (hz : z.size = s) (hi : i < n) (hq : q < s) : (madeCells z (n * s))[i * s + q]? = z[q]? := by
  have h1 : i * s + q < n * s := by
    have : (i + 1) * s ≤ n * s := Nat.mul_le_mul_right _ hi
    rw [Nat.add_mul, Nat.one_mul] at this
    omega
  have h2 : (i * s + q) % s = q := by rw [Nat.mul_comm, Nat.mul_add_mod, Nat.mod_eq_of_lt hq]
  unfold madeCells
  rw [Array.getElem?_map, Array.getElem?_range, if_pos h1]
  simp only [Option.map_some, hz, h2]
  have h3 : q < z.size := by omega
  rw [Array.getElem!_eq_getD, Array.getD_eq_getD_getElem?, Array.getElem?_eq_getElem h3]
  rfl
theorem info57 : (Tryz.prog.info? 57).map (fun i => (i.zero, i.size, i.bytes)) = some (some (.agg #[.string ⟨#[]⟩, .string ⟨#[]⟩, .slice none 0 0, .slice none 0 0, .slice none 0 0, .int .i32 0, .int .i32 0, .int .u8 0, .int .i32 0, .int .i32 0]), 10, 128) := by kernel_rfl
theorem make34 (n : Nat) (hn : n ≤ 1048576) (W : World) : (Instr.makeSlice 34 (.int .i64 n) (.int .i64 n)).run Tryz.prog W = .ok (.slice (some ⟨W.heap.size, 0, none⟩) n n) (W.alloc (.cells (madeCells (item ⟨#[]⟩) (n * 10)) 57)) := by
  obtain ⟨i0, hi, hz0, hz1, hz2⟩ := info_parts info57
  have h := run_make (P := Tryz.prog) W 34 57 i0 _ Tryz.underlying34 hi hz0 .i64 .i64 n n (by omega) (by omega) (by rw [hz2]; omega) (by omega)
  rw [h, hz1]
  simp [Value.cells, item]
theorem neq_nil (a : Option Addr) (n c : Nat) (W : World) : (binOp .neq 22 (.slice a n c) (.slice none 0 0)).run Tryz.prog W = .ok (.bool !a.isNone) W := by
  simp only [binOp]
  simp [Op.equal, Op.maxDepth, Lib.run_equalIn_slice_nil W 9999 22 9 a n c 0 0 Tryz.underlying22]
/-- The first k items are laid in block g. -/
structure ItemsTo (w wr : World) (g n k : Nat) (f : Nat → ByteArray) : Prop where
  r : wr.heap[w.heap.size]? = some (.cells #[.string ⟨#[]⟩, .slice none 0 0, .slice none 0 0, .slice none 0 0, .int .i32 0, .int .i32 0, .int .u8 0] 42 (0, 0))
  blk : ∃ cur : Array Value, wr.heap[g]? = some (.cells cur 57 (0, 0)) ∧ cur.size = n * 10 ∧ (∀ i, i < k → ∀ q, q < 10 → cur[i * 10 + q]? = (item (f i))[q]?) ∧ ∀ i, k ≤ i → i < n → ∀ q, q < 10 → cur[i * 10 + q]? = (item ⟨#[]⟩)[q]?
  chg : Chg Nowhere w wr
  ne : g ≠ w.heap.size ∧ w.heap.size ≤ g
theorem ItemsTo.start (w : World) (n : Nat) (f : Nat → ByteArray) : ItemsTo w ((w.alloc (.cells #[.string ⟨#[]⟩, .slice none 0 0, .slice none 0 0, .slice none 0 0, .int .i32 0, .int .i32 0, .int .u8 0] 42)).alloc (.cells (madeCells (item ⟨#[]⟩) (n * 10)) 57)) (w.heap.size + 1) n 0 f :=
  ⟨heap_keep (heap_at w _ _ rfl) _, ⟨_, heap_at _ _ _ (by simp), size_madeCells _ _, fun i hi => by omega, fun i _ hi q hq => made_get (item ⟨#[]⟩) 10 n i q rfl hi hq⟩, ((Chg.refl _ w).alloc _).alloc _, by omega, by omega⟩
theorem ItemsTo.step {w wr : World} {g n k : Nat} {f : Nat → ByteArray} (h : ItemsTo w wr g n k f) (hk : k < n) : ItemsTo w (wr.setCell ⟨g, k * 10, none⟩ (.string (f k))) g n (k + 1) f := by
  obtain ⟨cur, b1, b2, b3, b4⟩ := h.blk
  have hc : Chg (fun j => j = g) wr (wr.setCell ⟨g, k * 10, none⟩ (.string (f k))) := (Chg.refl (fun j => j = g) wr).setCell (p := ⟨g, k * 10, none⟩) (fun _ => rfl) _
  have hne := h.ne
  have hb : k * 10 + 10 ≤ cur.size := by rw [b2]; have := Nat.mul_le_mul_right 10 (show k + 1 ≤ n by omega); omega
  refine ⟨hc.heap h.r (fun e => hne.1 e.symm), ⟨_, heap_setCell b1 (k * 10) _, by simp [b2], fun i hi q hq => ?_, fun i hi1 hi2 q hq => ?_⟩, h.chg.trans hc (fun j hj e => by omega), hne⟩
  · by_cases e : i < k
    · rw [Array.getElem?_setIfInBounds_ne (by omega)]; exact b3 i e q hq
    · obtain rfl : i = k := by omega
      by_cases e0 : q = 0
      · subst e0
        rw [Nat.add_zero, Array.getElem?_setIfInBounds, if_pos rfl, if_pos (by omega)]
        rfl
      · rw [Array.getElem?_setIfInBounds_ne (by omega), b4 i (Nat.le_refl _) hk q hq]
        obtain rfl | rfl | rfl | rfl | rfl | rfl | rfl | rfl | rfl : q = 1 ∨ q = 2 ∨ q = 3 ∨ q = 4 ∨ q = 5 ∨ q = 6 ∨ q = 7 ∨ q = 8 ∨ q = 9 := by omega
        all_goals rfl
  · rw [Array.getElem?_setIfInBounds_ne (by omega)]; exact b4 i (by omega) hi2 q hq
theorem ItemsTo.items {w wr : World} {g n : Nat} {f : Nat → ByteArray} (h : ItemsTo w wr g n n f) : Items wr (some ⟨g, 0, none⟩) n f := by
  obtain ⟨cur, b1, b2, b3, _⟩ := h.blk
  exact .inr ⟨g, rfl, fun i hi q hq => by rw [cell_of_heap b1]; exact b3 i hi q hq⟩
theorem st7_self {wr : World} {b : Nat} (a0 a1 a2 a3 a4 a5 a6 : Value) : Chg (fun k => k = b) wr (st7 wr b a0 a1 a2 a3 a4 a5 a6) := by
  unfold st7
  exact ((((((((Chg.refl (fun k => k = b) wr).setCell (p := ⟨b, 0, none⟩) (fun _ => rfl) a0).setCell (p := ⟨b, 1, none⟩) (fun _ => rfl) a1).setCell (p := ⟨b, 2, none⟩) (fun _ => rfl) a2).setCell (p := ⟨b, 3, none⟩) (fun _ => rfl) a3).setCell (p := ⟨b, 4, none⟩) (fun _ => rfl) a4).setCell (p := ⟨b, 5, none⟩) (fun _ => rfl) a5).setCell (p := ⟨b, 6, none⟩) (fun _ => rfl) a6)
theorem Items.st {w wr : World} {g n : Nat} {f : Nat → ByteArray} (h : ItemsTo w wr g n n f) (a0 a1 a2 a3 a4 a5 a6 : Value) : Items (st7 wr w.heap.size a0 a1 a2 a3 a4 a5 a6) (some ⟨g, 0, none⟩) n f := by
  obtain ⟨cur, b1, b2, b3, _⟩ := h.blk
  have hb := (st7_self (b := w.heap.size) a0 a1 a2 a3 a4 a5 a6).heap b1 h.ne.1
  exact .inr ⟨g, rfl, fun i hi q hq => by rw [cell_of_heap hb]; exact b3 i hi q hq⟩
def EntOut (n : Nat) (f : Nat → ByteArray) (x y kd : Int) (w : World) (e : Ending) (w' : World) : Prop := ∃ ma mc, e = .returned (.agg (ent ma n mc x y kd)) ∧ Items w' ma n f ∧ Chg Nowhere w w'
set_option maxHeartbeats 8000000 in
theorem entry12 (a : Option Addr) (n c : Nat) (f : Nat → ByteArray) (x y kd : Int) (w : World) (hF : Reads w a n (strAt f)) (hn : n ≤ 1048576) : Calls Tryz.prog 12 #[.int .u8 kd, .slice a n c, .int .i32 x, .int .i32 y] w (EntOut n f x y kd w) := by
  have HF := Lib.hid hF
  clear hF
  have hq := neq_nil a n c
  cases a with
  | none =>
    have h0 : n = 0 := by rcases HF.out with h | ⟨g, o, h, _⟩; exact h; cases h
    subst h0
    go_enter Tryz.func12, Tryz.ntmps12
    go_wp2_with fail
    clear hq
    go_loopw [10] (fun i wr => i = .int .i64 0 ∧ wr = w.alloc (.cells #[.string ⟨#[]⟩, .slice none 0 0, .slice none 0 0, .slice none 0 0, .int .i32 0, .int .i32 0, .int .u8 0] 42)) (fun _ _ => 0)
    case atStart => exact ⟨rfl, rfl⟩
    case round =>
      obtain ⟨rfl, rfl⟩ := hrel
      go_wp2_with fail
      refine bodyPost_ret (v := .agg (ent none 0 0 x y kd)) ?_ rfl ⟨none, 0, rfl, .inl rfl, (Chg.refl _ w).alloc _⟩
      exact (results_c (p := 8) (ty := 42) (by rfl) _ _ _ w.heap.size (.agg (ent none 0 0 x y kd)) (by rfl) (load42 (heap_at w _ _ rfl) (by rfl))).trans (by rfl)
  | some ad =>
    have hmk := make34 n hn
    go_enter Tryz.func12, Tryz.ntmps12
    go_wp2_with fail
    clear hmk hq
    go_loopw [10] (fun i wr => ∃ k : Nat, k ≤ n ∧ i = .int .i64 k ∧ ItemsTo w wr (w.heap.size + 1) n k f) (fun i _ => n - (intOf i).toNat)
    case atStart => exact ⟨0, by omega, rfl, ItemsTo.start w n f⟩
    case round =>
      obtain ⟨k, hk, rfl, hit⟩ := hrel
      obtain ⟨cur, b1, b2, b3, b4⟩ := hit.blk
      have l1 := heap_lt b1
      have l2 := heap_lt hit.r
      by_cases hlt : k < n
      · rcases HF.out with h0 | ⟨g, o, hga, hR⟩
        · omega
        injection hga with hga
        subst hga
        have hc := hit.chg.cell (hR k hlt) (fun h => h)
        unfold strAt at hc
        have ck := (cell_of_heap b1 (k * 10)).trans (b4 k (Nat.le_refl _) hlt 0 (by decide))
        simp [item] at ck
        have fk := frozen_of_heap b1 (k * 10)
        have Hit := Lib.hid hit
        clear hit b1 b2 b3 b4 hR
        have hx1 : (k : Int) < (n : Int) := by omega
        have hx0 : (0 : Int) ≤ (k : Int) := by omega
        go_wp2_with fail
        go_roundw
        case rel => exact ⟨k + 1, by omega, by go_num, Hit.out.step hlt⟩
        case measure => simp [intOf]; omega
      · obtain rfl : k = n := by omega
        have hx1 : ¬ (k : Int) < (k : Int) := by omega
        have hr := hit.r
        have r0 := cell_of_heap hr 0
        have r1 := cell_of_heap hr 1
        have r2 := cell_of_heap hr 2
        have r3 := cell_of_heap hr 3
        have r4 := cell_of_heap hr 4
        have r5 := cell_of_heap hr 5
        have r6 := cell_of_heap hr 6
        simp at r0 r1 r2 r3 r4 r5 r6
        have fz : ∀ j, wr.frozen? ⟨w.heap.size, j, none⟩ = false := fun j => frozen_of_heap hr j
        have Hit := Lib.hid hit
        clear hit b1 b2 b3 b4 hr
        go_wp2_with fail
        refine bodyPost_ret (v := .agg (ent (some ⟨w.heap.size + 1, 0, none⟩) k k x y kd)) ?_ rfl ⟨_, _, rfl, Items.st Hit.out _ _ _ _ _ _ _, st7_chg Hit.out.chg (Nat.le_refl _) _ _ _ _ _ _ _⟩
        exact (results_c (p := 8) (ty := 42) (by rfl) _ _ _ w.heap.size _ (by rfl) (load42 (st7_heap Hit.out.r _ _ _ _ _ _ _) (by rfl))).trans (by rfl)
end Go.Proofs.YtmmpajfajfkpcaaGreatFmt
