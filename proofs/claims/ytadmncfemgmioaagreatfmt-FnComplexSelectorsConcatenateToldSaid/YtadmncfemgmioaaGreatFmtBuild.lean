/-
  Proved: what ZZprintComplexSelectors lays in memory ahead of the printing. No statement of the seat stands here.
-/
import Derived.Test.YtadmncfemgmioaaGreatFmtSels
namespace Go.Proofs.YtadmncfemgmioaaGreatFmt
open Go.RowKit Go.ChangeAt
set_option linter.unusedSimpArgs false
set_option linter.unusedVariables false
set_option maxRecDepth 100000
def zero42 : Array Value := #[.pointer none, .slice none 0 0, .slice none 0 0, .int .i32 0, .int .u8 0, .bool false]
theorem info42 : (Tryz.prog.info? 42).map (fun i => (i.zero, i.size, i.bytes)) = some (some (.agg #[.pointer none, .slice none 0 0, .slice none 0 0, .int .i32 0, .int .u8 0, .bool false]), 6, 72) := by kernel_rfl
theorem info44 : (Tryz.prog.info? 44).map (fun i => (i.zero, i.size, i.bytes)) = some (some (.agg #[.slice none 0 0]), 1, 24) := by kernel_rfl
theorem info35 : (Tryz.prog.info? 35).map (fun i => (i.zero, i.size, i.bytes)) = some (some (.agg #[.int .i32 0]), 1, 4) := by kernel_rfl
theorem make33 (n : Nat) (hn : n ≤ 1048576) (W : World) : (Instr.makeSlice 33 (.int .i64 n) (.int .i64 n)).run Tryz.prog W = .ok (.slice (some ⟨W.heap.size, 0, none⟩) n n) (W.alloc (.cells (madeCells zero42 (n * 6)) 42)) := by
  obtain ⟨i0, hi, hz0, hz1, hz2⟩ := info_parts info42
  have h := run_make (P := Tryz.prog) W 33 42 i0 _ Tryz.underlying33 hi hz0 .i64 .i64 n n (by omega) (by omega) (by rw [hz2]; omega) (by omega)
  rw [h, hz1]
  simp [Value.cells, zero42]
theorem make32 (n : Nat) (hn : n ≤ 1048576) (W : World) : (Instr.makeSlice 32 (.int .i64 n) (.int .i64 n)).run Tryz.prog W = .ok (.slice (some ⟨W.heap.size, 0, none⟩) n n) (W.alloc (.cells (madeCells #[.slice none 0 0] n) 44)) := by
  obtain ⟨i0, hi, hz0, hz1, hz2⟩ := info_parts info44
  have h := run_make (P := Tryz.prog) W 32 44 i0 _ Tryz.underlying32 hi hz0 .i64 .i64 n n (by omega) (by omega) (by rw [hz2]; omega) (by omega)
  rw [h, hz1]
  simp [Value.cells]
theorem make40 (W : World) : (Instr.makeSlice 40 (.int .i64 1) (.int .i64 1)).run Tryz.prog W = .ok (.slice (some ⟨W.heap.size, 0, none⟩) 1 1) (W.alloc (.cells #[.int .i32 0] 35)) := by
  obtain ⟨i0, hi, hz0, hz1, hz2⟩ := info_parts info35
  have h := run_make (P := Tryz.prog) W 40 35 i0 _ Tryz.underlying40 hi hz0 .i64 .i64 1 1 (by omega) (by omega) (by rw [hz2]; omega) (by omega)
  have e : madeCells (Value.agg #[.int .i32 0]).cells (Int.toNat 1 * 1) = #[.int .i32 0] := by kernel_rfl
  rw [h, hz1, e]
  rfl
theorem made_get (z : Array Value) (s n i q : Nat) (hz : z.size = s) (hi : i < n) (hq : q < s) : (madeCells z (n * s))[i * s + q]? = z[q]? := by
  have h1 : i * s + q < n * s := by
    have : (i + 1) * s ≤ n * s := Nat.mul_le_mul_right _ hi
    rw [Nat.add_mul, Nat.one_mul] at this
    omega
  have h2 : (i * s + q) % s = q := by rw [Nat.mul_comm, Nat.mul_add_mod, Nat.mod_eq_of_lt hq]
  unfold madeCells
  rw [Array.getElem?_map, Array.getElem?_range, if_pos h1]
  simp only [Option.map_some, hz, h2]
  have h3 : q < z.size := by omega
  rw [Array.getElem!_eq_getD, Array.getD_eq_getD_getElem?, Array.getElem?_eq_getElem h3]
  rfl
structure CompMade (w0 wr : World) (gc len j : Nat) (l : List UInt8) : Prop where
  chg : Chg (fun k => k = gc) w0 wr
  blk : ∃ cur : Array Value, wr.heap[gc]? = some (.cells cur 42 (0, 0)) ∧ cur.size = len * 6 ∧
    (∀ i, i < j → ∃ g, w0.heap.size ≤ g ∧ wr.heap[g]? = some (.cells #[.int .i32 0] 35 (0, 0)) ∧ ∀ q, q < 6 → cur[i * 6 + q]? = (compCells g (byteOf l i))[q]?) ∧
    (∀ i, j ≤ i → i < len → ∀ q, q < 6 → cur[i * 6 + q]? = zero42[q]?)
  lt : gc < w0.heap.size
theorem CompMade.start (w : World) (len : Nat) (l : List UInt8) : CompMade (w.alloc (.cells (madeCells zero42 (len * 6)) 42)) (w.alloc (.cells (madeCells zero42 (len * 6)) 42)) w.heap.size len 0 l :=
  ⟨Chg.refl _ _, ⟨_, heap_alloc_at w _ _ rfl, size_madeCells _ _, fun i hi => by omega, fun i _ hi q hq => made_get zero42 6 len i q rfl hi hq⟩, by simp⟩
theorem CompMade.step {w0 wr : World} {gc len j : Nat} {l : List UInt8} (h : CompMade w0 wr gc len j l) (hj : j < len) :
    CompMade w0 (((wr.setCell ⟨gc, j * 6 + 4, none⟩ (.int .u8 (byteOf l j : Int))).alloc (.cells #[.int .i32 0] 35)).setCell ⟨gc, j * 6 + 2, none⟩ (.slice (some ⟨wr.heap.size, 0, none⟩) 1 1)) gc len (j + 1) l := by
  obtain ⟨cur, hb, hs, h1, h2⟩ := h.blk
  have hlt := h.lt
  have hsz : (wr.setCell ⟨gc, j * 6 + 4, none⟩ (.int .u8 (byteOf l j : Int))).heap.size = wr.heap.size := by simp [World.setCell]
  have hb1 := heap_alloc_keep (heap_setCell hb (j * 6 + 4) (.int .u8 (byteOf l j : Int))) (.cells #[.int .i32 0] 35)
  have hb2 := heap_setCell hb1 (j * 6 + 2) (.slice (some ⟨wr.heap.size, 0, none⟩) 1 1)
  have hc1 : Chg (fun k => k = gc) wr (((wr.setCell ⟨gc, j * 6 + 4, none⟩ (.int .u8 (byteOf l j : Int))).alloc (.cells #[.int .i32 0] 35)).setCell ⟨gc, j * 6 + 2, none⟩ (.slice (some ⟨wr.heap.size, 0, none⟩) 1 1)) :=
    (((Chg.refl (fun k => k = gc) wr).setCell (p := ⟨gc, j * 6 + 4, none⟩) (fun _ => rfl) _).alloc _).setCell (p := ⟨gc, j * 6 + 2, none⟩) (fun _ => rfl) _
  refine ⟨h.chg.trans hc1 (fun _ _ h => h), ⟨_, hb2, by simp [hs], fun i hi => ?_, fun i hi1 hi2 q hq => ?_⟩, hlt⟩
  · by_cases hij : i < j
    · obtain ⟨g, g1, g2, g3⟩ := h1 i hij
      refine ⟨g, g1, hc1.heap g2 (by omega), fun q hq => ?_⟩
      rw [Array.getElem?_setIfInBounds_ne (by omega), Array.getElem?_setIfInBounds_ne (by omega)]
      exact g3 q hq
    · obtain rfl : i = j := by omega
      refine ⟨wr.heap.size, h.chg.size, ?_, fun q hq => ?_⟩
      · have hn : (((wr.setCell ⟨gc, i * 6 + 4, none⟩ (.int .u8 (byteOf l i : Int))).alloc (.cells #[.int .i32 0] 35))).heap[wr.heap.size]? = some (.cells #[.int .i32 0] 35) := heap_alloc_at _ _ _ hsz.symm
        have hcs := (Chg.refl (fun k => k = gc) ((wr.setCell ⟨gc, i * 6 + 4, none⟩ (.int .u8 (byteOf l i : Int))).alloc (.cells #[.int .i32 0] 35))).setCell (p := ⟨gc, i * 6 + 2, none⟩) (fun _ => rfl) (.slice (some ⟨wr.heap.size, 0, none⟩) 1 1)
        exact hcs.heap hn (by have := heap_lt hb; omega)
      · have hz := h2 i (Nat.le_refl _) hj q hq
        have hb6 : i * 6 + 6 ≤ cur.size := by rw [hs]; have := Nat.mul_le_mul_right 6 (show i + 1 ≤ len by omega); omega
        simp only [Array.getElem?_setIfInBounds, Array.size_setIfInBounds]
        obtain rfl | rfl | rfl | rfl | rfl | rfl : q = 0 ∨ q = 1 ∨ q = 2 ∨ q = 3 ∨ q = 4 ∨ q = 5 := by omega
        · rw [if_neg (by omega), if_neg (by omega), hz]; rfl
        · rw [if_neg (by omega), if_neg (by omega), hz]; rfl
        · rw [if_pos rfl, if_pos (by omega)]; rfl
        · rw [if_neg (by omega), if_neg (by omega), hz]; rfl
        · rw [if_neg (by omega), if_pos rfl, if_pos (by omega)]; rfl
        · rw [if_neg (by omega), if_neg (by omega), hz]; rfl
  · rw [Array.getElem?_setIfInBounds_ne (by omega), Array.getElem?_setIfInBounds_ne (by omega)]
    exact h2 i (by omega) hi2 q hq
/-- The compounds of one selector, laid in block gc; their rows in other blocks. -/
def CompDone (w wr : World) (gs gc : Nat) (l : List UInt8) : Prop :=
  ∃ cc : Array Value, w.heap.size ≤ gc ∧ gc ≠ gs ∧ wr.heap[gc]? = some (.cells cc 42 (0, 0)) ∧
    ∀ j, j < l.length → ∃ g, w.heap.size ≤ g ∧ g ≠ gs ∧ wr.heap[g]? = some (.cells #[.int .i32 0] 35 (0, 0)) ∧ ∀ q, q < 6 → cc[j * 6 + q]? = (compCells g (byteOf l j))[q]?
structure SelMade (w wr : World) (gs n k : Nat) (X : Nat → List UInt8) : Prop where
  chg : Chg Nowhere w wr
  blk : ∃ cur : Array Value, wr.heap[gs]? = some (.cells cur 44 (0, 0)) ∧ cur.size = n ∧
    ∀ i, i < k → ∃ gc, cur[i]? = some (.slice (some ⟨gc, 0, none⟩) (X i).length (X i).length) ∧ CompDone w wr gs gc (X i)
  ge : w.heap.size ≤ gs
theorem SelMade.start (w : World) (n : Nat) (X : Nat → List UInt8) : SelMade w (w.alloc (.cells (madeCells #[.slice none 0 0] n) 44)) w.heap.size n 0 X :=
  ⟨(Chg.refl _ w).alloc _, ⟨_, heap_alloc_at w _ _ rfl, size_madeCells _ _, fun i hi => by omega⟩, Nat.le_refl _⟩
theorem CompDone.kept {S : Nat → Prop} {w wr w' : World} {gs gc : Nat} {l : List UInt8} (h : CompDone w wr gs gc l) (hc : Chg S wr w') (hS : ∀ k, k < wr.heap.size → S k → k = gs) : CompDone w w' gs gc l := by
  obtain ⟨cc, h1, h2, h3, h4⟩ := h
  refine ⟨cc, h1, h2, hc.heap h3 (fun hs => h2 (hS _ (heap_lt h3) hs)), fun j hj => ?_⟩
  obtain ⟨g, g1, g2, g3, g4⟩ := h4 j hj
  exact ⟨g, g1, g2, hc.heap g3 (fun hs => g2 (hS _ (heap_lt g3) hs)), g4⟩
theorem SelMade.step {w wr wi : World} {gs n k : Nat} {X : Nat → List UInt8} (h : SelMade w wr gs n k X) (hk : k < n)
    (hi : CompMade (wr.alloc (.cells (madeCells zero42 ((X k).length * 6)) 42)) wi wr.heap.size (X k).length (X k).length (X k)) :
    SelMade w (wi.setCell ⟨gs, k, none⟩ (.slice (some ⟨wr.heap.size, 0, none⟩) (X k).length (X k).length)) gs n (k + 1) X := by
  obtain ⟨cur, hb, hs, h1⟩ := h.blk
  have hgs := heap_lt hb
  have hge := h.ge
  have hsz := h.chg.size
  obtain ⟨cc, c1, c2, c3, _⟩ := hi.blk
  have h0i : Chg (fun j => j = wr.heap.size) wr wi := ((Chg.refl _ wr).alloc _).trans hi.chg (fun _ _ h => h)
  have hbi := h0i.heap hb (by omega)
  have hset := (Chg.refl (fun j => j = gs) wi).setCell (p := ⟨gs, k, none⟩) (fun _ => rfl) (.slice (some ⟨wr.heap.size, 0, none⟩) (X k).length (X k).length)
  have hall : Chg (fun j => j = gs) wr (wi.setCell ⟨gs, k, none⟩ (.slice (some ⟨wr.heap.size, 0, none⟩) (X k).length (X k).length)) := by
    refine (h0i.mono (S' := fun j => j = gs) (fun j hj hs => by omega)).trans hset (fun _ _ h => h)
  refine ⟨h.chg.trans hall (fun j hj hs => by omega), ⟨_, heap_setCell hbi k _, by simp [hs], fun i hi2 => ?_⟩, hge⟩
  by_cases hik : i < k
  · obtain ⟨gc, g1, g2⟩ := h1 i hik
    refine ⟨gc, ?_, g2.kept hall (fun _ _ h => h)⟩
    rw [Array.getElem?_setIfInBounds_ne (by omega)]
    exact g1
  · obtain rfl : i = k := by omega
    refine ⟨wr.heap.size, ?_, cc, by omega, by omega, hset.heap c1 (by omega), fun j hj => ?_⟩
    · rw [Array.getElem?_setIfInBounds, if_pos rfl, if_pos (by omega)]
    · obtain ⟨g, g1, g2, g3⟩ := c3 j hj
      have h1a : (wr.alloc (.cells (madeCells zero42 ((X i).length * 6)) 42)).heap.size = wr.heap.size + 1 := by simp
      exact ⟨g, by omega, by omega, hset.heap g2 (by omega), g3⟩
/-- All the selectors, as the printing reads them. -/
theorem SelMade.sels {w wr : World} {gs n : Nat} {X : Nat → List UInt8} (h : SelMade w wr gs n n X) (p : Obj) : ∃ gc gn, SelsAt wr.heap.size none n gs X gc gn (wr.alloc p) := by
  obtain ⟨cur, hb, hs, h1⟩ := h.blk
  have hno : ∀ k, ¬ InRow none k := by rintro k ⟨x, hx, _⟩; cases hx
  have hch : Chg Nowhere wr (wr.alloc p) := (Chg.refl _ _).alloc _
  refine ⟨fun i => if hi : i < n then Classical.choose (h1 i hi) else 0, fun i j => if hi : i < n then (if hj : j < (X i).length then Classical.choose ((Classical.choose_spec (Classical.choose_spec (h1 i hi)).2).2.2.2 j hj) else 0) else 0, ⟨?_, ?_, ?_, ?_, ?_, ?_⟩⟩
  · intro i hi
    simp only [hi, dif_pos]
    refine hch.cell ?_ (fun h => h)
    rw [cell_of_heap hb i]
    exact (Classical.choose_spec (h1 i hi)).1
  · intro i hi j hj q hq
    simp only [hi, hj, dif_pos]
    have hcd := Classical.choose_spec (Classical.choose_spec (h1 i hi)).2
    rw [cell_of_heap (hch.heap hcd.2.2.1 (fun h => h)) (j * 6 + q)]
    exact (Classical.choose_spec (hcd.2.2.2 j hj)).2.2.2 q hq
  · intro i hi j hj
    simp only [hi, hj, dif_pos]
    exact hch.heap (Classical.choose_spec ((Classical.choose_spec (Classical.choose_spec (h1 i hi)).2).2.2.2 j hj)).2.2.1 (fun h => h)
  · exact ⟨by have := heap_lt hb; omega, hno _⟩
  · intro i hi
    simp only [hi, dif_pos]
    have := heap_lt (Classical.choose_spec (Classical.choose_spec (h1 i hi)).2).2.2.1
    exact ⟨by omega, hno _⟩
  · intro i hi j hj
    simp only [hi, hj, dif_pos]
    have := heap_lt (Classical.choose_spec ((Classical.choose_spec (Classical.choose_spec (h1 i hi)).2).2.2.2 j hj)).2.2.1
    exact ⟨by omega, hno _⟩
end Go.Proofs.YtadmncfemgmioaaGreatFmt
