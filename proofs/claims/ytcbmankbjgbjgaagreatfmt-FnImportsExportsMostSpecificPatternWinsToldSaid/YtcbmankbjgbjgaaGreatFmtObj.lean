/-
  Proved: contract of zzObjectEntry. No statement of the seat stands here.
-/
import Derived.Test.YtcbmankbjgbjgaaGreatFmtSort
import Derived.Deep.RegionWith
namespace Go.Proofs.YtcbmankbjgbjgaaGreatFmt
open Go.RowKit Go.ChangeAt
set_option linter.unusedSimpArgs false
set_option linter.unusedVariables false
set_option maxRecDepth 100000
def item0 : Array Value := #[.string ⟨#[]⟩, .string ⟨#[]⟩, .slice none 0 0, .slice none 0 0, .slice none 0 0, .int .i32 0, .int .i32 0, .int .u8 0, .int .i32 0, .int .i32 0]
theorem made_get (z : Array Value) (s n i q : Nat) (hz : z.size = s) (hi : i < n) (hq : q < s) : (madeCells z (n * s))[i * s + q]? = z[q]? := by
  have h1 : i * s + q < n * s := by
    have : (i + 1) * s ≤ n * s := Nat.mul_le_mul_right _ hi
    rw [Nat.add_mul, Nat.one_mul] at this
    omega
  have h2 : (i * s + q) % s = q := by rw [Nat.mul_comm, Nat.mul_add_mod, Nat.mod_eq_of_lt hq]
  unfold madeCells
  rw [Array.getElem?_map, Array.getElem?_range, if_pos h1]
  simp only [Option.map_some, hz, h2]
  have h3 : q < z.size := by omega
  rw [Array.getElem!_eq_getD, Array.getD_eq_getD_getElem?, Array.getElem?_eq_getElem h3]
  rfl
theorem info71 : (Tryz.prog.info? 71).map (fun i => (i.zero, i.size, i.bytes)) = some (some (.agg item0), 10, 128) := by kernel_rfl
theorem make55 (n : Nat) (hn : n ≤ 1048576) (W : World) : (Instr.makeSlice 55 (.int .i64 n) (.int .i64 n)).run Tryz.prog W = .ok (.slice (some ⟨W.heap.size, 0, none⟩) n n) (W.alloc (.cells (madeCells item0 (n * 10)) 71)) := by
  obtain ⟨i0, hi, hz0, hz1, hz2⟩ := info_parts info71
  have h := run_make (P := Tryz.prog) W 55 71 i0 _ Tryz.underlying55 hi hz0 .i64 .i64 n n (by omega) (by omega) (by rw [hz2]; omega) (by omega)
  rw [h, hz1]
  simp [Value.cells, item0]
theorem make56 (n : Nat) (hn : n ≤ 1048576) (W : World) : (Instr.makeSlice 56 (.int .i64 0) (.int .i64 n)).run Tryz.prog W = .ok (.slice (some ⟨W.heap.size, 0, none⟩) 0 n) (W.alloc (.cells (madeCells item0 (n * 10)) 71)) := by
  obtain ⟨i0, hi, hz0, hz1, hz2⟩ := info_parts info71
  have h := run_make (P := Tryz.prog) W 56 71 i0 _ Tryz.underlying56 hi hz0 .i64 .i64 0 n (by omega) (by omega) (by rw [hz2]; omega) (by omega)
  rw [h, hz1]
  simp [Value.cells, item0]
/-- The first k items are laid in block g. -/
structure ItemsTo (w wr : World) (g n k : Nat) (f t : Nat → ByteArray) : Prop where
  r : wr.heap[w.heap.size]? = some (.cells zent 59 (0, 0))
  blk : ∃ cur : Array Value, wr.heap[g]? = some (.cells cur 71 (0, 0)) ∧ cur.size = n * 10 ∧ (∀ i, i < k → ∀ q, q < 10 → cur[i * 10 + q]? = (item (f i) (t i))[q]?)
  chg : Chg Nowhere w wr
  ne : g ≠ w.heap.size ∧ w.heap.size ≤ g
theorem ItemsTo.keep {w wr w' : World} {g n k : Nat} {f t : Nat → ByteArray} (h : ItemsTo w wr g n k f t) (hc : Chg Nowhere wr w') : ItemsTo w w' g n k f t := by
  obtain ⟨cur, b1, b2⟩ := h.blk
  exact ⟨hc.heap h.r (fun h => h), ⟨cur, hc.heap b1 (fun h => h), b2⟩, h.chg.trans hc (fun _ _ h => h), h.ne⟩
def st10 (wr : World) (g o : Nat) (a0 a1 a2 a3 a4 a5 a6 a7 a8 a9 : Value) : World := (((((((((wr.setCell ⟨g, o, none⟩ a0).setCell ⟨g, o + 1, none⟩ a1).setCell ⟨g, o + 2, none⟩ a2).setCell ⟨g, o + 3, none⟩ a3).setCell ⟨g, o + 4, none⟩ a4).setCell ⟨g, o + 5, none⟩ a5).setCell ⟨g, o + 6, none⟩ a6).setCell ⟨g, o + 7, none⟩ a7).setCell ⟨g, o + 8, none⟩ a8).setCell ⟨g, o + 9, none⟩ a9
theorem st10_chg (wr : World) (g o : Nat) (a0 a1 a2 a3 a4 a5 a6 a7 a8 a9 : Value) : Chg (fun j => j = g) wr (st10 wr g o a0 a1 a2 a3 a4 a5 a6 a7 a8 a9) := by
  unfold st10
  have h : ∀ {W : World} (c : Chg (fun j => j = g) wr W) (q : Nat) (v : Value), Chg (fun j => j = g) wr (W.setCell ⟨g, q, none⟩ v) := fun c q v => c.setCell (p := ⟨g, q, none⟩) (fun _ => rfl) v
  exact h (h (h (h (h (h (h (h (h (h (Chg.refl _ wr) _ _) _ _) _ _) _ _) _ _) _ _) _ _) _ _) _ _) _ _
theorem ItemsTo.step {w wr : World} {g n k : Nat} {f t : Nat → ByteArray} (h : ItemsTo w wr g n k f t) (hk : k < n) :
    ItemsTo w (st10 wr g (k * 10) (.string (f k)) (.string (t k)) (.slice none 0 0) (.slice none 0 0) (.slice none 0 0) (.int .i32 0) (.int .i32 0) (.int .u8 1) (.int .i32 0) (.int .i32 0)) g n (k + 1) f t := by
  obtain ⟨cur, b1, b2, b3⟩ := h.blk
  have hb : k * 10 + 10 ≤ cur.size := by rw [b2]; have := Nat.mul_le_mul_right 10 (show k + 1 ≤ n by omega); omega
  have hne := h.ne
  have hc := st10_chg wr g (k * 10) (.string (f k)) (.string (t k)) (.slice none 0 0) (.slice none 0 0) (.slice none 0 0) (.int .i32 0) (.int .i32 0) (.int .u8 1) (.int .i32 0) (.int .i32 0)
  refine ⟨hc.heap h.r (fun e => hne.1 e.symm), ?_, h.chg.trans hc (fun j hj e => by omega), hne⟩
  unfold st10
  have h0 := heap_setCell b1 (k * 10) (.string (f k))
  have h1 := heap_setCell h0 (k * 10 + 1) (.string (t k))
  have h2 := heap_setCell h1 (k * 10 + 2) (.slice none 0 0)
  have h3 := heap_setCell h2 (k * 10 + 3) (.slice none 0 0)
  have h4 := heap_setCell h3 (k * 10 + 4) (.slice none 0 0)
  have h5 := heap_setCell h4 (k * 10 + 5) (.int .i32 0)
  have h6 := heap_setCell h5 (k * 10 + 6) (.int .i32 0)
  have h7 := heap_setCell h6 (k * 10 + 7) (.int .u8 1)
  have h8 := heap_setCell h7 (k * 10 + 8) (.int .i32 0)
  have h9 := heap_setCell h8 (k * 10 + 9) (.int .i32 0)
  refine ⟨_, h9, by simp [b2], fun i hi q hq => ?_⟩
  by_cases e : i < k
  · have : i * 10 + 10 ≤ k * 10 := by omega
    repeat rw [Array.getElem?_setIfInBounds_ne (by omega)]
    exact b3 i e q hq
  · obtain rfl : i = k := by omega
    obtain rfl | rfl | rfl | rfl | rfl | rfl | rfl | rfl | rfl | rfl : q = 0 ∨ q = 1 ∨ q = 2 ∨ q = 3 ∨ q = 4 ∨ q = 5 ∨ q = 6 ∨ q = 7 ∨ q = 8 ∨ q = 9 := by omega
    all_goals (
      try simp only [Nat.add_zero]
      repeat first
        | rw [Array.getElem?_setIfInBounds_ne (by omega)]
        | rw [Array.getElem?_setIfInBounds_self_of_lt (by first | omega | (simp; omega))]
      rfl)
theorem ItemsTo.items {w wr : World} {g n : Nat} {f t : Nat → ByteArray} (h : ItemsTo w wr g n n f t) : Items wr (some ⟨g, 0, none⟩) n f t := by
  obtain ⟨cur, b1, b2, b3⟩ := h.blk
  exact .inr ⟨g, rfl, fun i hi q hq => by rw [cell_of_heap b1]; exact b3 i hi q hq⟩
theorem st7_self {wr : World} {b : Nat} (a0 a1 a2 a3 a4 a5 a6 : Value) : Chg (fun k => k = b) wr (st7 wr b a0 a1 a2 a3 a4 a5 a6) := by
  unfold st7
  exact ((((((((Chg.refl (fun k => k = b) wr).setCell (p := ⟨b, 0, none⟩) (fun _ => rfl) a0).setCell (p := ⟨b, 1, none⟩) (fun _ => rfl) a1).setCell (p := ⟨b, 2, none⟩) (fun _ => rfl) a2).setCell (p := ⟨b, 3, none⟩) (fun _ => rfl) a3).setCell (p := ⟨b, 4, none⟩) (fun _ => rfl) a4).setCell (p := ⟨b, 5, none⟩) (fun _ => rfl) a5).setCell (p := ⟨b, 6, none⟩) (fun _ => rfl) a6)
theorem Items.st {w wr : World} {g n : Nat} {f t : Nat → ByteArray} (h : ItemsTo w wr g n n f t) (a0 a1 a2 a3 a4 a5 a6 : Value) : Items (st7 wr w.heap.size a0 a1 a2 a3 a4 a5 a6) (some ⟨g, 0, none⟩) n f t := by
  obtain ⟨cur, b1, b2, b3⟩ := h.blk
  have hb := (st7_self (b := w.heap.size) a0 a1 a2 a3 a4 a5 a6).heap b1 h.ne.1
  exact .inr ⟨g, rfl, fun i hi q hq => by rw [cell_of_heap hb]; exact b3 i hi q hq⟩
theorem entry24x (t : ByteArray) (w : World) : Calls Tryz.prog 24 #[.string t] w (fun e w' => e = .returned (.agg #[.string t, .slice none 0 0, .slice none 0 0, .slice none 0 0, .int .i32 0, .int .i32 0, .int .u8 1]) ∧ w' = w.alloc (.cells #[.string t, .slice none 0 0, .slice none 0 0, .slice none 0 0, .int .i32 0, .int .i32 0, .int .u8 1] 59)) := by
  go_enter Tryz.func24, Tryz.ntmps24
  go_wp2_with fail
  refine bodyPost_ret (v := .agg (sent t)) ?_ rfl ⟨rfl, rfl⟩
  exact (results_c (p := 2) (ty := 59) (by rfl) _ _ _ w.heap.size (.agg (sent t)) (by rfl) (load59 (heap_at w _ _ rfl) (by rfl))).trans (by rfl)
def ObjOut (n : Nat) (f t : Nat → ByteArray) (w : World) (e : Ending) (w' : World) : Prop := ∃ ma mc ea ec, e = .returned (.agg (oent ma n mc ea ec)) ∧ Items w' ma n f t ∧ Chg Nowhere w w'
set_option maxHeartbeats 8000000 in
theorem obj23 (a b d : Option Addr) (n c c2 c3 : Nat) (f t : Nat → ByteArray) (w : World) (hF : Reads w a n (strAt f)) (hT : Reads w b n (strAt t)) (hD : Reads w d n noAt) (hn : n ≤ 1048576) :
    Calls Tryz.prog 23 #[.slice a n c, .slice b n c2, .slice d n c3] w (ObjOut n f t w) := by
  have HF := Lib.hid hF
  have HT := Lib.hid hT
  have HD := Lib.hid hD
  clear hF hT hD
  have hmk := make55 n hn
  have hmk2 := make56 n hn
  have H0 : Hid (ItemsTo w (((w.alloc (.cells zent 59)).alloc (.cells (madeCells item0 (n * 10)) 71)).alloc (.cells (madeCells item0 (n * 10)) 71)) (w.heap.size + 1) n 0 f t) := Lib.hid
    ⟨heap_keep (heap_keep (heap_at w _ _ rfl) _) _, ⟨_, heap_keep (heap_at _ _ _ (by simp)) _, size_madeCells _ _, fun i hi => by omega⟩, (((Chg.refl _ w).alloc _).alloc _).alloc _, by omega, by omega⟩
  unfold zent at H0
  go_enter Tryz.func23, Tryz.ntmps23
  go_wp2_with fail
  clear hmk hmk2
  generalize hw0 : World.alloc (World.alloc (World.alloc w _) _) _ = w0 at H0 ⊢
  clear hw0
  go_loopw [8, 19] (fun ek i wr => ek = .slice (some ⟨w.heap.size + 1 + 1, 0, none⟩) 0 n ∧ ∃ k : Nat, k ≤ n ∧ i = .int .i64 k ∧ ItemsTo w wr (w.heap.size + 1) n k f t) (fun _ i _ => n - (intOf i).toNat)
  case atStart => exact ⟨rfl, 0, by omega, rfl, H0.out⟩
  case round =>
    obtain ⟨rfl, k, hk, rfl, hit⟩ := hrel
    by_cases hlt : k < n
    · rcases HF.out with h0 | ⟨g1, o1, rfl, hR1⟩
      · omega
      rcases HT.out with h0 | ⟨g2, o2, rfl, hR2⟩
      · omega
      rcases HD.out with h0 | ⟨g3, o3, rfl, hR3⟩
      · omega
      have hc1 := hit.chg.cell (hR1 k hlt) (fun h => h)
      have hc2 := hit.chg.cell (hR2 k hlt) (fun h => h)
      have hc3 := hit.chg.cell (hR3 k hlt) (fun h => h)
      unfold strAt at hc1 hc2
      unfold noAt at hc3
      have lt1 : g1 < wr.heap.size := World.block_lt_of_cell? wr _ hc1
      have lt2 : g2 < wr.heap.size := World.block_lt_of_cell? wr _ hc2
      have Hit := Lib.hid hit
      clear hit hR1 hR2 hR3
      have hx1 : (k : Int) < (n : Int) := by omega
      have hx0 : (0 : Int) ≤ (k : Int) := by omega
      go_upto_region 6 with fail
      go_cut [10] (fun c10 wx => ∃ b, c10 = .pointer (some ⟨b, 0, none⟩) ∧ wx.heap[b]? = some (.cells (item (f k) (t k)) 71 (0, 0)) ∧ Chg Nowhere wr wx ∧ wr.heap.size ≤ b)
      case first =>
        go_region_with (go_at_call 24; refine (entry24x (t k) _).mono ?_; rintro e w' ⟨rfl, rfl⟩)
        all_goals (
          go_wp2_with fail
          go_meet
          (case rel =>
            first
              | exact ⟨_, rfl, heap_at _ _ _ (by simp), (((Chg.refl _ wr).alloc _).alloc _).drew, by omega⟩
              | exact ⟨_, rfl, heap_keep (heap_at _ _ _ rfl) _, (((Chg.refl _ wr).alloc _).alloc _).drew, by omega⟩))
      case rest =>
      obtain ⟨bx, rfl, hb, hcx, hlb⟩ := hcut
      have hc3x := hcx.cell hc3 (fun h => h)
      have hitx := Hit.out.keep hcx
      obtain ⟨cur, b1, b2, b3⟩ := hitx.blk
      have hszb : k * 10 + 10 ≤ cur.size := by rw [b2]; have := Nat.mul_le_mul_right 10 (show k + 1 ≤ n by omega); omega
      have lg := heap_lt b1
      have i0 := cell_of_heap hb 0
      have i1 := cell_of_heap hb 1
      have i2 := cell_of_heap hb 2
      have i3 := cell_of_heap hb 3
      have i4 := cell_of_heap hb 4
      have i5 := cell_of_heap hb 5
      have i6 := cell_of_heap hb 6
      have i7 := cell_of_heap hb 7
      have i8 := cell_of_heap hb 8
      have i9 := cell_of_heap hb 9
      simp only [item, List.getElem?_toArray, List.getElem?_cons_succ, List.getElem?_cons_zero] at i0 i1 i2 i3 i4 i5 i6 i7 i8 i9
      have m0 := (cell_of_heap b1 (k * 10)).trans (Array.getElem?_eq_getElem (by omega))
      have m1 := (cell_of_heap b1 (k * 10 + 1)).trans (Array.getElem?_eq_getElem (by omega))
      have m2 := (cell_of_heap b1 (k * 10 + 2)).trans (Array.getElem?_eq_getElem (by omega))
      have m3 := (cell_of_heap b1 (k * 10 + 3)).trans (Array.getElem?_eq_getElem (by omega))
      have m4 := (cell_of_heap b1 (k * 10 + 4)).trans (Array.getElem?_eq_getElem (by omega))
      have m5 := (cell_of_heap b1 (k * 10 + 5)).trans (Array.getElem?_eq_getElem (by omega))
      have m6 := (cell_of_heap b1 (k * 10 + 6)).trans (Array.getElem?_eq_getElem (by omega))
      have m7 := (cell_of_heap b1 (k * 10 + 7)).trans (Array.getElem?_eq_getElem (by omega))
      have m8 := (cell_of_heap b1 (k * 10 + 8)).trans (Array.getElem?_eq_getElem (by omega))
      have m9 := (cell_of_heap b1 (k * 10 + 9)).trans (Array.getElem?_eq_getElem (by omega))
      generalize cur[k * 10]'(by omega) = v0 at m0
      generalize cur[k * 10 + 1]'(by omega) = v1 at m1
      generalize cur[k * 10 + 2]'(by omega) = v2 at m2
      generalize cur[k * 10 + 3]'(by omega) = v3 at m3
      generalize cur[k * 10 + 4]'(by omega) = v4 at m4
      generalize cur[k * 10 + 5]'(by omega) = v5 at m5
      generalize cur[k * 10 + 6]'(by omega) = v6 at m6
      generalize cur[k * 10 + 7]'(by omega) = v7 at m7
      generalize cur[k * 10 + 8]'(by omega) = v8 at m8
      generalize cur[k * 10 + 9]'(by omega) = v9 at m9
      have fm := fun j => frozen_of_heap b1 j
      have lz := heap_lt hitx.r
      have Hitx := Lib.hid hitx
      clear hitx b1 b2 b3 hb hcx hc1 hc2 hc3 hszb
      go_wp2_with fail
      go_roundw
      case rel => exact ⟨rfl, k + 1, by omega, by go_num, Hitx.out.step hlt⟩
      case measure => simp [intOf]; omega
    · obtain rfl : k = n := by omega
      have hx1 : ¬ (k : Int) < (k : Int) := by omega
      have hr := hit.r
      have r0 := cell_of_heap hr 0
      have r1 := cell_of_heap hr 1
      have r2 := cell_of_heap hr 2
      have r3 := cell_of_heap hr 3
      have r4 := cell_of_heap hr 4
      have r5 := cell_of_heap hr 5
      have r6 := cell_of_heap hr 6
      simp [zent] at r0 r1 r2 r3 r4 r5 r6
      have fz : ∀ j, wr.frozen? ⟨w.heap.size, j, none⟩ = false := fun j => frozen_of_heap hr j
      have Hit := Lib.hid hit
      clear hit hr
      go_wp2_with fail
      refine (sort31 (some ⟨w.heap.size + 1 + 1, 0, none⟩) k wr).mono ?_
      rintro e1 w1 ⟨rfl, rfl⟩
      go_wp2_with fail
      refine bodyPost_ret (v := .agg (oent (some ⟨w.heap.size + 1, 0, none⟩) k k (some ⟨w.heap.size + 1 + 1, 0, none⟩) k)) ?_ rfl ⟨_, _, _, _, rfl, Items.st Hit.out _ _ _ _ _ _ _, st7_chg Hit.out.chg (Nat.le_refl _) _ _ _ _ _ _ _⟩
      exact (results_c (p := 6) (ty := 59) (by rfl) _ _ _ w.heap.size _ (by rfl) (load59 (st7_heap Hit.out.r _ _ _ _ _ _ _) (by rfl))).trans (by rfl)
end Go.Proofs.YtcbmankbjgbjgaaGreatFmt
