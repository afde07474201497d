/-
  Proved: contracts of b2Clone and b2CloneNested; rows of slices of bytes. No statement of the seat stands here.
-/
import Derived.Test.YtadmncfemgmioaaGreatFmtZprint
import Derived.Laws.CopyRow
import Derived.Lib.SliceRun
import Derived.Deep.WholeRow
namespace Go.Proofs.YtadmncfemgmioaaGreatFmt
open Go.RowKit Go.ChangeAt
set_option linter.unusedSimpArgs false
set_option linter.unusedVariables false
set_option maxRecDepth 100000
theorem make27 (n : Nat) (hn : n ≤ 16777216) (W : World) : (Instr.makeSlice 27 (.int .i64 n) (.int .i64 n)).run Tryz.prog W = .ok (.slice (some ⟨W.heap.size, 0, none⟩) n n) (W.alloc (.cells (madeCells #[.int .u8 0] n) 5)) := by
  obtain ⟨i0, hi, hz0, hz1, hz2⟩ := info_parts info5
  have h := run_make (P := Tryz.prog) W 27 5 i0 _ Tryz.underlying27 hi hz0 .i64 .i64 n n (by omega) (by omega) (by rw [hz2]; omega) (by omega)
  rw [h, hz1]
  simp [Value.cells]
theorem byteCells_get (pre : List UInt8) (j : Nat) (v : Value) (h : (Lib.byteCells pre)[j]? = some v) : j < pre.length ∧ v = byteAt pre j := by
  simp only [Lib.byteCells, List.getElem?_map, Option.map_eq_some_iff] at h
  obtain ⟨x, hx, rfl⟩ := h
  have hj := (List.getElem?_eq_some_iff.1 hx).1
  refine ⟨hj, ?_⟩
  simp [byteAt, byteOf, List.getD, hx]
theorem size5 : (Tryz.prog.info? 5).map (·.size) = some 1 := by kernel_rfl
theorem clone8 (a : Option Addr) (c : Nat) (pre : List UInt8) (w : World) (hn : pre.length ≤ 16777216) (hR : Reads w a pre.length (byteAt pre)) :
    Calls Tryz.prog 8 #[.slice a pre.length c] w (RowOut pre w) := by
  cases a with
  | none =>
    have h0 : pre.length = 0 := by rcases hR with h | ⟨g, o, h, _⟩; exact h; cases h
    have hp : pre = [] := List.eq_nil_of_length_eq_zero h0
    subst hp
    have hq := fun W : World => Lib.run_eql_slice_nil (P := Tryz.prog) W 27 5 none 0 c 0 0 Tryz.underlying27
    clear h0
    simp only [List.length_nil]
    go_enter Tryz.func8, Tryz.ntmps8
    go_wp2
    go_ret
    exact ⟨none, 0, rfl, ⟨rfl, .inl ⟨rfl, rfl⟩⟩, Chg.refl _ _⟩
  | some ad =>
    have hq := fun W : World => Lib.run_eql_slice_nil (P := Tryz.prog) W 27 5 (some ad) pre.length c 0 0 Tryz.underlying27
    have hmk := make27 pre.length (by omega) w
    have hlen : (Lib.byteCells pre).length = pre.length := by simp [Lib.byteCells]
    have hcp : (Builtin.copy_ #[27, 27] 3 #[.slice (some ⟨w.heap.size, 0, none⟩) pre.length pre.length, .slice (some ad) pre.length c]).run Tryz.prog (w.alloc (.cells (madeCells #[.int .u8 0] pre.length) 5)) =
        .ok (goInt pre.length) (w.alloc (.cells (Lib.byteCells pre).toArray 5)) := by
      have h := run_copy_row (P := Tryz.prog) (w.alloc (.cells (madeCells #[.int .u8 0] pre.length) 5)) 27 27 3 5 w.heap.size 0 pre.length pre.length ad pre.length c (madeCells #[.int .u8 0] pre.length) 5 (Lib.byteCells pre)
        Tryz.underlying27 size5 (heap_alloc_new w _) (by rw [hlen]; simp) (fun j v hv => by
          obtain ⟨hj, rfl⟩ := byteCells_get pre j v hv
          rcases hR with h0 | ⟨g, o, h1, h2⟩
          · omega
          · injection h1 with h1
            subst h1
            rw [add_cell]
            have hch : Chg Nowhere w (w.alloc (.cells (madeCells #[.int .u8 0] pre.length) 5)) := (Chg.refl _ w).alloc _
            exact hch.cell (h2 j hj) (fun h => h)) (by rw [hlen, size_madeCells]; omega) (by
          intro v hv
          simp [Lib.byteCells] at hv
          obtain ⟨x, _, rfl⟩ := hv
          rfl)
      rw [h, World.setRow_alloc_new, hlen]
      congr 3
      have hd : (madeCells #[Value.int .u8 0] pre.length).toList.drop (0 + pre.length) = [] := List.drop_eq_nil_of_le (by rw [Array.length_toList, size_madeCells]; omega)
      rw [hd]
      simp
    go_enter Tryz.func8, Tryz.ntmps8
    go_wp2
    go_ret
    refine ⟨some ⟨w.heap.size, 0, none⟩, pre.length, rfl, ⟨by simpa using hlen, .inr ⟨w.heap.size, pre.length, (Lib.byteCells pre).toArray, rfl, Nat.le_refl _, heap_alloc_new w _, Nat.le_refl _, by unfold maxLen; omega, by simpa using hlen, ?_⟩⟩, (Chg.refl _ w).alloc _⟩
    simp [hlen]
    rw [← hlen, List.take_length]
theorem reads_own {w : World} {B : Nat} {vo : Option Addr} {vc : Nat} {pre : List UInt8} (h : w.ownsRow B 5 1 (.slice vo pre.length vc) pre.length (Lib.byteCells pre)) : Reads w vo pre.length (byteAt pre) := by
  rcases ownsRow_addr h with ⟨rfl, h2⟩ | ⟨g, rfl, _, _⟩
  · exact .inl h2.1
  · refine .inr ⟨g, 0, rfl, fun i hi => ?_⟩
    have := h.cells (g := g) rfl i (byteAt pre i) (by simp [Lib.byteCells, byteAt, byteOf, List.getD, hi])
    rw [add_cell] at this
    exact this
theorem own_block {w : World} {B n : Nat} {vo : Option Addr} {vc : Nat} {xs : List Value} (h : w.ownsRow B 5 1 (.slice vo n vc) n xs) : ∀ g o, vo = some ⟨g, o, none⟩ → B ≤ g ∧ g < w.heap.size := by
  rintro g o rfl
  exact inRow_own h g ⟨_, rfl, rfl⟩
theorem info27 : (Tryz.prog.info? 27).map (fun i => (i.zero, i.size, i.bytes)) = some (some (.slice none 0 0), 1, 24) := by kernel_rfl
theorem make22 (l n : Nat) (hl : l ≤ n) (hn : n ≤ 2097152) (W : World) : (Instr.makeSlice 22 (.int .i64 l) (.int .i64 n)).run Tryz.prog W = .ok (.slice (some ⟨W.heap.size, 0, none⟩) l n) (W.alloc (.cells (madeCells #[.slice none 0 0] n) 27)) := by
  obtain ⟨i0, hi, hz0, hz1, hz2⟩ := info_parts info27
  have h := run_make (P := Tryz.prog) W 22 27 i0 _ Tryz.underlying22 hi hz0 .i64 .i64 l n (by omega) (by omega) (by rw [hz2]; omega) (by omega)
  rw [h, hz1]
  simp [Value.cells]
def Held (w : World) (v : Value) (l : List UInt8) (gs : Nat) : Prop := ∃ a c, v = .slice a l.length c ∧ Reads w a l.length (byteAt l) ∧ ∀ g o, a = some ⟨g, o, none⟩ → g ≠ gs
structure NestMade (w wr : World) (gs n k : Nat) (X : Nat → List UInt8) : Prop where
  chg : Chg Nowhere w wr
  blk : ∃ cur : Array Value, wr.heap[gs]? = some (.cells cur 27 (0, 0)) ∧ cur.size = n ∧ ∀ i, i < k → ∃ v, cur[i]? = some v ∧ Held wr v (X i) gs
  ge : w.heap.size ≤ gs
theorem NestMade.start (w : World) (n : Nat) (X : Nat → List UInt8) : NestMade w (w.alloc (.cells (madeCells #[.slice none 0 0] n) 27)) w.heap.size n 0 X :=
  ⟨(Chg.refl _ w).alloc _, ⟨_, heap_alloc_at w _ _ rfl, size_madeCells _ _, fun i hi => by omega⟩, Nat.le_refl _⟩
theorem NestMade.step {w wr w1 : World} {gs n k : Nat} {X : Nat → List UInt8} {vo : Option Addr} {vc : Nat} (h : NestMade w wr gs n k X) (hk : k < n) (hc : Chg Nowhere wr w1)
    (ho : w1.ownsRow wr.heap.size 5 1 (.slice vo (X k).length vc) (X k).length (Lib.byteCells (X k))) : NestMade w (w1.setCell ⟨gs, k, none⟩ (.slice vo (X k).length vc)) gs n (k + 1) X := by
  obtain ⟨cur, hb, hs, h1⟩ := h.blk
  have hgs := heap_lt hb
  have hge := h.ge
  have hsz := h.chg.size
  have hset := (Chg.refl (fun j => j = gs) w1).setCell (p := ⟨gs, k, none⟩) (fun _ => rfl) (.slice vo (X k).length vc)
  have hall : Chg (fun j => j = gs) wr (w1.setCell ⟨gs, k, none⟩ (.slice vo (X k).length vc)) := (hc.mono (fun _ _ h => h.elim)).trans hset (fun _ _ h => h)
  refine ⟨h.chg.trans hall (fun j hj hs => by omega), ⟨_, heap_setCell (hc.heap hb (fun h => h)) k _, by simp [hs], fun i hi => ?_⟩, hge⟩
  by_cases hik : i < k
  · obtain ⟨v, v1, a, c, v2, v3, v4⟩ := h1 i hik
    refine ⟨v, ?_, a, c, v2, v3.kept hall (fun g o e hs => v4 g o e hs), v4⟩
    rw [Array.getElem?_setIfInBounds_ne (by omega)]
    exact v1
  · obtain rfl : i = k := by omega
    have hbk := own_block ho
    refine ⟨_, by rw [Array.getElem?_setIfInBounds, if_pos rfl, if_pos (by omega)], vo, vc, rfl, (reads_own ho).kept hset (fun g o e hs => by have := (hbk g o e).1; omega), fun g o e => by have := (hbk g o e).1; omega⟩
theorem NestMade.nested {w wr : World} {gs n : Nat} {X : Nat → List UInt8} (h : NestMade w wr gs n n X) : ∃ ca cc, Nested wr (some ⟨gs, 0, none⟩) n X ca cc := by
  obtain ⟨cur, hb, hs, h1⟩ := h.blk
  refine ⟨fun i => if hi : i < n then Classical.choose (Classical.choose_spec (h1 i hi)).2 else none, fun i => if hi : i < n then Classical.choose (Classical.choose_spec (Classical.choose_spec (h1 i hi)).2) else 0, ⟨.inr ⟨gs, 0, rfl, fun i hi => ?_⟩, fun i hi => ?_⟩⟩
  · simp only [hi, dif_pos, Nat.zero_add]
    rw [cell_of_heap hb i]
    exact (Classical.choose_spec (h1 i hi)).1.trans (congrArg some (Classical.choose_spec (Classical.choose_spec (Classical.choose_spec (h1 i hi)).2)).1)
  · simp only [hi, dif_pos]
    exact (Classical.choose_spec (Classical.choose_spec (Classical.choose_spec (h1 i hi)).2)).2.1
def NestOut (n : Nat) (X : Nat → List UInt8) (w : World) (e : Ending) (w' : World) : Prop := ∃ a c ca cc, e = .returned (.slice a n c) ∧ Nested w' a n X ca cc ∧ Chg Nowhere w w'
set_option maxHeartbeats 4000000 in
theorem nest7 (a : Option Addr) (n c : Nat) (X : Nat → List UInt8) (ca : Nat → Option Addr) (cc : Nat → Nat) (w : World) (hN : Nested w a n X ca cc) (hn : n ≤ 1048576) (hx : ∀ i, i < n → (X i).length ≤ 1048576) :
    Calls Tryz.prog 7 #[.slice a n c] w (NestOut n X w) := by
  cases a with
  | none =>
    obtain rfl : n = 0 := by rcases hN.row with h | ⟨g, o, h, _⟩; exact h; cases h
    have hq := fun W : World => Lib.run_eql_slice_nil (P := Tryz.prog) W 22 27 none 0 c 0 0 Tryz.underlying22
    go_enter Tryz.func7, Tryz.ntmps7
    go_wp2
    go_ret
    exact ⟨none, 0, ca, cc, rfl, ⟨.inl rfl, fun i hi => by omega⟩, Chg.refl _ _⟩
  | some ad =>
    have hq := fun W : World => Lib.run_eql_slice_nil (P := Tryz.prog) W 22 27 (some ad) n c 0 0 Tryz.underlying22
    have hmk := make22 n n (Nat.le_refl _) (by omega) w
    have HN := Lib.hid hN
    have Hx := Lib.hid hx
    clear hN hx
    go_enter Tryz.func7, Tryz.ntmps7
    go_wp2_with fail
    clear hmk hq
    go_loopw [4] (fun i wr => ∃ k : Nat, k ≤ n ∧ i = .int .i64 k ∧ NestMade w wr w.heap.size n k X) (fun i _ => n - (intOf i).toNat)
    case atStart => exact ⟨0, by omega, rfl, NestMade.start w n X⟩
    case round =>
      obtain ⟨k, hk, rfl, hm⟩ := hrel
      by_cases hlt : k < n
      · rcases HN.out.row with h0 | ⟨g, o, h1, hR1⟩
        · omega
        injection h1 with h1
        subst h1
        have hc := hm.chg.cell (hR1 k hlt) (fun h => h)
        have hre := (HN.out.each k hlt).kept hm.chg (fun _ _ _ h => h)
        obtain ⟨cur, hb, hs, _⟩ := hm.blk
        have hgs := heap_lt hb
        have Hb := Lib.hid hb
        have Hm := Lib.hid hm
        have Hre := Lib.hid hre
        clear hR1 hm hb hre
        have hx1 : (k : Int) < (n : Int) := by omega
        have hx0 : (0 : Int) ≤ (k : Int) := by omega
        go_wp2_with fail
        refine (clone8 (ca k) (cc k) (X k) wr (by have := Hx.out k hlt; omega) Hre.out).mono ?_
        rintro ex w1 ⟨vo, vc, rfl, ho, hc1⟩
        have hb1 := hc1.heap Hb.out (fun h => h)
        have ck := cell_of_heap hb1 k
        have fk := frozen_of_heap hb1 k
        have hl1 := heap_lt hb1
        rw [Array.getElem?_eq_getElem (by omega)] at ck
        generalize cur[k]'(by omega) = old at ck
        have Ho := Lib.hid ho
        have Hc1 := Lib.hid hc1
        clear ho hc1 hb1
        go_wp2_with fail
        go_roundw
        case rel => exact ⟨k + 1, by omega, by go_num, Hm.out.step hlt Hc1.out Ho.out⟩
        case measure => simp [intOf]; omega
      · have hke : k = n := by omega
        subst hke
        have Hm := Lib.hid hm
        clear hm
        have hx1 : ¬ (k : Int) < (k : Int) := by omega
        go_wp2_with fail
        go_ret
        obtain ⟨ca2, cc2, h2⟩ := Hm.out.nested
        exact ⟨_, _, ca2, cc2, rfl, h2, Hm.out.chg⟩
end Go.Proofs.YtadmncfemgmioaaGreatFmt
