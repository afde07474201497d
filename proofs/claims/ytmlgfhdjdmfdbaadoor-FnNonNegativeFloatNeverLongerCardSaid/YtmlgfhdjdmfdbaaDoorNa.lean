/-
  Proved: append to a row of bytes that begins anywhere in its block (with room or without): plain laws of memory. No statement of the seat stands here.
-/
import Derived.Test.YtmlgfhdjdmfdbaaDoorBase
import Derived.ArgAppend
import Derived.Lib.UnsafeStr
import Derived.Test.YtmlgfhdjdmfdbaaDoorProg
import Derived.StillTailTactics
import Derived.Outline
import Derived.Handy
namespace Go.Proofs.YtmlgfhdjdmfdbaaDoor
open Go.RowKit Go.ChangeAt
set_option linter.unusedSimpArgs false
set_option linter.unusedVariables false
set_option maxRecDepth 100000
theorem frozen_fz {w : World} {g : Nat} {cs : Array Value} {e : TypeId} {fz : Nat × Nat} (h : w.heap[g]? = some (.cells cs e fz)) (hf : fz = (0, 0) ∨ fz.1 = cs.size) (j : Nat) (hj : j < cs.size) : w.frozen? ⟨g, j, none⟩ = false := by
  simp only [World.frozen?, h]
  rcases hf with rfl | hf
  · simp
  · simp; omega
theorem setCells_blk (g : Nat) (e : TypeId) (fz : Nat × Nat) : ∀ (vs : List Value) (o : Nat) (w : World) (cs : Array Value), w.heap[g]? = some (.cells cs e fz) →
    ∃ cs', (w.setCells g o vs).heap[g]? = some (.cells cs' e fz) ∧ cs'.size = cs.size ∧ (∀ j, j < o → cs'[j]? = cs[j]?) ∧ (∀ j u, vs[j]? = some u → o + j < cs.size → cs'[o + j]? = some u)
  | [], o, w, cs, h => ⟨cs, h, rfl, fun _ _ => rfl, fun j u hj => by simp at hj⟩
  | v :: vs, o, w, cs, h => by
    obtain ⟨cs', h1, h2, h3, h4⟩ := setCells_blk g e fz vs (o + 1) (w.setCell ⟨g, o, none⟩ v) (cs.setIfInBounds o v) (heap_setCell h o v)
    refine ⟨cs', h1, by simpa using h2, fun j hj => ?_, fun j u hj hs => ?_⟩
    · rw [h3 j (by omega), Array.getElem?_setIfInBounds_ne (by omega)]
    · cases j with
      | zero =>
        simp at hj
        subst hj
        rw [Nat.add_zero, h3 o (by omega)]
        rw [Array.getElem?_setIfInBounds]
        simp only [if_true]
        rw [if_pos (by simpa using hs)]
      | succ j =>
        simp at hj
        have := h4 j u hj (by simp; omega)
        rwa [show o + (j + 1) = o + 1 + j by omega]
theorem chg_setCells (b : Nat) (w0 : World) : ∀ (vs : List Value) (o : Nat) (w : World), Chg (fun k => k = b) w0 w → Chg (fun k => k = b) w0 (w.setCells b o vs)
  | [], o, w, h => h
  | v :: vs, o, w, h => chg_setCells b w0 vs (o + 1) (w.setCell ⟨b, o, none⟩ v) (h.setCell (fun _ => rfl) _)
/-- A row of bytes l that begins at off in block g (a block from B on), with room for cap. -/
structure Row (B g off cap : Nat) (l : List UInt8) (w : World) : Prop where
  base : B ≤ g
  blk : ∃ cur fz, w.heap[g]? = some (.cells cur 5 fz) ∧ (fz = (0, 0) ∨ fz.1 = cur.size) ∧ off + cap ≤ cur.size ∧ ∀ j u, (Lib.byteCells l)[j]? = some u → cur[off + j]? = some u
  len : l.length ≤ cap
  capb : cap ≤ maxLen
theorem Row.reads {B g off cap : Nat} {l : List UInt8} {w : World} (h : Row B g off cap l w) : ∀ j u, (Lib.byteCells l)[j]? = some u → w.cell? ⟨g, off + j, none⟩ = some u := by
  obtain ⟨cur, fz, h1, hfz, h2, h3⟩ := h.blk
  intro j u hj
  rw [cell_of_heap h1]
  exact h3 j u hj
theorem Row.at' {B g off cap : Nat} {l : List UInt8} {w : World} (h : Row B g off cap l w) (j : Nat) (hj : j < l.length) : w.cell? ⟨g, off + j, none⟩ = some (.int .u8 ((l.getD j 0).toNat : Int)) := by
  refine h.reads j _ ?_
  rw [Lib.byteCells, List.getElem?_map, List.getD_eq_getElem?_getD, List.getElem?_eq_getElem hj]
  rfl
theorem Row.lt {B g off cap : Nat} {l : List UInt8} {w : World} (h : Row B g off cap l w) : g < w.heap.size := by
  obtain ⟨cur, fz, h1, _⟩ := h.blk
  exact heap_lt h1
theorem Row.kept {S : Nat → Prop} {B g off cap : Nat} {l : List UInt8} {w w' : World} (h : Row B g off cap l w) (hc : Chg S w w') (hn : ¬ S g) : Row B g off cap l w' := by
  obtain ⟨cur, fz, h1, hfz, h2, h3⟩ := h.blk
  exact ⟨h.base, ⟨cur, fz, hc.heap h1 hn, hfz, h2, h3⟩, h.len, h.capb⟩
/-- A part of a row: from a on, b bytes. -/
theorem Row.sub {B g off cap : Nat} {l : List UInt8} {w : World} (h : Row B g off cap l w) (a n : Nat) (ha : a + n ≤ l.length) : Row B g (off + a) (cap - a) ((l.drop a).take n) w := by
  obtain ⟨cur, fz, h1, hfz, h2, h3⟩ := h.blk
  have hl := h.len
  refine ⟨h.base, ⟨cur, fz, h1, hfz, by omega, fun j u hj => ?_⟩, by rw [List.length_take, List.length_drop]; omega, by have := h.capb; omega⟩
  have hjn : j < n := by
    have := (List.getElem?_eq_some_iff.1 hj).1
    simp [Lib.byteCells] at this
    omega
  rw [Nat.add_assoc]
  refine h3 (a + j) u ?_
  rw [← hj]
  simp only [Lib.byteCells, List.getElem?_map, List.getElem?_take_of_lt hjn, List.getElem?_drop]
theorem byteCells_app (a b : List UInt8) : Lib.byteCells (a ++ b) = Lib.byteCells a ++ Lib.byteCells b := by simp [Lib.byteCells]
theorem byteCells_len (a : List UInt8) : (Lib.byteCells a).length = a.length := by simp [Lib.byteCells]
theorem oneAll_bytes (l : List UInt8) : ∀ u ∈ Lib.byteCells l, u.oneCell' = true := by
  intro u hu
  simp [Lib.byteCells] at hu
  obtain ⟨x, _, rfl⟩ := hu
  rfl
theorem info5 : (Tryd.prog.info? 5).map (fun i => (i.zero, i.size, i.bytes)) = some (some (.int .u8 0), 1, 1) := by kernel_rfl
theorem row_append (ty : TypeId) (B g off cap : Nat) (l : List UInt8) (w : World) (h : Row B g off cap l w) (a : Addr) (c : Nat) (x : List UInt8) (hx : ∀ j u, (Lib.byteCells x)[j]? = some u → w.cell? (a.add j) = some u)
    (hb : l.length + x.length ≤ 100000) (hB : B ≤ w.heap.size) :
    ∃ g' off' cap' w', (Builtin.append_ #[26, 26] ty #[.slice (some ⟨g, off, none⟩) l.length cap, .slice (some a) x.length c]).run Tryd.prog w = .ok (.slice (some ⟨g', off', none⟩) (l.length + x.length) cap') w' ∧
      Row B g' off' cap' (l ++ x) w' ∧ Chg (fun k => k = g) w w' ∧ (g' = g ∨ w.heap.size ≤ g') := by
  obtain ⟨i0, hi, hz0, hz1, hz2⟩ := info_parts info5
  obtain ⟨cur, fz, h1, hfz, h2, h3⟩ := h.blk
  have hl := h.len
  by_cases hr : l.length + x.length ≤ cap
  · have hcell : ∀ j, j < (Lib.byteCells x).length → (w.cell? ⟨g, off + l.length * i0.size + j, none⟩).isSome = true := fun j hj => by
      rw [byteCells_len] at hj
      rw [hz1, Nat.mul_one, cell_of_heap h1, Array.getElem?_eq_getElem (by omega)]
      rfl
    have hrun := run_append_room_cells (P := Tryd.prog) w 26 ty 5 i0 Tryd.underlying26 hi g off l.length cap a x.length c (Lib.byteCells x) (by rw [byteCells_len, hz1, Nat.mul_one]) hx (oneAll_bytes x) hr hcell (fun j hj => by rw [byteCells_len] at hj; rw [hz1, Nat.mul_one]; exact frozen_fz h1 hfz _ (by omega))
    rw [hz1, Nat.mul_one] at hrun
    obtain ⟨cs', k1, k2, k3, k4⟩ := setCells_blk g 5 fz (Lib.byteCells x) (off + l.length) w cur h1
    refine ⟨g, off, cap, _, hrun, ⟨h.base, ⟨cs', fz, k1, by rw [k2]; exact hfz, by omega, fun j u hj => ?_⟩, by rw [List.length_append]; exact hr, h.capb⟩, chg_setCells g w _ _ w (Chg.refl _ _), .inl rfl⟩
    rw [byteCells_app] at hj
    by_cases hjl : j < l.length
    · rw [List.getElem?_append_left (by rw [byteCells_len]; exact hjl)] at hj
      rw [k3 _ (by omega)]
      exact h3 j u hj
    · rw [List.getElem?_append_right (by rw [byteCells_len]; omega), byteCells_len] at hj
      have hjx : j - l.length < x.length := by have := (List.getElem?_eq_some_iff.1 hj).1; rwa [byteCells_len] at this
      have := k4 (j - l.length) u hj (by omega)
      rwa [show off + l.length + (j - l.length) = off + j by omega] at this
  · obtain ⟨v', w', hrun, ⟨_, hown⟩, hgr⟩ := run_append_arg_grows (P := Tryd.prog) w 26 ty 5 i0 _ 1 1 Tryd.underlying26 hi hz0 hz1 hz2 rfl (by decide) ⟨g, off, none⟩ l.length cap (Lib.byteCells l) (by rw [byteCells_len, Nat.mul_one])
      (fun j u hj => by rw [add_cell]; exact h.reads j u hj) a x.length c (Lib.byteCells x) (by rw [byteCells_len, Nat.mul_one]) hx (by omega) (by unfold maxLen; omega) (by omega)
    rcases hown with ⟨_, h0⟩ | ⟨g', cap', cur', rfl, hbg, hg', hnc, hcm, hcs, htk⟩
    · omega
    · have hgs := heap_lt hg'
      refine ⟨g', 0, cap', w', hrun, ⟨by omega, ⟨cur', _, hg', .inl rfl, by omega, fun j u hj => ?_⟩, by rw [List.length_append]; exact hnc, hcm⟩, ⟨hgr.os, hgr.tape, hgr.output, hgr.size, fun k hk _ => hgr.block k hk (by simp)⟩, .inr hbg⟩
      rw [byteCells_app, ← htk] at hj
      have hjn := (List.getElem?_eq_some_iff.1 hj).1
      rw [List.length_take] at hjn
      rw [List.getElem?_take_of_lt (by omega)] at hj
      rw [Nat.zero_add, ← Array.getElem?_toList]
      exact hj
theorem conv_row (l : List UInt8) (hl : l.length ≤ 100000) (w : World) : ∃ cap w', (convert 9 26 (.string ⟨⟨l⟩⟩)).run Tryd.prog w = .ok (.slice (some ⟨w.heap.size, 0, none⟩) l.length cap) w' ∧ Row w.heap.size w.heap.size 0 cap l w' ∧ Chg Nowhere w w' := by
  have hr := run_bytes_of_string (P := Tryd.prog) w 9 26 5 ⟨⟨l⟩⟩ Tryd.underlying9 Tryd.underlying26 Tryd.underlying5
  have hsz : (⟨⟨l⟩⟩ : ByteArray).size = l.length := rfl
  have hge := grownCap_ge w (⟨⟨l⟩⟩ : ByteArray).size 0 5
  have hcm := grownCap_le_maxLen w (⟨⟨l⟩⟩ : ByteArray).size 0 5 (by rw [hsz]; unfold maxLen; omega)
  rw [hsz] at hge hcm hr
  have hrs : (bytesRow ⟨⟨l⟩⟩ (grownCap w l.length 0 5)).size = grownCap w l.length 0 5 := by
    unfold bytesRow
    rw [Array.size_append, Array.size_map, Array.size_replicate, hsz]
    show l.length + _ = _
    omega
  refine ⟨grownCap w l.length 0 5, _, hr, ⟨Nat.le_refl _, ⟨_, _, heap_alloc_new w.drew _, .inr rfl, by rw [hrs]; omega, fun j u hj => ?_⟩, hge, hcm⟩, ((Chg.refl Nowhere w).drew).alloc _⟩
  have hj' : j < l.length := by have := (List.getElem?_eq_some_iff.1 hj).1; rwa [byteCells_len] at this
  rw [Nat.zero_add, bytesRow_at ⟨⟨l⟩⟩ _ j hj']
  rw [← hj, Lib.byteCells, List.getElem?_map, List.getElem?_eq_getElem hj']
  rfl
/-- The law for the walk: append of a row of bytes to a row of bytes. -/
theorem wpList_row_append {ops : Array Oper} {rest : List Oper} {o : Oper} {a : Act} {w : World} {Q : Exit → Act → World → Prop} (hgd : o.guard = none) (s x : Operand)
    (ho : o.op = .call { callee := .builtin .append, args := #[s, x], argTypes := #[26, 26] })
    (B g off cap n : Nat) (l : List UInt8) (hs : a.eval s = .slice (some ⟨g, off, none⟩) n cap) (hn : n = l.length) (hR : Row B g off cap l w)
    (ad : Addr) (m c : Nat) (y : List UInt8) (hx : a.eval x = .slice (some ad) m c) (hm : m = y.length) (hy : ∀ j u, (Lib.byteCells y)[j]? = some u → w.cell? (ad.add j) = some u)
    (hb : l.length + y.length ≤ 100000) (hB : B ≤ w.heap.size)
    (h : ∀ g' off' cap' w', Row B g' off' cap' (l ++ y) w' → Chg (fun k => k = g) w w' → (g' = g ∨ w.heap.size ≤ g') → wpList Tryd.prog ops Q rest (a.put o.dst (.slice (some ⟨g', off', none⟩) (n + m) cap')) w') : wpList Tryd.prog ops Q (o :: rest) a w := by
  subst hn hm
  refine wpList_plain hgd fun K hK => ?_
  obtain ⟨g', off', cap', w', hr, h2, h3, h4⟩ := row_append o.type B g off cap l w hR ad c y hy hb hB
  unfold Oper.wp execOp
  simp only [ho, resolve, invoke, builtin, Sem.run_bind, Sem.run_pure, Result.andThen_ok, List.map_toArray, List.map_cons, List.map_nil, hs, hx, hr]
  exact hK _ _ (h g' off' cap' w' h2 h3 h4)
theorem step_row_append {ops : Array Oper} {o : Oper} {a : Act} {w : World} {K : Act → World → Prop} {Q : Exit → Act → World → Prop} {E : Prop} (hgd : o.guard = none) (s x : Operand)
    (ho : o.op = .call { callee := .builtin .append, args := #[s, x], argTypes := #[26, 26] })
    (B g off cap n : Nat) (l : List UInt8) (hs : a.eval s = .slice (some ⟨g, off, none⟩) n cap) (hn : n = l.length) (hR : Row B g off cap l w)
    (ad : Addr) (m c : Nat) (y : List UInt8) (hx : a.eval x = .slice (some ad) m c) (hm : m = y.length) (hy : ∀ j u, (Lib.byteCells y)[j]? = some u → w.cell? (ad.add j) = some u)
    (hb : l.length + y.length ≤ 100000) (hB : B ≤ w.heap.size)
    (h : ∀ g' off' cap' w', Row B g' off' cap' (l ++ y) w' → Chg (fun k => k = g) w w' → (g' = g ∨ w.heap.size ≤ g') → K (a.put o.dst (.slice (some ⟨g', off', none⟩) (n + m) cap')) w') :
    if Region.wanted o (yielded ops a.tmps) = true then Oper.wp Tryd.prog o a w K Q else E := by
  have hw : Region.wanted o (yielded ops a.tmps) = true := by simp [Region.wanted, hgd]
  rw [if_pos hw]
  subst hn hm
  obtain ⟨g', off', cap', w', hr, h2, h3, h4⟩ := row_append o.type B g off cap l w hR ad c y hy hb hB
  unfold Oper.wp execOp
  simp only [ho, resolve, invoke, builtin, Sem.run_bind, Sem.run_pure, Result.andThen_ok, List.map_toArray, List.map_cons, List.map_nil, hs, hx, hr]
  exact h g' off' cap' w' h2 h3 h4
end Go.Proofs.YtmlgfhdjdmfdbaaDoor
