/-
  Proved: laws for a row of bytes that grows by appends while the digits lie in another block. No condition; no statement of the seat stands here.
-/
import Derived.Test.YtmlgfhdjdmfdbaaDoorFtD
namespace Go.Proofs.YtmlgfhdjdmfdbaaDoor
open Go.RowKit Go.ChangeAt Go.Sort
set_option linter.unusedSimpArgs false
set_option linter.unusedVariables false
set_option maxRecDepth 100000
theorem inRow_own {w : World} {B : Nat} {e : TypeId} {sz n vc : Nat} {vo : Option Addr} {xs : List Value} (h2 : w.ownsRow B e sz (.slice vo n vc) n xs) : ∀ k, InRow vo k → B ≤ k ∧ k < w.heap.size := by
  rintro k ⟨x, rfl, rfl⟩
  rcases ownsRow_addr h2 with ⟨h3, _⟩ | ⟨g, h3, h4, h5⟩
  · cases h3
  · injection h3 with h3
    subst h3
    exact ⟨h4, h5⟩
theorem info5 : (Tryd.prog.info? 5).map (fun i => (i.zero, i.size, i.bytes)) = some (some (.int .u8 0), 1, 1) := by kernel_rfl
theorem info_parts5 : ∃ i, Tryd.prog.info? 5 = some i ∧ i.zero = some (.int .u8 0) ∧ i.size = 1 ∧ i.bytes = 1 := by
  have h := info5
  cases hi : Tryd.prog.info? 5 with
  | none => rw [hi] at h; cases h
  | some i =>
    rw [hi] at h
    simp only [Option.map_some, Option.some.injEq, Prod.mk.injEq] at h
    exact ⟨i, rfl, h.1, h.2.1, h.2.2⟩
/-- The row that holds 'out', made since w0; the digits ds lie in the block g. -/
structure RowD (w0 wr : World) (vo : Option Addr) (L vc : Nat) (out : List UInt8) (g : Nat) (ds : List UInt8) : Prop where
  len : L = out.length
  own : wr.ownsRow w0.heap.size 5 1 (.slice vo L vc) L (Lib.byteCells out)
  chg : Chg Nowhere w0 wr
  dig : Digs wr g ds
  off : ¬ InRow vo g
  lt : g < wr.heap.size
theorem Digs.keep {S : Nat → Prop} {w w' : World} {g : Nat} {ds : List UInt8} (h : Digs w g ds) (hc : Chg S w w') (hn : ¬ S g) : Digs w' g ds := fun j hj => hc.cell (h j hj) hn
theorem oneBytes (l : List UInt8) : ∀ u ∈ Lib.byteCells l, u.oneCell' = true := by
  intro u hu
  simp [Lib.byteCells] at hu
  obtain ⟨x, _, rfl⟩ := hu
  rfl
theorem RowD.more {w0 wr w1 w' : World} {vo vo' : Option Addr} {L vc vc' g : Nat} {out new ds : List UInt8} (k : Nat) (hk : new.length = k) (h : RowD w0 wr vo L vc out g ds) (h1 : Chg Nowhere wr w1)
    (hown : w'.ownsRow w0.heap.size 5 1 (.slice vo' (L + k) vc') (L + k) (Lib.byteCells out ++ Lib.byteCells new)) (hc : Chg (InRow vo) w1 w') (hv : vo' = vo ∨ vo' = some ⟨w1.heap.size, 0, none⟩) : RowD w0 w' vo' (L + k) vc' (out ++ new) g ds := by
  subst hk
  have hx : Lib.byteCells (out ++ new) = Lib.byteCells out ++ Lib.byteCells new := by simp [Lib.byteCells]
  have hs := h1.size
  have hs2 := hc.size
  have hlt := h.lt
  refine ⟨by rw [List.length_append, h.len], by rw [hx]; exact hown, (h.chg.trans h1 (fun _ _ h => h)).trans hc fun k hk hs => absurd (inRow_own h.own k hs).1 (by omega), (h.dig.keep h1 (fun h => h)).keep hc h.off, ?_, by omega⟩
  rcases hv with rfl | rfl
  · exact h.off
  · rintro ⟨x, hx, rfl⟩
    injection hx with hx
    subst hx
    exact Nat.lt_irrefl _ (Nat.lt_of_lt_of_le hlt hs)
theorem wp_appB {ops : Array Oper} {rest : List Oper} {o : Oper} {a : Act} {Q : Exit → Act → World → Prop} (hgd : o.guard = none) (s x : Operand)
    (ho : o.op = .call { callee := .builtin .append, args := #[s, x], argTypes := #[26, 26] })
    (w0 wl : World) (vo : Option Addr) (L vc g : Nat) (out ds new : List UInt8) (k : Nat) (hk : new.length = k) (cells : Array Value) (hcells : cells = (Lib.byteCells new).toArray) (hR : RowD w0 wl vo L vc out g ds)
    (hs : a.eval s = .slice vo L vc) (q : Nat) (hx : a.eval x = .slice (some ⟨q, 0, none⟩) k k) (hq : q = wl.heap.size) (hb : L + k ≤ 1000000)
    (h : ∀ vo' vc' w', RowD w0 w' vo' (L + k) vc' (out ++ new) g ds → wpList Tryd.prog ops Q rest (a.put o.dst (.slice vo' (L + k) vc')) w') : wpList Tryd.prog ops Q (o :: rest) a (wl.alloc (.cells cells 5)) := by
  obtain ⟨i, hi, hz0, hz1, hz2⟩ := info_parts5
  subst hcells
  subst hq
  refine wpList_append_fresh _ hgd s x 26 ho w0.heap.size 5 i _ 1 1 Tryd.underlying26 hi hz0 hz1 hz2 rfl (by decide) vo L vc _ hs (hR.own.alloc _) (some ⟨wl.heap.size, 0, none⟩) k k (Lib.byteCells new) hx (by rw [Lib.byteCells, List.length_map, hk, Nat.mul_one])
    (fun h => by cases h) (fun a ha j u hu => cells_new wl (Lib.byteCells new).toArray 5 a ha j u hu) (oneBytes _) (by unfold maxLen; omega) (by omega) (by have := hR.chg.size; simp; omega) ?_
  intro vo' vc' w' h1 h2 h3
  exact h vo' vc' w' (hR.more k hk ((Chg.refl Nowhere wl).alloc _) h1 h2 h3)
/-- .. of a piece of the digits. -/
theorem wp_appS {ops : Array Oper} {rest : List Oper} {o : Oper} {a : Act} {Q : Exit → Act → World → Prop} (hgd : o.guard = none) (s x : Operand)
    (ho : o.op = .call { callee := .builtin .append, args := #[s, x], argTypes := #[26, 26] })
    (w0 wl : World) (vo : Option Addr) (L vc g : Nat) (out ds : List UInt8) (f k c : Nat) (hk : f + k ≤ ds.length) (hR : RowD w0 wl vo L vc out g ds)
    (hs : a.eval s = .slice vo L vc) (hx : a.eval x = .slice (some ⟨g, f, none⟩) k c) (hb : L + k ≤ 1000000)
    (h : ∀ vo' vc' w', RowD w0 w' vo' (L + k) vc' (out ++ (ds.drop f).take k) g ds → wpList Tryd.prog ops Q rest (a.put o.dst (.slice vo' (L + k) vc')) w') : wpList Tryd.prog ops Q (o :: rest) a wl := by
  obtain ⟨i, hi, hz0, hz1, hz2⟩ := info_parts5
  have hl : ((ds.drop f).take k).length = k := by simp; omega
  refine wpList_append_fresh _ hgd s x 26 ho w0.heap.size 5 i _ 1 1 Tryd.underlying26 hi hz0 hz1 hz2 rfl (by decide) vo L vc _ hs hR.own (some ⟨g, f, none⟩) k c (Lib.byteCells ((ds.drop f).take k)) hx (by rw [Lib.byteCells, List.length_map, hl, Nat.mul_one])
    (fun h => by cases h) ?_ (oneBytes _) (by unfold maxLen; omega) (by omega) (by have := hR.chg.size; omega) ?_
  · intro b hb j u hu
    injection hb with hb
    subst hb
    rw [add_cell]
    simp only [Lib.byteCells, List.getElem?_map, Option.map_eq_some_iff] at hu
    obtain ⟨y, hy, rfl⟩ := hu
    have hjk : j < k := by
      have := (List.getElem?_eq_some_iff.1 hy).1
      omega
    rw [List.getElem?_take_of_lt hjk, List.getElem?_drop] at hy
    have hd := hR.dig (f + j) (by omega)
    rw [List.getD_eq_getElem?_getD, hy, Option.getD_some] at hd
    exact hd
  · intro vo' vc' w' h1 h2 h3
    exact h vo' vc' w' (hR.more k hl (Chg.refl Nowhere wl) h1 h2 h3)
end Go.Proofs.YtmlgfhdjdmfdbaaDoor
