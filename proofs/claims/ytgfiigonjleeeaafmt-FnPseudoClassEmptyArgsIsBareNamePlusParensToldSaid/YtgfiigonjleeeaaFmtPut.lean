/-
  Proved: contracts of the css printer's printWithEscape without an escape and with a backslash. No statement of the seat stands here.
-/
import Derived.Test.YtgfiigonjleeeaaFmtWould
import Derived.RegionTactic
import Derived.Deep.RegionLaw
namespace Go.Proofs.YtgfiigonjleeeaaFmt
open Go.RowKit Go.ChangeAt
set_option linter.unusedSimpArgs false
set_option linter.unusedVariables false
set_option maxRecDepth 100000
def four : Array Value := #[.int .u8 0, .int .u8 0, .int .u8 0, .int .u8 0]
theorem chg_setCells (b : Nat) (w0 : World) : ∀ (vs : List Value) (o : Nat) (w : World), Chg (fun k => k = b) w0 w → Chg (fun k => k = b) w0 (w.setCells b o vs)
  | [], o, w, h => h
  | v :: vs, o, w, h => chg_setCells b w0 vs (o + 1) (w.setCell ⟨b, o, none⟩ v) (h.setCell (fun _ => rfl) _)
def EncOut (b c : Nat) (w : World) (e : Ending) (w' : World) : Prop :=
  e = .returned (.int .i64 ((Lib.encodeRune (c : Int)).length : Nat)) ∧ Chg (fun k => k = b) w w' ∧ ∀ j u, (Lib.byteCells (Lib.encodeRune (c : Int)))[j]? = some u → w'.cell? ((⟨b, 0, none⟩ : Addr).add j) = some u
theorem enc44 (b c : Nat) (hc : c ≤ 1114111) (w : World) (e : TypeId) (h : w.heap[b]? = some (.cells four e (0, 0))) :
    Calls Tryf.prog 44 #[.slice (some ⟨b, 0, none⟩) 4 4, .int .i32 c] w (EncOut b c w) := by
  refine (encode44 b c hc w e h).mono fun ex w' ⟨h1, h2⟩ => ?_
  subst h2
  have hl : (Lib.runeCells (c : Int)).length = (Lib.encodeRune (c : Int)).length := by simp [Lib.runeCells, Lib.encodeRune]
  have h4 := (encodeRune_len (c : Int)).2
  refine ⟨by rw [h1, hl], chg_setCells b w _ _ _ (Chg.refl _ _), ?_⟩
  rw [Lib.byteCells_encodeRune]
  intro j u hj
  have hj' : j < (Lib.runeCells (c : Int)).length := (List.getElem?_eq_some_iff.1 hj).1
  have := World.cell?_setCells_in b (Lib.runeCells (c : Int)) 0 w (fun i hi => by
    rw [Nat.zero_add, cell_of_heap h]
    have h5 : i = 0 ∨ i = 1 ∨ i = 2 ∨ i = 3 := by omega
    rcases h5 with rfl | rfl | rfl | rfl <;> rfl) j hj'
  rw [add_cell, this, ← List.getElem?_eq_getElem hj']
  exact hj
theorem list_mk {B b L n : Nat} {m a : Bool} {out t : List UInt8} {w w1 : World} {vo vo' : Option Addr} {vc vc' : Nat} (hL : L = out.length) (hn : n = t.length) (h : Pr B b m a vo out w) (hblk : w.heap[b]? = some (.cells (pc m a (.slice vo L vc)) 64 (0, 0)))
    (hc : Chg (InRow vo) w w1) (hown1 : w1.ownsRow B 5 1 (.slice vo' (L + n) vc') (L + n) (Lib.byteCells out ++ Lib.byteCells t)) (hf : vo' = vo ∨ ∃ g, vo' = some ⟨g, 0, none⟩ ∧ w.heap.size ≤ g) :
    Pr B b m a vo' (out ++ t) (w1.setCell ⟨b, 15, none⟩ (.slice vo' (L + n) vc')) ∧ Wrote b vo vo' w (w1.setCell ⟨b, 15, none⟩ (.slice vo' (L + n) vc')) := by
  subst hL hn
  have hb1 := hc.heap hblk h.ne
  have hbw := heap_lt hblk
  have hl : (out ++ t).length = out.length + t.length := List.length_append
  have hx : Lib.byteCells (out ++ t) = Lib.byteCells out ++ Lib.byteCells t := by simp [Lib.byteCells]
  have hne' : ¬ InRow vo' b := by
    rcases hf with rfl | ⟨g, rfl, hg⟩
    · exact h.ne
    · rintro ⟨x, hx, rfl⟩
      injection hx with hx
      subst hx
      simp at hbw
      omega
  refine ⟨⟨?_, hne', vc', ?_, ?_⟩, (hc.mono (fun _ _ h => .inr h)).setCell (fun _ => .inl rfl) _, hf⟩
  · exact Nat.le_trans h.le (Nat.le_trans hc.size (by simp [World.setCell]))
  · rw [heap_setCell hb1, hl]
    rfl
  · rw [hl, hx]
    refine ((Chg.refl (fun k => k = b) w1).setCell (p := ⟨b, 15, none⟩) (fun _ => rfl) _).owns hown1 fun k hk hs => ?_
    rcases ownsRow_addr hown1 with ⟨h3, _⟩ | ⟨g, h3, h4, h5⟩
    · subst h3; simp [Value.ownBlock] at hk
    · subst h3
      simp [Value.ownBlock] at hk
      exact hne' ⟨_, rfl, by simp; omega⟩
theorem oneAll_bytes (l : List UInt8) : ∀ u ∈ Lib.byteCells l, u.oneCell' = true := by
  intro u hu
  simp [Lib.byteCells] at hu
  obtain ⟨x, _, rfl⟩ := hu
  rfl
theorem Pr.drew {B b : Nat} {m a : Bool} {vo : Option Addr} {out : List UInt8} {w : World} (h : Pr B b m a vo out w) : Pr B b m a vo out w.drew := h.wrote ((Chg.refl Nowhere w).drew)
set_option maxHeartbeats 4000000 in
theorem put_none (B b c : Nat) (m a : Bool) (vo : Option Addr) (out : List UInt8) (rem : ByteArray) (w : World) (hc : c ≤ 1114111) (h : Pr B b m a vo out w) (ho : out.length ≤ 140000000000) :
    Calls Tryf.prog 27 #[.pointer (some ⟨b, 0, none⟩), .int .i32 c, .int .u8 0, .string rem, .bool false] w (Wrt B b m a vo (out ++ Lib.encodeRune (c : Int)) w) := by
  obtain ⟨i0, hi, hz0, hz1, hz2⟩ := info_parts info5
  have hn4 := (encodeRune_len (c : Int)).2
  have hbs := h.lt_size
  have Hp := Lib.hid h
  clear h
  go_enter Tryf.func27, Tryf.ntmps27
  go_wp2_with fail
  have hp1 : Pr B b m a vo out (w.alloc (.cells four 117)) := Hp.out.wrote ((Chg.refl Nowhere w).alloc _)
  have Hp1 := Lib.hid hp1
  clear hp1
  refine (enc44 w.heap.size c hc _ 117 (heap_alloc_new w _)).mono ?_
  rintro ex w2 ⟨rfl, hch, hcl⟩
  have hp2 : Pr B b m a vo out w2 := Hp1.out.kept hch (by omega) (fun k hk hs => by have := (Hp.out.addr _ hk).2; omega)
  have hw2 : Wrote b vo vo w w2 := ⟨(((Chg.refl (fun k => k = w.heap.size) w).alloc _).trans hch (fun _ _ h => h)).mono (fun k hk hs => by omega), .inl rfl⟩
  have hs2 : w.heap.size < w2.heap.size := by have := hch.size; simp at this; omega
  generalize hnn : (Lib.encodeRune (c : Int)).length = n at hn4
  have Hnn := Lib.hid hnn
  have Hw2 := Lib.hid hw2
  have Hcl := Lib.hid hcl
  clear hch hw2 hnn hcl
  obtain ⟨vc, hblk, hown⟩ := hp2.row
  obtain ⟨L, hL⟩ : ∃ L, L = out.length := ⟨_, rfl⟩
  rw [← hL] at hblk hown ho
  have HL := Lib.hid hL
  clear hL
  have hc15 := cell_of_heap hblk 15
  simp only [pc, List.getElem?_toArray, List.getElem?_cons_succ, List.getElem?_cons_zero] at hc15
  have hle := hp2.le
  have Hp2 := Lib.hid hp2
  have Hblk := Lib.hid hblk; have Hown := Lib.hid hown
  have hszb := heap_lt hblk
  clear hblk hown hp2
  have hn0 : (0 : Int) ≤ (n : Int) := by omega
  have hn1 : (n : Int) ≤ 4 := by omega
  go_wp2_with fail
  go_region_law (go_loud (refine step_append_fresh _ rfl (.tmp 51) (.tmp 53) 28 rfl B 5 i0 _ 1 1 Tryf.underlying28 hi hz0 hz1 hz2 rfl (by decide) vo L vc _ (by simp [Act.eval, Act.put]) (((Chg.refl Nowhere w2).drew).owns Hown.out fun _ _ h => h) (some ⟨w.heap.size, 0, none⟩) n 4 (Lib.byteCells (Lib.encodeRune (c : Int))) (by simp [Act.eval, Act.put]) (by simp [Lib.byteCells, Hnn.out]) (by simp) (fun x hx => by injection hx with hx; subst hx; exact Hcl.out) (oneAll_bytes _) (by unfold maxLen; omega) (by omega) (show B ≤ w2.drew.heap.size from Hp2.out.le) ?_; intro vb vcb wb hown1 hg1 hf1; have hb1 := hg1.heap (show w2.drew.heap[b]? = _ from Hblk.out) Hp2.out.ne; have cb := cell_of_heap hb1 15; have fb := frozen_of_heap hb1 15; simp only [pc, List.getElem?_toArray, List.getElem?_cons_succ, List.getElem?_cons_zero] at cb; have Hb1 := Lib.hid hb1; have Hown1 := Lib.hid hown1; have Hg1 := Lib.hid hg1; have Hf1 := Lib.hid hf1; clear hb1 hown1 hg1 hf1))
  all_goals
    obtain ⟨hp, hw⟩ := list_mk HL.out Hnn.out.symm Hp2.out Hblk.out (((Chg.refl _ _).drew).trans Hg1.out (fun _ _ h => h)) Hown1.out (Hf1.out.imp id fun h => ⟨_, h, Nat.le_refl _⟩)
    have Hp3 := Lib.hid hp
    have Hw3 := Lib.hid (Hw2.out.trans hw)
    clear hp hw
    go_wp2_with fail
    go_end0
    exact ⟨rfl, _, Hp3.out, Hw3.out⟩
end Go.Proofs.YtgfiigonjleeeaaFmt
