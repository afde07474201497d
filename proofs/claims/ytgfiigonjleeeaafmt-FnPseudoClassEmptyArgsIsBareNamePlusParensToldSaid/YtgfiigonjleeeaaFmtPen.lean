/-
  Proved: contract of the css printer's 'print' at this program; how prints follow each other. No statement of the seat stands here.
-/
import Derived.Test.YtgfiigonjleeeaaFmtProg
import Derived.Test.YtgfiigonjleeeaaFmtApp
import Derived.Lib.UnsafeStr
import Derived.StillTailTactics
import Derived.Outline
import Derived.Handy
namespace Go.Proofs.YtgfiigonjleeeaaFmt
open Go.RowKit Go.ChangeAt
set_option linter.unusedSimpArgs false
set_option linter.unusedVariables false
theorem heap_alloc_keep {w : World} {k : Nat} {o : Obj} (h : w.heap[k]? = some o) (p : Obj) : (w.alloc p).heap[k]? = some o := by
  have hk := heap_lt h
  show (w.heap.push p)[k]? = some o
  rw [Array.getElem?_push_lt hk]
  rw [Array.getElem?_eq_getElem hk] at h
  exact h
theorem heap_alloc_at (w : World) (p : Obj) (k : Nat) (hk : k = w.heap.size) : (w.alloc p).heap[k]? = some p := by
  subst hk
  show (w.heap.push p)[w.heap.size]? = some p
  simp
/-- The cells of a printer that is as it was made but for its text. -/
def pc (m a : Bool) (v : Value) : Array Value :=
  #[.pointer none, .slice none 0 0, .map none, .int .i64 0, .int .u32 0, .int .u16 0, .bool m, .bool a, .int .u8 0, .bool false, .int .u8 0, .bool false, .int .u8 0,
    .slice none 0 0, .slice none 0 0, v, .map none, .slice none 0 0, .slice none 0 0, .pointer none, .slice none 0 0, .slice none 0 0, .map none, .slice none 0 0,
    .string ⟨#[]⟩, .int .i64 0, .int .i64 0, .int .i64 0, .int .i64 0, .int .i64 0, .int .i64 0, .bool false, .int .i64 0, .int .i64 0, .int .i64 0, .int .i32 0,
    .int .u32 0, .bool false, .bool false, .bool false, .bool false, .int .i64 0, .int .i64 0]
/-- A printer in block b that has printed out; its row lies at vo, not in b, in a block from B on. -/
structure Pr (B b : Nat) (m a : Bool) (vo : Option Addr) (out : List UInt8) (w : World) : Prop where
  le : B ≤ w.heap.size
  ne : ¬ InRow vo b
  row : ∃ vc, w.heap[b]? = some (.cells (pc m a (.slice vo out.length vc)) 64 (0, 0)) ∧ w.ownsRow B 5 1 (.slice vo out.length vc) out.length (Lib.byteCells out)
theorem inRow_own {w : World} {B : Nat} {e : TypeId} {sz n vc : Nat} {vo : Option Addr} {xs : List Value} (h2 : w.ownsRow B e sz (.slice vo n vc) n xs) : ∀ k, InRow vo k → B ≤ k ∧ k < w.heap.size := by
  rintro k ⟨x, rfl, rfl⟩
  rcases ownsRow_addr h2 with ⟨h3, _⟩ | ⟨g, h3, h4, h5⟩
  · cases h3
  · injection h3 with h3
    subst h3
    exact ⟨h4, h5⟩
theorem Pr.addr {B b : Nat} {m a : Bool} {vo : Option Addr} {out : List UInt8} {w : World} (h : Pr B b m a vo out w) : ∀ k, InRow vo k → B ≤ k ∧ k < w.heap.size := by
  obtain ⟨vc, _, h2⟩ := h.row
  exact inRow_own h2
theorem Pr.lt_size {B b : Nat} {m a : Bool} {vo : Option Addr} {out : List UInt8} {w : World} (h : Pr B b m a vo out w) : b < w.heap.size := by
  obtain ⟨vc, h1, _⟩ := h.row
  exact heap_lt h1
theorem Pr.kept {S : Nat → Prop} {B b : Nat} {m a : Bool} {vo : Option Addr} {out : List UInt8} {w w' : World} (h : Pr B b m a vo out w) (hc : Chg S w w') (hb : ¬ S b) (hr : ∀ k, InRow vo k → ¬ S k) : Pr B b m a vo out w' := by
  obtain ⟨vc, h1, h2⟩ := h.row
  refine ⟨Nat.le_trans h.le hc.size, h.ne, vc, hc.heap h1 hb, hc.owns h2 fun k hk => ?_⟩
  cases vo with
  | none => simp [Value.ownBlock] at hk
  | some x => exact hr k ⟨x, rfl, by simpa [Value.ownBlock] using hk⟩
theorem Pr.wrote {B b : Nat} {m a : Bool} {vo : Option Addr} {out : List UInt8} {w w' : World} (h : Pr B b m a vo out w) (hc : Chg Nowhere w w') : Pr B b m a vo out w' := h.kept hc (fun h => h) (fun _ _ h => h)
theorem Pr.cell {B b : Nat} {m a : Bool} {vo : Option Addr} {out : List UInt8} {w : World} (h : Pr B b m a vo out w) (j : Nat) (hj : j ≠ 15) : w.cell? ⟨b, j, none⟩ = (pc m a .nilFunc)[j]? := by
  obtain ⟨vc, h1, _⟩ := h.row
  rw [cell_of_heap h1 j]
  have e : pc m a (.slice vo out.length vc) = (pc m a .nilFunc).setIfInBounds 15 (.slice vo out.length vc) := rfl
  rw [e, Array.getElem?_setIfInBounds_ne (by omega)]
/-- Prints changed only the printer's block b, the row at vo and new blocks; the row lies now at vo', the old place or a new one. -/
structure Wrote (b : Nat) (vo vo' : Option Addr) (w w' : World) : Prop where
  chg : Chg (fun k => k = b ∨ InRow vo k) w w'
  place : vo' = vo ∨ ∃ g, vo' = some ⟨g, 0, none⟩ ∧ w.heap.size ≤ g
theorem Wrote.refl (b : Nat) (vo : Option Addr) (w : World) : Wrote b vo vo w w := ⟨Chg.refl _ w, .inl rfl⟩
theorem Wrote.alloc {b : Nat} {vo vo' : Option Addr} {w w' : World} (h : Wrote b vo vo' w w') (o : Obj) : Wrote b vo vo' w (w'.alloc o) := ⟨h.chg.alloc o, h.place⟩
theorem Wrote.trans {b : Nat} {vo vo1 vo2 : Option Addr} {w w1 w2 : World} (h : Wrote b vo vo1 w w1) (k : Wrote b vo1 vo2 w1 w2) : Wrote b vo vo2 w w2 := by
  refine ⟨h.chg.trans k.chg fun j hj hs => ?_, ?_⟩
  · rcases hs with rfl | hs
    · exact .inl rfl
    · rcases h.place with rfl | ⟨g, rfl, hg⟩
      · exact .inr hs
      · obtain ⟨x, hx, rfl⟩ := hs
        injection hx with hx
        subst hx
        simp at hj
        omega
  · rcases k.place with rfl | ⟨g, rfl, hg⟩
    · exact h.place
    · exact .inr ⟨g, rfl, Nat.le_trans h.chg.size hg⟩
/-- A block that is neither the printer's nor the row's stays, and stays out of the row. -/
theorem Wrote.heap {b k : Nat} {vo vo' : Option Addr} {w w' : World} {o : Obj} (h : Wrote b vo vo' w w') (hne : k ≠ b) (hr : ¬ InRow vo k) (ho : w.heap[k]? = some o) : w'.heap[k]? = some o :=
  h.chg.heap ho (by rintro (h1 | h1); exact hne h1; exact hr h1)
theorem Wrote.out {b k : Nat} {vo vo' : Option Addr} {w w' : World} (h : Wrote b vo vo' w w') (hr : ¬ InRow vo k) (hk : k < w.heap.size) : ¬ InRow vo' k := by
  rcases h.place with rfl | ⟨g, rfl, hg⟩
  · exact hr
  · rintro ⟨x, hx, rfl⟩
    injection hx with hx
    subst hx
    simp at hk
    omega
theorem Wrote.size {b : Nat} {vo vo' : Option Addr} {w w' : World} (h : Wrote b vo vo' w w') : w.heap.size ≤ w'.heap.size := h.chg.size
/-- A call that answers nothing and leaves the text out. -/
def Wrt (B b : Nat) (m a : Bool) (vo : Option Addr) (out : List UInt8) (w : World) (e : Ending) (w' : World) : Prop :=
  e = .returned (.tuple #[]) ∧ ∃ vo', Pr B b m a vo' out w' ∧ Wrote b vo vo' w w'
def WrtB (B b : Nat) (m a : Bool) (vo : Option Addr) (out : List UInt8) (w : World) (e : Ending) (w' : World) : Prop :=
  ∃ r : Bool, e = .returned (.bool r) ∧ ∃ vo', Pr B b m a vo' out w' ∧ Wrote b vo vo' w w'
theorem info5 : (Tryf.prog.info? 5).map (fun i => (i.zero, i.size, i.bytes)) = some (some (.int .u8 0), 1, 1) := by kernel_rfl
theorem printed_mk {B b : Nat} {m a : Bool} {out : List UInt8} {t : ByteArray} {w w1 : World} {vo vo' : Option Addr} {vc vc' : Nat} (h : Pr B b m a vo out w) (hblk : w.heap[b]? = some (.cells (pc m a (.slice vo out.length vc)) 64 (0, 0)))
    (hc : Chg (InRow vo) w w1) (hown1 : w1.ownsRow B 5 1 (.slice vo' (out.length + t.size) vc') (out.length + t.size) (Lib.byteCells out ++ Lib.strCells t)) (hf : vo' = vo ∨ vo' = some ⟨w.heap.size, 0, none⟩) :
    Wrt B b m a vo (out ++ t.data.toList) w (.returned (.tuple #[])) (w1.setCell ⟨b, 15, none⟩ (.slice vo' (out.length + t.size) vc')) := by
  have hb1 := hc.heap hblk h.ne
  have hbw := heap_lt hblk
  have hl : (out ++ t.data.toList).length = out.length + t.size := by rw [List.length_append, Array.length_toList]; rfl
  have hx : Lib.byteCells (out ++ t.data.toList) = Lib.byteCells out ++ Lib.strCells t := by simp [Lib.byteCells, Lib.strCells]
  have hne' : ¬ InRow vo' b := by
    rcases hf with rfl | rfl
    · exact h.ne
    · rintro ⟨x, hx, rfl⟩
      injection hx with hx
      subst hx
      simp at hbw
  refine ⟨rfl, vo', ⟨?_, hne', vc', ?_, ?_⟩, (hc.mono (fun _ _ h => .inr h)).setCell (fun _ => .inl rfl) _, hf.imp id fun h => ⟨_, h, Nat.le_refl _⟩⟩
  · exact Nat.le_trans h.le (Nat.le_trans hc.size (by simp [World.setCell]))
  · rw [heap_setCell hb1, hl]
    rfl
  · rw [hl, hx]
    refine ((Chg.refl (fun k => k = b) w1).setCell (p := ⟨b, 15, none⟩) (fun _ => rfl) _).owns hown1 fun k hk hs => ?_
    rcases ownsRow_addr hown1 with ⟨h3, _⟩ | ⟨g, h3, h4, h5⟩
    · subst h3; simp [Value.ownBlock] at hk
    · subst h3
      simp [Value.ownBlock] at hk
      exact hne' ⟨_, rfl, by simp; omega⟩
set_option maxRecDepth 100000 in
theorem print_w (B b : Nat) (m a : Bool) (vo : Option Addr) (out : List UInt8) (t : ByteArray) (w : World) (h : Pr B b m a vo out w) (ho : out.length ≤ 140000000000) (ht : t.size ≤ 140000000) :
    Calls Tryf.prog 21 #[.pointer (some ⟨b, 0, none⟩), .string t] w (Wrt B b m a vo (out ++ t.data.toList) w) := by
  obtain ⟨i0, hi, hz0, hz1, hz2⟩ := info_parts info5
  obtain ⟨vc, hblk, hown⟩ := h.row
  have hle := h.le
  have hc := cell_of_heap hblk 15
  simp [pc] at hc
  have Hp := Lib.hid h
  have Hblk := Lib.hid hblk
  have Hown := Lib.hid hown
  have hsz := heap_lt hblk
  clear h hblk hown
  go_enter Tryf.func21, Tryf.ntmps21
  go_wp2_with (at_builtin; go_loud (refine wpList_append_str_fresh _ rfl (.tmp 8) (.tmp 9) 28 9 rfl B 5 i0 Tryf.underlying28 Tryf.underlying9 hi hz0 hz1 hz2 vo out.length vc (Lib.byteCells out) rfl Hown.out t rfl (by unfold maxLen; omega) (by omega) hle ?_; intro vo' vc' w1 hown1 hg1 hf1; have Hg1 := Lib.hid hg1; have Hown1 := Lib.hid hown1; have Hf1 := Lib.hid hf1; have hb1 := hg1.heap Hblk.out Hp.out.ne; have hc1 := cell_of_heap hb1 15; have hz1 := frozen_of_heap hb1 15; simp [pc] at hc1; clear hg1 hown1 hf1 hb1))
  go_end0
  exact printed_mk Hp.out Hblk.out Hg1.out Hown1.out Hf1.out
end Go.Proofs.YtgfiigonjleeeaaFmt
