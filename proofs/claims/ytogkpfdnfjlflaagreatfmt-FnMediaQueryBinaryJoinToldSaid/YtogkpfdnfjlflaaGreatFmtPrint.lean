/-
  Proved: contract of the css printer's 'print' at this program. No statement of the seat stands here.
-/
import Derived.Test.YtogkpfdnfjlflaaGreatFmtProg
import Derived.Test.YtogkpfdnfjlflaaGreatFmtApp
import Derived.Lib.UnsafeStr
import Derived.StillTailTactics
import Derived.Outline
namespace Go.Proofs.YtogkpfdnfjlflaaGreatFmt
open Go.RowKit Go.ChangeAt
set_option linter.unusedSimpArgs false
set_option linter.unusedVariables false

/-- The cells of a printer that is as it was made but for its text. -/
def pc (m : Bool) (v : Value) : Array Value :=
  #[.pointer none, .slice none 0 0, .map none, .int .i64 0, .int .u32 0, .int .u16 0, .bool m, .bool false, .int .u8 0, .bool false, .int .u8 0, .bool false, .int .u8 0,
    .slice none 0 0, .slice none 0 0, v, .map none, .slice none 0 0, .slice none 0 0, .pointer none, .slice none 0 0, .slice none 0 0, .map none, .slice none 0 0,
    .string ⟨#[]⟩, .int .i64 0, .int .i64 0, .int .i64 0, .int .i64 0, .int .i64 0, .int .i64 0, .bool false, .int .i64 0, .int .i64 0, .int .i64 0, .int .i32 0,
    .int .u32 0, .bool false, .bool false, .bool false, .bool false, .int .i64 0, .int .i64 0]
/-- A printer in block b that has printed 'out'; its row lies at vo, in a block from B on. -/
structure Pr (B b : Nat) (m : Bool) (vo : Option Addr) (out : List UInt8) (w : World) : Prop where
  lt : b < B
  le : B ≤ w.heap.size
  row : ∃ vc, w.heap[b]? = some (.cells (pc m (.slice vo out.length vc)) 70 (0, 0)) ∧ w.ownsRow B 5 1 (.slice vo out.length vc) out.length (Lib.byteCells out)
theorem Pr.addr {B b : Nat} {m : Bool} {vo : Option Addr} {out : List UInt8} {w : World} (h : Pr B b m vo out w) : ∀ k, InRow vo k → B ≤ k ∧ k < w.heap.size := by
  obtain ⟨vc, _, h2⟩ := h.row
  rintro k ⟨x, rfl, rfl⟩
  rcases ownsRow_addr h2 with ⟨h3, _⟩ | ⟨g, h3, h4, h5⟩
  · cases h3
  · injection h3 with h3
    subst h3
    exact ⟨h4, h5⟩
theorem Pr.kept {S : Nat → Prop} {B b : Nat} {m : Bool} {vo : Option Addr} {out : List UInt8} {w w' : World} (h : Pr B b m vo out w) (hc : Chg S w w') (hb : ¬ S b) (hr : ∀ k, InRow vo k → ¬ S k) : Pr B b m vo out w' := by
  obtain ⟨vc, h1, h2⟩ := h.row
  refine ⟨h.lt, Nat.le_trans h.le hc.size, vc, hc.heap h1 hb, hc.owns h2 fun k hk => ?_⟩
  cases vo with
  | none => simp [Value.ownBlock] at hk
  | some x => exact hr k ⟨x, rfl, by simpa [Value.ownBlock] using hk⟩
/-- What print does: the text grows; the printer's block, its row and new blocks change, nothing else; the new row is the old one or new. -/
def Printed (B b : Nat) (m : Bool) (vo : Option Addr) (out : List UInt8) (w : World) (e : Ending) (w' : World) : Prop :=
  e = .returned (.tuple #[]) ∧ ∃ vo', Pr B b m vo' out w' ∧ Chg (fun k => k = b ∨ InRow vo k) w w' ∧ (vo' = vo ∨ vo' = some ⟨w.heap.size, 0, none⟩)

theorem info5 : (Tryz.prog.info? 5).map (fun i => (i.zero, i.size, i.bytes)) = some (some (.int .u8 0), 1, 1) := by kernel_rfl
theorem printed_mk {B b : Nat} {m : Bool} {out : List UInt8} {t : ByteArray} {w w1 : World} {vo vo' : Option Addr} {vc vc' : Nat} (h : Pr B b m vo out w) (hblk : w.heap[b]? = some (.cells (pc m (.slice vo out.length vc)) 70 (0, 0)))
    (hc : Chg (InRow vo) w w1) (hown1 : w1.ownsRow B 5 1 (.slice vo' (out.length + t.size) vc') (out.length + t.size) (Lib.byteCells out ++ Lib.strCells t)) (hf : vo' = vo ∨ vo' = some ⟨w.heap.size, 0, none⟩) :
    Printed B b m vo (out ++ t.data.toList) w (.returned (.tuple #[])) (w1.setCell ⟨b, 15, none⟩ (.slice vo' (out.length + t.size) vc')) := by
  have hlt := h.lt
  have hb1 := hc.heap hblk (fun hk => by have := (h.addr b hk).1; omega)
  have hl : (out ++ t.data.toList).length = out.length + t.size := by rw [List.length_append, Array.length_toList]; rfl
  have hx : Lib.byteCells (out ++ t.data.toList) = Lib.byteCells out ++ Lib.strCells t := by simp [Lib.byteCells, Lib.strCells]
  refine ⟨rfl, vo', ⟨h.lt, ?_, vc', ?_, ?_⟩, (hc.mono (fun _ _ h => .inr h)).setCell (fun _ => .inl rfl) _, hf⟩
  · exact Nat.le_trans h.le (Nat.le_trans hc.size (by simp [World.setCell]))
  · rw [heap_setCell hb1, hl]
    rfl
  · rw [hl, hx]
    refine ((Chg.refl (fun k => k = b) w1).setCell (p := ⟨b, 15, none⟩) (fun _ => rfl) _).owns hown1 fun k hk hs => ?_
    rcases ownsRow_addr hown1 with ⟨h3, _⟩ | ⟨g, h3, h4, h5⟩
    · subst h3; simp [Value.ownBlock] at hk
    · subst h3
      simp [Value.ownBlock] at hk
      omega

set_option maxRecDepth 100000 in
theorem print_any (B b : Nat) (m : Bool) (vo : Option Addr) (out : List UInt8) (t : ByteArray) (w : World) (h : Pr B b m vo out w) (ho : out.length ≤ 140000000000) (ht : t.size ≤ 140000000) :
    Calls Tryz.prog 12 #[.pointer (some ⟨b, 0, none⟩), .string t] w (Printed B b m vo (out ++ t.data.toList) w) := by
  obtain ⟨i0, hi, hz0, hz1, hz2⟩ := info_parts info5
  obtain ⟨vc, hblk, hown⟩ := h.row
  have hlt := h.lt
  have hle := h.le
  have hc := cell_of_heap hblk 15
  simp [pc] at hc
  have Hp := Lib.hid h
  have Hblk := Lib.hid hblk
  have Hown := Lib.hid hown
  have hsz := heap_lt hblk
  clear h hblk hown
  go_enter Tryz.func12, Tryz.ntmps12
  go_wp2_with (at_builtin; go_loud (refine wpList_append_str_fresh _ rfl (.tmp 8) (.tmp 9) 29 9 rfl B 5 i0 Tryz.underlying29 Tryz.underlying9 hi hz0 hz1 hz2 vo out.length vc (Lib.byteCells out) rfl Hown.out t rfl (by unfold maxLen; omega) (by omega) hle ?_; intro vo' vc' w1 hown1 hg1 hf1; have Hg1 := Lib.hid hg1; have Hown1 := Lib.hid hown1; have Hf1 := Lib.hid hf1; have hb1 := hg1.heap Hblk.out (fun hk => by have := (Hp.out.addr b hk).1; omega); have hc1 := cell_of_heap hb1 15; have hz1 := frozen_of_heap hb1 15; simp [pc] at hc1; clear hg1 hown1 hf1 hb1))
  go_end0
  exact printed_mk Hp.out Hblk.out Hg1.out Hown1.out Hf1.out
end Go.Proofs.YtogkpfdnfjlflaaGreatFmt
