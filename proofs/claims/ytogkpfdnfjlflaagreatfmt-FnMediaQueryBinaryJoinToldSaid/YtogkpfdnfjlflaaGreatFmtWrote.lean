/-
  Proved: how prints follow each other (what they change, where the row lies). No condition; no statement of the seat stands here.
-/
import Derived.Test.YtogkpfdnfjlflaaGreatFmtTokens
namespace Go.Proofs.YtogkpfdnfjlflaaGreatFmt
open Go.RowKit Go.ChangeAt
set_option linter.unusedSimpArgs false
set_option linter.unusedVariables false
/-- Prints changed only the printer's block b, the row at vo and new blocks; the row lies now at vo', the old place or a new one. -/
structure Wrote (b : Nat) (vo vo' : Option Addr) (w w' : World) : Prop where
  chg : Chg (fun k => k = b ∨ InRow vo k) w w'
  place : vo' = vo ∨ ∃ g, vo' = some ⟨g, 0, none⟩ ∧ w.heap.size ≤ g
theorem Wrote.refl (b : Nat) (vo : Option Addr) (w : World) : Wrote b vo vo w w := ⟨Chg.refl _ w, .inl rfl⟩
theorem Wrote.alloc {b : Nat} {vo vo' : Option Addr} {w w' : World} (h : Wrote b vo vo' w w') (o : Obj) : Wrote b vo vo' w (w'.alloc o) := ⟨h.chg.alloc o, h.place⟩
theorem Wrote.trans {b : Nat} {vo vo1 vo2 : Option Addr} {w w1 w2 : World} (h : Wrote b vo vo1 w w1) (k : Wrote b vo1 vo2 w1 w2) : Wrote b vo vo2 w w2 := by
  refine ⟨h.chg.trans k.chg fun j hj hs => ?_, ?_⟩
  · rcases hs with rfl | hs
    · exact .inl rfl
    · rcases h.place with rfl | ⟨g, rfl, hg⟩
      · exact .inr hs
      · obtain ⟨x, hx, rfl⟩ := hs
        injection hx with hx
        subst hx
        simp at hj
        omega
  · rcases k.place with rfl | ⟨g, rfl, hg⟩
    · exact h.place
    · exact .inr ⟨g, rfl, Nat.le_trans h.chg.size hg⟩
/-- A block that is neither the printer's nor the row's stays. -/
theorem Wrote.heap {B b k : Nat} {m : Bool} {vo vo' : Option Addr} {out : List UInt8} {w w' : World} {o : Obj} (h : Wrote b vo vo' w w') (hp : Pr B b m vo out w) (hk : k < B) (hne : k ≠ b) (ho : w.heap[k]? = some o) : w'.heap[k]? = some o :=
  h.chg.heap ho (by rintro (h1 | h1); exact hne h1; exact absurd (hp.addr k h1).1 (by omega))
theorem Wrote.size {b : Nat} {vo vo' : Option Addr} {w w' : World} (h : Wrote b vo vo' w w') : w.heap.size ≤ w'.heap.size := h.chg.size
def Wrt (B b : Nat) (m : Bool) (vo : Option Addr) (out : List UInt8) (w : World) (e : Ending) (w' : World) : Prop :=
  e = .returned (.tuple #[]) ∧ ∃ vo', Pr B b m vo' out w' ∧ Wrote b vo vo' w w'
theorem print_w (B b : Nat) (m : Bool) (vo : Option Addr) (out : List UInt8) (t : ByteArray) (w : World) (h : Pr B b m vo out w) (ho : out.length ≤ 140000000000) (ht : t.size ≤ 140000000) :
    Calls Tryz.prog 12 #[.pointer (some ⟨b, 0, none⟩), .string t] w (Wrt B b m vo (out ++ t.data.toList) w) :=
  (print_any B b m vo out t w h ho ht).mono (by
    rintro e w1 ⟨rfl, vo', h1, h2, h3⟩
    exact ⟨rfl, vo', h1, h2, h3.imp id fun h => ⟨_, h, Nat.le_refl _⟩⟩)
def WrtB (B b : Nat) (m : Bool) (vo : Option Addr) (out : List UInt8) (w : World) (e : Ending) (w' : World) : Prop :=
  ∃ r : Bool, e = .returned (.bool r) ∧ ∃ vo', Pr B b m vo' out w' ∧ Wrote b vo vo' w w'
theorem tokens_w (B b g : Nat) (m : Bool) (out : List UInt8) (t : ByteArray) (w : World) (vo : Option Addr) (h : Pr B b m vo out w) (ho : out.length ≤ 140000000000) (ht : t.size ≤ 140000000) (hg : w.heap[g]? = some (.cells (tokCells t) 39 (0, 0))) (hgb : g < B) (hne : g ≠ b) :
    Calls Tryz.prog 13 #[.pointer (some ⟨b, 0, none⟩), .slice (some ⟨g, 0, none⟩) 1 1, .agg #[.int .i32 0, .int .u8 0, .bool false]] w (WrtB B b m vo (out ++ t.data.toList) w) :=
  (tokens_any B b g m out t w vo h ho ht hg hgb hne).mono (by
    rintro e w1 ⟨⟨r, rfl⟩, vo', h1, h2, h3⟩
    exact ⟨r, rfl, vo', h1, h2, h3⟩)
end Go.Proofs.YtogkpfdnfjlflaaGreatFmt
