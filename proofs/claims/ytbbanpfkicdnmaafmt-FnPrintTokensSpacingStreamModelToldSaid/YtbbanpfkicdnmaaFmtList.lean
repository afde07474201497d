/-
  Proved: what a flat list of identifiers and commas is in memory, and the text that printTokens makes of it. No statement of the seat stands here.
-/
import Derived.Test.YtbbanpfkicdnmaaFmtIdent
import Derived.Test.YtbbanpfkicdnmaaFmtIndent
namespace Go.Proofs.YtbbanpfkicdnmaaFmt
open Go.RowKit Go.ChangeAt
set_option linter.unusedSimpArgs false
set_option linter.unusedVariables false
/-- A flat token: its text, its kind and its whitespace flags. -/
def tokCells (t : ByteArray) (k ws : Int) : Array Value := #[.pointer none, .string t, .int .i32 0, .int .u32 0, .int .u16 0, .int .u8 k, .int .u8 ws]
/-- Token i of the list: at the even places the texts T, at the odd places commas followed by whitespace. -/
def tokAt (T : Nat → ByteArray) (lead : Bool) (i : Nat) : Array Value :=
  if i % 2 = 1 then tokCells ⟨#[44]⟩ 10 2 else tokCells (T (i / 2)) 29 (if i = 0 ∧ lead = true then 1 else 0)
structure ListAt (b : Nat) (vo : Option Addr) (g N : Nat) (T : Nat → ByteArray) (lead : Bool) (w : World) : Prop where
  tok : ∀ i, i < N → ∀ q, q < 7 → w.cell? ⟨g, i * 7 + q, none⟩ = (tokAt T lead i)[q]?
  ne : g ≠ b ∧ ¬ InRow vo g
theorem Wrote.cell {b : Nat} {vo vo' : Option Addr} {w w' : World} {a : Addr} {v : Value} (h : Wrote b vo vo' w w') (h1 : a.block ≠ b ∧ ¬ InRow vo a.block) (hc : w.cell? a = some v) : w'.cell? a = some v :=
  h.chg.cell hc (by rintro (h2 | h2); exact h1.1 h2; exact h1.2 h2)
/-- Is whitespace owed ahead of token k. -/
def hsAt (lead : Bool) (k : Nat) : Bool := if k = 0 then lead else k % 2 == 0
/-- What is printed of the first k tokens. -/
def textTo (sep : List UInt8) (T : Nat → ByteArray) (lead : Bool) : Nat → List UInt8
  | 0 => []
  | k + 1 => textTo sep T lead k ++ (if k % 2 = 1 then [44] else (if k = 0 then (if lead then sep else []) else sep) ++ (T (k / 2)).data.toList)
def WrtF (B b : Nat) (m a : Bool) (vo : Option Addr) (out : List UInt8) (w : World) (e : Ending) (w' : World) : Prop :=
  e = .returned (.bool false) ∧ ∃ vo', Pr B b m a vo' out w' ∧ Wrote b vo vo' w w'
theorem tok_some (T : Nat → ByteArray) (lead : Bool) (k q : Nat) (hq : q < 7) : ∃ v, (tokAt T lead k)[q]? = some v := by
  unfold tokAt
  split <;> exact ⟨_, by simp [tokCells, hq]; rfl⟩
theorem ListAt.after {b g N : Nat} {vo vr : Option Addr} {T : Nat → ByteArray} {lead : Bool} {w wr : World} (h : ListAt b vo g N T lead w) (hw : Wrote b vo vr w wr) (hg : g < w.heap.size) : ListAt b vr g N T lead wr :=
  ⟨fun i hi q hq => by
    obtain ⟨v, hv⟩ := tok_some T lead i q hq
    have h1 := h.tok i hi q hq
    rw [hv] at h1 ⊢
    exact hw.cell (a := ⟨g, i * 7 + q, none⟩) h.ne h1, h.ne.1, hw.out h.ne.2 hg⟩
theorem tok_even {T : Nat → ByteArray} {lead : Bool} {k : Nat} (hk : k % 2 = 0) : tokAt T lead k = tokCells (T (k / 2)) 29 (if k = 0 ∧ lead = true then 1 else 0) := if_neg (by omega)
theorem tok_odd {T : Nat → ByteArray} {lead : Bool} {k : Nat} (hk : k % 2 = 1) : tokAt T lead k = tokCells ⟨#[44]⟩ 10 2 := if_pos hk
theorem text_odd {sep : List UInt8} {T : Nat → ByteArray} {lead : Bool} {k : Nat} (hk : k % 2 = 1) : textTo sep T lead (k + 1) = textTo sep T lead k ++ [44] := by
  simp only [textTo]; rw [if_pos hk]
theorem text_even {sep : List UInt8} {T : Nat → ByteArray} {lead : Bool} {k : Nat} (hk : k % 2 = 0) : textTo sep T lead (k + 1) = textTo sep T lead k ++ ((if k = 0 then (if lead then sep else []) else sep) ++ (T (k / 2)).data.toList) := by
  simp only [textTo]; rw [if_neg (by omega)]
theorem Wrote.nowhere {b : Nat} {vo : Option Addr} {w : World} {o : Obj} (h : Wrote b vo vo w (w.alloc o)) : Chg Nowhere w (w.alloc o) := (Chg.refl _ w).alloc o
/-- What is set ahead of an item: a space, or a new line and the indent. -/
def sepOf (mu : Bool) (ind : Int) : List UInt8 := if mu = true then 10 :: spaces (ind + 1).toNat else [32]
theorem sepOf_length (mu : Bool) (ind : Int) (h : ind ≤ 65536) : (sepOf mu ind).length ≤ 200000 := by
  unfold sepOf
  split
  · rw [List.length_cons, spaces_length]; omega
  · simp
end Go.Proofs.YtbbanpfkicdnmaaFmt
