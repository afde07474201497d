/-
  Proved: what a tree of tokens is in memory. No statement of the seat stands here.
-/
import Derived.Test.YtbbanpfkicdnmaaFmtStream
import Derived.Test.YtbbanpfkicdnmaaFmtBody
namespace Go.Proofs.YtbbanpfkicdnmaaFmt
open Go.RowKit Go.ChangeAt
set_option linter.unusedSimpArgs false
set_option linter.unusedVariables false
set_option maxRecDepth 1000000
def lkind (op : Nat) : Int := if op = 0 then 29 else if op = 1 then 10 else if op = 2 then 38 else 13
def gkind (op : Nat) : Int := if op = 3 then 27 else if op = 4 then 33 else 32
def cells7 (p : Option Addr) (t : ByteArray) (k : Int) : Array Value := #[.pointer p, .string t, .int .i32 0, .int .u32 0, .int .u16 0, .int .u8 k, .int .u8 0]
/-- The tokens ts lie in block g from place i on; every block of theirs is 'ok'. -/
def Mem (W : World) (ok : Nat → Prop) : Ts → Nat → Nat → Prop
  | .nil, _, _ => True
  | .leaf op sel r, g, i => (op = 0 ∨ op = 1 ∨ op = 2 ∨ op = 6) ∧ (∀ q, q < 7 → W.cell? ⟨g, i * 7 + q, none⟩ = (cells7 none (ltxt op sel) (lkind op))[q]?) ∧ Mem W ok r g (i + 1)
  | .node op sel k r, g, i => (op = 3 ∨ op = 4 ∨ op = 7) ∧ (∃ gb kvo ck, (∀ q, q < 7 → W.cell? ⟨g, i * 7 + q, none⟩ = (cells7 (some ⟨gb, 0, none⟩) (gtxt op sel) (gkind op))[q]?) ∧ ok gb ∧ W.cell? ⟨gb, 0, none⟩ = some (.slice kvo k.len ck) ∧
      (k = .nil ∨ ∃ gk, kvo = some ⟨gk, 0, none⟩ ∧ ok gk ∧ Mem W ok k gk 0)) ∧ Mem W ok r g (i + 1)
def Row (W : World) (ok : Nat → Prop) (vo : Option Addr) (ts : Ts) : Prop := ts = .nil ∨ ∃ g, vo = some ⟨g, 0, none⟩ ∧ ok g ∧ Mem W ok ts g 0
theorem cells7_some (p : Option Addr) (t : ByteArray) (k : Int) (q : Nat) (hq : q < 7) : ∃ v, (cells7 p t k)[q]? = some v := ⟨_, Array.getElem?_eq_getElem (by simpa [cells7] using hq)⟩
theorem Mem.keep {W W' : World} {ok ok' : Nat → Prop} (h : ∀ a v, ok a.block → W.cell? a = some v → W'.cell? a = some v) (ho : ∀ k, ok k → ok' k) : ∀ (ts : Ts) (g i : Nat), ok g → Mem W ok ts g i → Mem W' ok' ts g i := by
  intro ts
  induction ts with
  | nil => intro g i _ _; trivial
  | leaf op sel r ih =>
    intro g i hg ⟨h1, h2, h3⟩
    refine ⟨h1, fun q hq => ?_, ih g (i + 1) hg h3⟩
    obtain ⟨v, hv⟩ := cells7_some none (ltxt op sel) (lkind op) q hq
    have := h2 q hq
    rw [hv] at this ⊢
    exact h _ _ hg this
  | node op sel k r ih1 ih2 =>
    intro g i hg ⟨h1, ⟨gb, kvo, ck, h2, h3, h4, h5⟩, h6⟩
    refine ⟨h1, ⟨gb, kvo, ck, fun q hq => ?_, ho _ h3, h _ _ h3 h4, ?_⟩, ih2 g (i + 1) hg h6⟩
    · obtain ⟨v, hv⟩ := cells7_some (some ⟨gb, 0, none⟩) (gtxt op sel) (gkind op) q hq
      have := h2 q hq
      rw [hv] at this ⊢
      exact h _ _ hg this
    · rcases h5 with h5 | ⟨gk, e1, e2, e3⟩
      · exact .inl h5
      · exact .inr ⟨gk, e1, ho _ e2, ih1 gk 0 e2 e3⟩
theorem Mem.ws {W : World} {ok : Nat → Prop} {r : Ts} {g i : Nat} (h : Mem W ok r g i) (hr : 0 < r.len) : W.cell? ⟨g, i * 7 + 6, none⟩ = some (.int .u8 0) := by
  cases r with
  | nil => simp [Ts.len] at hr
  | leaf op sel r => exact h.2.1 6 (by decide)
  | node op sel k r =>
    obtain ⟨_, ⟨gb, kvo, ck, h2, _⟩, _⟩ := h
    exact h2 6 (by decide)
def sz : Ts → Nat
  | .nil => 0
  | .leaf _ _ r => sz r + 1
  | .node _ _ k r => sz k + sz r + 1
theorem len_sz (t : Ts) : t.len ≤ sz t := by
  induction t with
  | nil => exact Nat.le_refl _
  | leaf o s r ih => simp only [Ts.len, sz]; omega
  | node o s k r _ ih => simp only [Ts.len, sz]; omega
theorem ltxt_size (op sel : Nat) : (ltxt op sel).size ≤ 4 := by
  have := txt_size sel
  unfold ltxt
  split
  · omega
  · split
    · decide
    · split <;> decide
theorem ftxt_size (sel : Nat) : (ftxt sel).size ≤ 4 := by
  unfold ftxt
  split
  · decide
  · split
    · decide
    · split <;> decide
theorem plain_low (t : ByteArray) (n : Nat) (h1 : t.size = n) (h2 : 0 < n) (h3 : ∀ i, i < n → 97 ≤ bt t i ∧ bt t i ≤ 122) : Plain t := by
  subst h1
  exact ⟨h2, .inr (.inl (h3 0 h2)), fun j hj => .inl (.inl (h3 j hj))⟩
theorem plain_t (c : Nat) : Plain (txt c) := by
  unfold txt
  split
  · exact plain_low _ 1 rfl (by decide) (by decide)
  · split
    · exact plain_low _ 2 rfl (by decide) (by decide)
    · split
      · exact plain_low _ 3 rfl (by decide) (by decide)
      · exact plain_low _ 2 rfl (by decide) (by decide)
theorem plain_f (c : Nat) : Plain (ftxt c) := by
  unfold ftxt
  split
  · exact plain_low _ 1 rfl (by decide) (by decide)
  · split
    · exact plain_low _ 4 rfl (by decide) (by decide)
    · split
      · exact plain_low _ 3 rfl (by decide) (by decide)
      · exact plain_low _ 3 rfl (by decide) (by decide)
def WrtT (B b : Nat) (m : Bool) (vo : Option Addr) (out : List UInt8) (r : Bool) (w : World) (e : Ending) (w' : World) : Prop :=
  e = .returned (.bool r) ∧ ∃ vo', Pr B b m false vo' out w' ∧ Wrote b vo vo' w w'
theorem Pr.drew {B b : Nat} {m a : Bool} {vo : Option Addr} {out : List UInt8} {w : World} (h : Pr B b m a vo out w) : Pr B b m a vo out w.drew := h.wrote ((Chg.refl _ w).drew)
theorem Wrote.drew {b : Nat} {vo vo' : Option Addr} {w w' : World} (h : Wrote b vo vo' w w') : Wrote b vo vo' w w'.drew := ⟨h.chg.drew, h.place⟩
/-- How a list of children is printed. -/
def Child (B b : Nat) (m : Bool) (ind : Int) (W0 : World) (ok : Nat → Prop) (kvo : Option Addr) (ck : Nat) (k : Ts) : Prop :=
  ∀ (out : List UInt8) (w : World) (v : Option Addr), Pr B b m false v out w → (∀ a u, ok a.block → W0.cell? a = some u → w.cell? a = some u) → out.length + (full k).length ≤ 99999000 →
    Calls Tryf.prog 13 #[.pointer (some ⟨b, 0, none⟩), .slice kvo k.len ck, .agg #[.int .i32 ind, .int .u8 0, .bool false]] w (WrtT B b m v (out ++ full k) (fin false k) w)
structure WJ (B b N cap bx : Nat) (tvo : Option Addr) (m : Bool) (out : List UInt8) (W0 : World) (vo : Option Addr) (ok : Nat → Prop) (ts : Ts) (k : Nat) (cc : Int) (p : Bool) (rest : Ts) (pre : List UInt8) (a : Act) (wr : World) : Prop where
  d : a.defers = []
  sz : a.tmps.size = 384
  f0 : a.tmps[0]? = some (.pointer (some ⟨b, 0, none⟩))
  f1 : a.tmps[1]? = some (.slice tvo N cap)
  f5 : a.tmps[5]? = some (.pointer (some ⟨bx, 0, none⟩))
  f7 : a.tmps[7]? = some (.bool p)
  f8 : a.tmps[8]? = some (.int .i64 0)
  f12 : a.tmps[12]? = some (.int .i64 cc)
  f70 : a.tmps[70]? = some (.slice tvo N cap)
  f71 : a.tmps[71]? = some (.int .i64 (N : Int))
  f72 : a.tmps[72]? = some (.int .i64 (k : Int))
  le : k + rest.len = N
  cl : 0 ≤ cc ∧ cc ≤ k
  row : rest = .nil ∨ ∃ tb, tvo = some ⟨tb, 0, none⟩ ∧ ok tb ∧ Mem W0 ok rest tb k
  tx : body false ts = pre ++ body p rest
  fi : fin false ts = fin p rest
  szr : Proofs.YtbbanpfkicdnmaaFmt.sz rest ≤ Proofs.YtbbanpfkicdnmaaFmt.sz ts
  at_ : At B b m vo (out ++ pre) W0 wr
def WJ2 (B b N cap bx : Nat) (tvo : Option Addr) (m : Bool) (out : List UInt8) (W0 : World) (vo : Option Addr) (ok : Nat → Prop) (ts : Ts) (a : Act) (wr : World) : Prop :=
  ∃ k cc p rest pre, WJ B b N cap bx tvo m out W0 vo ok ts k cc p rest pre a wr
end Go.Proofs.YtbbanpfkicdnmaaFmt
