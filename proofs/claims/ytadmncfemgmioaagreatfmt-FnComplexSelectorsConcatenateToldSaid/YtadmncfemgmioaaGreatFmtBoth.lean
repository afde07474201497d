/-
  Proved: plain laws on the printed lists; the row of clones. No Go statement of the seat stands here.
-/
import Derived.Test.YtadmncfemgmioaaGreatFmtSep
import Derived.Test.YtadmncfemgmioaaGreatFmtZb
namespace Go.Proofs.YtadmncfemgmioaaGreatFmt
open Go.RowKit Go.ChangeAt
set_option linter.unusedSimpArgs false
set_option linter.unusedVariables false
set_option maxRecDepth 100000
theorem selsTo_length (sep : List UInt8) (m : Bool) (X : Nat → List UInt8) (k : Nat) : (selsTo sep m X k).length ≤ k * sep.length + 4 * sumL X k := by
  induction k with
  | zero => simp [selsTo]
  | succ k ih =>
    have h1 := compsTo_length m (X k) (X k).length
    have h2 : (if k = 0 then [] else sep).length ≤ sep.length := by split <;> simp
    simp only [selsTo, sumL, List.length_append, Nat.add_mul, Nat.one_mul]
    omega
def join (n : Nat) (X Y : Nat → List UInt8) : Nat → List UInt8 := fun i => if i < n then X i else Y (i - n)
theorem join_lt {n : Nat} {X Y : Nat → List UInt8} {i : Nat} (h : i < n) : join n X Y i = X i := if_pos h
theorem join_ge {n : Nat} {X Y : Nat → List UInt8} (j : Nat) : join n X Y (n + j) = Y j := by
  unfold join
  rw [if_neg (by omega)]
  congr 1
  omega
theorem selsTo_congr (sep : List UInt8) (m : Bool) {X Z : Nat → List UInt8} {k : Nat} (h : ∀ i, i < k → Z i = X i) : selsTo sep m Z k = selsTo sep m X k := by
  induction k with
  | zero => rfl
  | succ k ih => simp only [selsTo, ih (fun i hi => h i (by omega)), h k (by omega)]
/-- THE PLAIN LAW: the list of both is the one, the separator, the other. -/
theorem selsTo_join (sep : List UInt8) (m : Bool) (X Y : Nat → List UInt8) {n : Nat} (hn : 0 < n) (k : Nat) : selsTo sep m (join n X Y) (n + k) = selsTo sep m X n ++ ((if k = 0 then [] else sep) ++ selsTo sep m Y k) := by
  induction k with
  | zero =>
    rw [Nat.add_zero, selsTo_congr sep m (fun i hi => join_lt hi)]
    simp [selsTo]
  | succ k ih =>
    rw [show n + (k + 1) = (n + k) + 1 by omega]
    simp only [selsTo, ih, join_ge]
    have e1 : ¬ (n + k = 0) := by omega
    have e2 : ¬ (k + 1 = 0) := by omega
    by_cases hk : k = 0
    · subst hk
      simp [selsTo, show ¬ n = 0 by omega]
    · simp only [if_neg e1, if_neg e2, if_neg hk, List.append_assoc]
theorem sumL_join (X Y : Nat → List UInt8) (n k : Nat) : sumL (join n X Y) (n + k) = sumL X n + sumL Y k := by
  have h1 : ∀ j, j ≤ n → sumL (join n X Y) j = sumL X j := by
    intro j
    induction j with
    | zero => intro _; rfl
    | succ j ih => intro hj; simp only [sumL, ih (by omega), join_lt (show j < n by omega)]
  induction k with
  | zero => rw [Nat.add_zero, h1 n (Nat.le_refl _)]; rfl
  | succ k ih =>
    rw [show n + (k + 1) = (n + k) + 1 by omega]
    simp only [sumL, ih, join_ge]
    omega
def HeldV (w : World) (v : Value) (l : List UInt8) (vo : Option Addr) : Prop := ∃ a c, v = .slice a l.length c ∧ Reads w a l.length (byteAt l) ∧ ∀ g o, a = some ⟨g, o, none⟩ → ¬ InRow vo g ∧ g < w.heap.size
structure BothAt (w0 wr : World) (vo : Option Addr) (vc k : Nat) (Z : Nat → List UInt8) (xs : List Value) : Prop where
  own : wr.ownsRow w0.heap.size 27 1 (.slice vo k vc) k xs
  each : ∀ i, i < k → ∃ v, xs[i]? = some v ∧ HeldV wr v (Z i) vo
  chg : Chg Nowhere w0 wr
theorem BothAt.start (w0 : World) (n : Nat) (hn : n ≤ 2097152) (Z : Nat → List UInt8) : BothAt w0 (w0.alloc (.cells (madeCells #[.slice none 0 0] n) 27)) (some ⟨w0.heap.size, 0, none⟩) n 0 Z [] :=
  ⟨World.ownsRow_made w0 _ n (Nat.le_refl _) (by unfold maxLen; omega) (by rw [size_madeCells]; omega), fun i hi => by omega, (Chg.refl _ w0).alloc _⟩
theorem BothAt.step {w0 wr w1 w2 : World} {vo vo' va : Option Addr} {vc vc' k c : Nat} {Z : Nat → List UInt8} {xs : List Value} {l : List UInt8} (h : BothAt w0 wr vo vc k Z xs) (hl : Z k = l) (hc : Chg Nowhere wr w1)
    (ho : w1.ownsRow wr.heap.size 5 1 (.slice va l.length c) l.length (Lib.byteCells l))
    (hown : w2.ownsRow w0.heap.size 27 1 (.slice vo' (k + 1) vc') (k + 1) (xs ++ [.slice va l.length c])) (hg : Chg (InRow vo) (w1.alloc (.cells #[.slice va l.length c] 27)) w2)
    (hf : vo' = vo ∨ vo' = some ⟨w1.heap.size + 1, 0, none⟩) : BothAt w0 w2 vo' vc' (k + 1) Z (xs ++ [.slice va l.length c]) := by
  subst hl
  have hin := inRow_own h.own
  have hbk := own_block ho
  have hlen : xs.length = k := by simpa using h.own.1
  have hw : Chg (InRow vo) wr w2 := ((hc.mono (fun _ _ h => h.elim)).alloc _).trans hg (fun _ _ h => h)
  have h1s := hc.size
  have hnew : ∀ g, ¬ InRow vo g → g < w1.heap.size → ¬ InRow vo' g := by
    intro g h1 h2 h3
    rcases hf with rfl | rfl
    · exact h1 h3
    · obtain ⟨x, hx, rfl⟩ := h3
      injection hx with hx
      subst hx
      simp at h2
      omega
  refine ⟨hown, fun i hi => ?_, h.chg.trans hw fun j hj hs => absurd (hin j hs).1 (by omega)⟩
  by_cases hik : i < k
  · obtain ⟨v, v1, a, cv, v2, v3, v4⟩ := h.each i hik
    refine ⟨v, by rw [List.getElem?_append_left (by omega)]; exact v1, a, cv, v2, v3.kept hw (fun g o e => (v4 g o e).1), fun g o e => ⟨hnew g (v4 g o e).1 (by have := (v4 g o e).2; omega), by have := (v4 g o e).2; have := hw.size; omega⟩⟩
  · obtain rfl : i = k := by omega
    refine ⟨_, by rw [List.getElem?_append_right (by omega), hlen, Nat.sub_self]; rfl, va, c, rfl, ?_, fun g o e => ?_⟩
    · exact ((reads_own ho).kept ((Chg.refl Nowhere w1).alloc _) (fun _ _ _ h => h)).kept hg (fun g o e hs => by have := (hbk g o e).1; have := (hin g hs).2; omega)
    · have hb := hbk g o e
      have hs2 := hg.size
      simp at hs2
      exact ⟨hnew g (fun hs => by have := (hin g hs).2; omega) hb.2, by omega⟩
theorem BothAt.nested {w0 wr : World} {vo : Option Addr} {vc n : Nat} {Z : Nat → List UInt8} {xs : List Value} (h : BothAt w0 wr vo vc n Z xs) : ∃ ca cc, Nested wr vo n Z ca cc := by
  refine ⟨fun i => if hi : i < n then Classical.choose (Classical.choose_spec (h.each i hi)).2 else none, fun i => if hi : i < n then Classical.choose (Classical.choose_spec (Classical.choose_spec (h.each i hi)).2) else 0, ⟨?_, fun i hi => ?_⟩⟩
  · rcases ownsRow_addr h.own with ⟨h1, h2⟩ | ⟨g, h1, _⟩
    · exact .inl h2.1
    · refine .inr ⟨g, 0, h1, fun i hi => ?_⟩
      subst h1
      simp only [hi, dif_pos, Nat.zero_add]
      have hc := h.own.cells (g := g) rfl i _ (Classical.choose_spec (h.each i hi)).1
      rw [add_cell] at hc
      simp only [Nat.zero_add] at hc
      exact hc.trans (congrArg some (Classical.choose_spec (Classical.choose_spec (Classical.choose_spec (h.each i hi)).2)).1)
  · simp only [hi, dif_pos]
    exact (Classical.choose_spec (Classical.choose_spec (Classical.choose_spec (h.each i hi)).2)).2.1
end Go.Proofs.YtadmncfemgmioaaGreatFmt
