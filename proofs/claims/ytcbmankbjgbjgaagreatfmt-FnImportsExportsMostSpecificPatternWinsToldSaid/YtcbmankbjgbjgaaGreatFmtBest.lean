/-
  Proved: plain facts: pattern keys './b*', the winner among them. No statement of the seat stands here.
-/
import Derived.Test.YtcbmankbjgbjgaaGreatFmtObjx
import Derived.Test.YtcbmankbjgbjgaaGreatFmtTpat
import Derived.Test.YtcbmankbjgbjgaaGreatFmtPfx
namespace Go.Proofs.YtcbmankbjgbjgaaGreatFmt
open Go.RowKit Go.ChangeAt
set_option linter.unusedSimpArgs false
set_option linter.unusedVariables false
/-- './' b '*'. -/
def keyP (b : ByteArray) : ByteArray := dotted b ++ ⟨#[42]⟩
theorem keyP_size (b : ByteArray) : (keyP b).size = b.size + 3 := by unfold keyP; rw [ByteArray.size_append, dotted_size]; rfl
theorem dotted_no (b : ByteArray) (hb : ∀ i, i < b.size → bt b i ≠ 42) : ∀ i, i < (dotted b).size → bt (dotted b) i ≠ 42 := by
  intro i hi
  rw [dotted_size] at hi
  by_cases h : i < 2
  · obtain rfl | rfl : i = 0 ∨ i = 1 := by omega
    · rw [dotted_0]; decide
    · rw [dotted_1]; decide
  · obtain ⟨j, rfl⟩ : ∃ j, i = 2 + j := ⟨i - 2, by omega⟩
    have := bt_right ⟨#[46, 47]⟩ b j (by omega)
    rw [show (ByteArray.mk #[46, 47]).size = 2 from rfl] at this
    unfold dotted
    rw [this]
    exact hb j (by omega)
theorem keyP_star (b : ByteArray) (hb : ∀ i, i < b.size → bt b i ≠ 42) : Lib.indexByte (keyP b).data.toList 42 = ((b.size + 2 : Nat) : Int) := by
  unfold keyP
  rw [idx_star _ (dotted_no b hb), dotted_size]
theorem keyP_base (b : ByteArray) (n : Nat) (hn : n = b.size + 2) : (keyP b).extract 0 n = dotted b := by
  subst hn
  rw [← dotted_size b]
  exact ext_left _ _
theorem keyP_tail (b : ByteArray) (k n : Nat) (hk : k = b.size + 3) (hn : n = (keyP b).size) : (keyP b).extract k n = ⟨#[]⟩ := by
  rw [keyP_size] at hn
  subst hk hn
  apply ByteArray.ext
  rw [ByteArray.data_extract]
  exact Array.extract_empty_of_stop_le_start (Nat.le_refl _)
theorem pfx_dotted (q b : ByteArray) : Lib.hasPrefix (dotted q).data.toList (dotted b).data.toList = Lib.hasPrefix q.data.toList b.data.toList := by
  unfold dotted Lib.hasPrefix
  rw [ByteArray.data_append, ByteArray.data_append, Array.toList_append, Array.toList_append]
  rfl
theorem sub_dotted (q : ByteArray) (p k n : Nat) (hk : k = p + 2) (hn : n = q.size + 2) : (dotted q).extract k n = q.extract p q.size := by
  subst hk hn
  apply ByteArray.ext
  unfold dotted
  rw [ByteArray.data_extract, ByteArray.data_extract, ByteArray.data_append]
  have h2 : (#[46, 47] : Array UInt8).size = 2 := rfl
  have h3 : q.data.size = q.size := rfl
  rw [Array.extract_append, h2]
  have e : (#[46, 47] : Array UInt8).extract (p + 2) (q.size + 2) = #[] := by
    apply Array.eq_empty_of_size_eq_zero
    rw [Array.size_extract, h2]
    omega
  show (#[46, 47] : Array UInt8).extract (p + 2) (q.size + 2) ++ _ = _
  rw [e]
  simp
def pfx (q b : ByteArray) : Bool := Lib.hasPrefix q.data.toList b.data.toList
theorem pfx_le {q b : ByteArray} (h : pfx q b = true) : b.size ≤ q.size := ((pfx_iff q b).1 h).1
/-- i is the pattern that wins. -/
def Win (n : Nat) (b : Nat → ByteArray) (q : ByteArray) (i : Nat) : Prop := i < n ∧ pfx q (b i) = true ∧ ∀ y, y < n → pfx q (b y) = true → y ≠ i → (b y).size < (b i).size ∨ ((b y).size = (b i).size ∧ i < y)
theorem win_first {n : Nat} {b : Nat → ByteArray} {q : ByteArray} {L : Nat → Nat} {s : Nat → Nat} {k : Nat} (hB : Stab.Blk (KL L) s 0 n) (hL : ∀ x, L x = (b x).size + 2) (hk : k < n) (hp : pfx q (b (s k)) = true) (hno : ∀ j, j < k → pfx q (b (s j)) = false) : Win n b q (s k) := by
  refine ⟨(hB.fro k (by omega) hk).2, hp, fun y hy hpy hne => ?_⟩
  obtain ⟨j, h1, h2, rfl⟩ := hB.til y (by omega) hy
  rcases Nat.lt_trichotomy j k with c | c | c
  · rw [hno j c] at hpy; cases hpy
  · subst c; exact absurd rfl hne
  · have h3 := hB.srt k j (by omega) c h2
    unfold Stab.lt KL at h3
    rw [hL, hL] at h3
    omega
theorem win_uniq {n : Nat} {b : Nat → ByteArray} {q : ByteArray} {i j : Nat} (h : Win n b q i) (g : Win n b q j) : i = j := by
  by_cases e : i = j
  · exact e
  · have h1 := h.2.2 j g.1 g.2.1 (Ne.symm e)
    have h2 := g.2.2 i h.1 h.2.1 e
    omega
/-- What the resolver answers at patterns. -/
def PatHit (n : Nat) (b d : Nat → ByteArray) (q r : ByteArray) (st : Int) : Prop :=
  (∃ i, Win n b q i ∧ r = pkgD (d i) ++ q.extract (b i).size q.size ∧ st = 4) ∨ ((∀ i, i < n → pfx q (b i) = false) ∧ r = ⟨#[]⟩ ∧ st = 2)
theorem none_of {n : Nat} {b : Nat → ByteArray} {q : ByteArray} {K : Nat → Int} {s : Nat → Nat} (hB : Stab.Blk K s 0 n) (hno : ∀ j, j < n → pfx q (b (s j)) = false) : ∀ i, i < n → pfx q (b i) = false := fun i hi => by
  obtain ⟨j, _, h2, rfl⟩ := hB.til i (by omega) hi
  exact hno j h2
theorem star_keys {b f : Nat → ByteArray} {L : Nat → Nat} (hf : ∀ i, f i = keyP (b i)) (hb : ∀ i, ∀ j, j < (b i).size → bt (b i) j ≠ 42) (hL : ∀ x, L x = (b x).size + 2) : Star f L := fun x => by
  rw [hf, hL]
  exact ⟨keyP_star _ (hb x), by rw [keyP_size]⟩
theorem nosep_sub {q : ByteArray} (hq : NoSep q) (p : Nat) (hp : p ≤ q.size) : NoSep (q.extract p q.size) := by
  intro i hi
  have hz : (q.extract p q.size).size = q.size - p := by rw [ByteArray.size_extract]; omega
  have h2 : p + i < q.size := by omega
  have e : bt (q.extract p q.size) i = bt q (p + i) := by
    rw [← bt_eq _ i hi, ← bt_eq q (p + i) h2]
    congr 1
    exact ByteArray.getElem_extract ..
  intro h
  unfold Sep at h
  rw [e] at h
  exact hq (p + i) h2 h
theorem key_ne {b s : ByteArray} (hb : ∀ i, i < b.size → bt b i ≠ 42) (hs : Lib.indexByte s.data.toList 42 < 0) : keyP b ≠ s := by
  intro e
  rw [← e, keyP_star b hb] at hs
  omega
end Go.Proofs.YtcbmankbjgbjgaaGreatFmt
