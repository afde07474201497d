/-
  Proved: plain facts on stable merging by swaps (insertion, rotation, symmetric merge), over functions from places to indices. No program and no statement of the seat stands here.
-/
set_option linter.unusedVariables false
namespace Go.Proofs.YtcbmankbjgbjgaaGreatFmt.Stab
def swp (s : Nat → Nat) (i j : Nat) : Nat → Nat := fun x => if x = i then s j else if x = j then s i else s x
structure Perm (s s' : Nat → Nat) (a b : Nat) : Prop where
  out : ∀ x, x < a ∨ b ≤ x → s' x = s x
  fro : ∀ i, a ≤ i → i < b → ∃ j, a ≤ j ∧ j < b ∧ s' i = s j
  til : ∀ j, a ≤ j → j < b → ∃ i, a ≤ i ∧ i < b ∧ s' i = s j
theorem Perm.refl (s : Nat → Nat) (a b : Nat) : Perm s s a b := ⟨fun _ _ => rfl, fun i h1 h2 => ⟨i, h1, h2, rfl⟩, fun i h1 h2 => ⟨i, h1, h2, rfl⟩⟩
theorem Perm.trans {s t u : Nat → Nat} {a b : Nat} (h : Perm s t a b) (g : Perm t u a b) : Perm s u a b := by
  refine ⟨fun x hx => (g.out x hx).trans (h.out x hx), fun i h1 h2 => ?_, fun j h1 h2 => ?_⟩
  · obtain ⟨j, e1, e2, e3⟩ := g.fro i h1 h2
    obtain ⟨k, f1, f2, f3⟩ := h.fro j e1 e2
    exact ⟨k, f1, f2, e3.trans f3⟩
  · obtain ⟨i, e1, e2, e3⟩ := h.til j h1 h2
    obtain ⟨k, f1, f2, f3⟩ := g.til i e1 e2
    exact ⟨k, f1, f2, f3.trans e3⟩
theorem Perm.mono {s t : Nat → Nat} {a b a' b' : Nat} (h : Perm s t a b) (ha : a' ≤ a) (hb : b ≤ b') : Perm s t a' b' := by
  refine ⟨fun x hx => h.out x (by omega), fun i h1 h2 => ?_, fun j h1 h2 => ?_⟩
  · by_cases e : a ≤ i ∧ i < b
    · obtain ⟨j, e1, e2, e3⟩ := h.fro i e.1 e.2
      exact ⟨j, by omega, by omega, e3⟩
    · exact ⟨i, h1, h2, h.out i (by omega)⟩
  · by_cases e : a ≤ j ∧ j < b
    · obtain ⟨i, e1, e2, e3⟩ := h.til j e.1 e.2
      exact ⟨i, by omega, by omega, e3⟩
    · exact ⟨j, h1, h2, h.out j (by omega)⟩
theorem Perm.swp (s : Nat → Nat) {a b i j : Nat} (hi : a ≤ i ∧ i < b) (hj : a ≤ j ∧ j < b) : Perm s (swp s i j) a b := by
  refine ⟨fun x hx => ?_, fun x h1 h2 => ?_, fun x h1 h2 => ?_⟩
  · unfold Stab.swp; rw [if_neg (by omega), if_neg (by omega)]
  · unfold Stab.swp
    by_cases e : x = i
    · exact ⟨j, hj.1, hj.2, by rw [if_pos e]⟩
    · by_cases e2 : x = j
      · exact ⟨i, hi.1, hi.2, by rw [if_neg e, if_pos e2]⟩
      · exact ⟨x, h1, h2, by rw [if_neg e, if_neg e2]⟩
  · unfold Stab.swp
    by_cases e : x = i
    · subst e
      by_cases e2 : j = x
      · exact ⟨j, hj.1, hj.2, by rw [if_pos e2, e2]⟩
      · exact ⟨j, hj.1, hj.2, by rw [if_neg e2, if_pos rfl]⟩
    · by_cases e2 : x = j
      · exact ⟨i, hi.1, hi.2, by rw [if_pos rfl, e2]⟩
      · exact ⟨x, h1, h2, by rw [if_neg e, if_neg e2]⟩
section
variable (K : Nat → Int)
def lt (x y : Nat) : Prop := K x < K y ∨ (K x = K y ∧ x < y)
def Sorted (s : Nat → Nat) (a b : Nat) : Prop := ∀ i j, a ≤ i → i < j → j < b → lt K (s i) (s j)
variable {K}
theorem lt.trans {x y z : Nat} (h : lt K x y) (g : lt K y z) : lt K x z := by unfold lt at *; omega
theorem lt_of_less {x y : Nat} (h : K x < K y) : lt K x y := .inl h
theorem lt_of_not {x y : Nat} (h : ¬ K y < K x) (g : x < y) : lt K x y := by unfold lt; omega
theorem not_less {x y : Nat} (h : lt K x y) : ¬ K y < K x := by unfold lt at h; omega
theorem less_of_lt {x y : Nat} (h : lt K x y) (g : y < x) : K x < K y := by unfold lt at h; omega
theorem Sorted.one (s : Nat → Nat) (a b : Nat) (h : b ≤ a + 1) : Sorted K s a b := fun i j h1 h2 h3 => by omega
theorem Sorted.congr {s t : Nat → Nat} {a b : Nat} (h : Sorted K s a b) (e : ∀ x, a ≤ x → x < b → t x = s x) : Sorted K t a b := fun i j h1 h2 h3 => by
  rw [e i h1 (by omega), e j (by omega) h3]; exact h i j h1 h2 h3
/-! ## Insertion -/
structure InsInv (a i : Nat) (t s : Nat → Nat) (j : Nat) : Prop where
  lo : a ≤ j ∧ j ≤ i
  at_ : s j = t i
  mid : ∀ x, j < x → x ≤ i → s x = t (x - 1)
  out : ∀ x, x < j ∨ i < x → s x = t x
  big : ∀ x, j ≤ x → x < i → lt K (t i) (t x)
theorem InsInv.start (a i : Nat) (h : a ≤ i) (t : Nat → Nat) : InsInv (K := K) a i t t i := ⟨⟨h, Nat.le_refl _⟩, rfl, fun x h1 h2 => by omega, fun _ _ => rfl, fun x h1 h2 => by omega⟩
theorem InsInv.step {a i j : Nat} {t s : Nat → Nat} (h : InsInv (K := K) a i t s j) (hj : a < j) (hl : K (s j) < K (s (j - 1))) : InsInv (K := K) a i t (swp s j (j - 1)) (j - 1) := by
  have h1 := h.lo
  have e1 := h.out (j - 1) (by omega)
  refine ⟨by omega, ?_, fun x hx hx2 => ?_, fun x hx => ?_, fun x hx hx2 => ?_⟩
  · unfold swp; rw [if_neg (by omega), if_pos rfl]; exact h.at_
  · unfold swp
    by_cases e : x = j
    · subst e; rw [if_pos rfl]; exact e1
    · rw [if_neg e, if_neg (by omega)]; exact h.mid x (by omega) hx2
  · unfold swp; rw [if_neg (by omega), if_neg (by omega)]; exact h.out x (by omega)
  · by_cases e : x = j - 1
    · subst e
      rw [h.at_, e1] at hl
      exact .inl hl
    · exact h.big x (by omega) hx2
theorem InsInv.done {a i j : Nat} {s0 t s : Nat → Nat} (h : InsInv (K := K) a i t s j) (hd : j = a ∨ ¬ K (s j) < K (s (j - 1))) (hp : Perm s0 t a i) (hs : Sorted K t a i) (hid : ∀ x, a ≤ x → x ≤ i → s0 x = x) : Perm s0 s a (i + 1) ∧ Sorted K s a (i + 1) := by
  have hlo := h.lo
  have hti : t i = i := (hp.out i (by omega)).trans (hid i (by omega) (by omega))
  have hlow : ∀ x, a ≤ x → x < i → t x < i := fun x h1 h2 => by
    obtain ⟨y, e1, e2, e3⟩ := hp.fro x h1 h2
    rw [e3, hid y e1 (by omega)]; exact e2
  have hprev : ∀ x, a ≤ x → x < j → lt K (t x) (t i) := fun x h1 h2 => by
    have hl : lt K (t (j - 1)) (t i) := by
      rcases hd with hd | hd
      · omega
      · rw [h.at_, h.out (j - 1) (by omega)] at hd
        exact lt_of_not hd (by rw [hti]; exact hlow _ (by omega) (by omega))
    by_cases e : x = j - 1
    · rw [e]; exact hl
    · exact (hs x (j - 1) h1 (by omega) (by omega)).trans hl
  refine ⟨(hp.mono (Nat.le_refl _) (Nat.le_succ _)).trans ⟨fun x hx => h.out x (by omega), fun x h1 h2 => ?_, fun x h1 h2 => ?_⟩, fun x y h1 h2 h3 => ?_⟩
  · by_cases e : x = j
    · exact ⟨i, by omega, by omega, by rw [e]; exact h.at_⟩
    · by_cases e2 : j < x
      · exact ⟨x - 1, by omega, by omega, h.mid x e2 (by omega)⟩
      · exact ⟨x, h1, h2, h.out x (by omega)⟩
  · by_cases e : x = i
    · exact ⟨j, by omega, by omega, by rw [e]; exact h.at_⟩
    · by_cases e2 : j ≤ x
      · exact ⟨x + 1, by omega, by omega, by rw [h.mid (x + 1) (by omega) (by omega)]; rfl⟩
      · exact ⟨x, h1, h2, h.out x (by omega)⟩
  · by_cases ey : y = j
    · subst ey; rw [h.at_, h.out x (by omega)]; exact hprev x h1 h2
    · by_cases ey2 : j < y
      · rw [h.mid y ey2 (by omega)]
        by_cases ex : x = j
        · subst ex; rw [h.at_]; exact h.big _ (by omega) (by omega)
        · by_cases ex2 : j < x
          · rw [h.mid x ex2 (by omega)]; exact hs _ _ (by omega) (by omega) (by omega)
          · rw [h.out x (by omega)]; exact hs _ _ h1 (by omega) (by omega)
      · rw [h.out y (by omega), h.out x (by omega)]; exact hs _ _ h1 h2 (by omega)
end
/-! ## Swapping of two ranges, rotation -/
def swr (s : Nat → Nat) (a b k : Nat) : Nat → Nat := fun x => if a ≤ x ∧ x < a + k then s (x - a + b) else if b ≤ x ∧ x < b + k then s (x - b + a) else s x
theorem swr_zero (s : Nat → Nat) (a b : Nat) : swr s a b 0 = s := by
  funext x; unfold swr; rw [if_neg (by omega), if_neg (by omega)]
theorem swr_step (s : Nat → Nat) (a b k : Nat) (h : a + k < b) : swp (swr s a b k) (a + k) (b + k) = swr s a b (k + 1) := by
  funext x
  unfold swp swr
  by_cases e : x = a + k
  · subst e
    rw [if_pos rfl, if_neg (by omega), if_neg (by omega), if_pos (by omega)]
    congr 1; omega
  · by_cases e2 : x = b + k
    · subst e2
      rw [if_neg e, if_pos rfl, if_neg (by omega), if_neg (by omega), if_neg (by omega), if_pos (by omega)]
      congr 1; omega
    · rw [if_neg e, if_neg e2]
      by_cases c1 : a ≤ x ∧ x < a + k
      · rw [if_pos c1, if_pos (by omega)]
      · rw [if_neg c1]
        by_cases c2 : b ≤ x ∧ x < b + k
        · rw [if_pos c2, if_neg (by omega), if_pos (by omega)]
        · rw [if_neg c2, if_neg (by omega), if_neg (by omega)]
/-- What a rotation of [a, m) and [m, b) lays at each place. -/
structure Rot (s s' : Nat → Nat) (a m b : Nat) : Prop where
  lo : ∀ x, a ≤ x → x < a + (b - m) → s' x = s (x + (m - a))
  hi : ∀ x, a + (b - m) ≤ x → x < b → s' x = s (x - (b - m))
  out : ∀ x, x < a ∨ b ≤ x → s' x = s x
/-- T is what the rotation of the whole gives; what is left is to rotate i places before m and j behind. -/
structure RotInv (T s : Nat → Nat) (m i j : Nat) : Prop where
  im : i ≤ m
  lo : ∀ x, m - i ≤ x → x < m - i + j → T x = s (x + i)
  hi : ∀ x, m - i + j ≤ x → x < m + j → T x = s (x - j)
  out : ∀ x, x < m - i ∨ m + j ≤ x → T x = s x
def rotT (s : Nat → Nat) (a m b : Nat) : Nat → Nat := fun x => if a ≤ x ∧ x < a + (b - m) then s (x + (m - a)) else if a + (b - m) ≤ x ∧ x < b then s (x - (b - m)) else s x
theorem rotT_rot (s : Nat → Nat) (a m b : Nat) : Rot s (rotT s a m b) a m b := by
  refine ⟨fun x h1 h2 => ?_, fun x h1 h2 => ?_, fun x h => ?_⟩
  · unfold rotT; rw [if_pos ⟨h1, h2⟩]
  · unfold rotT; rw [if_neg (by omega), if_pos ⟨h1, h2⟩]
  · unfold rotT
    by_cases c : a ≤ x ∧ x < a + (b - m)
    · rw [if_pos c]; congr 1; omega
    · rw [if_neg c]
      by_cases c2 : a + (b - m) ≤ x ∧ x < b
      · rw [if_pos c2]; congr 1; omega
      · rw [if_neg c2]
theorem RotInv.start (s : Nat → Nat) (a m b : Nat) (h1 : a ≤ m) (h2 : m ≤ b) : RotInv (rotT s a m b) s m (m - a) (b - m) := by
  have h := rotT_rot s a m b
  refine ⟨by omega, fun x e1 e2 => h.lo x (by omega) (by omega), fun x e1 e2 => h.hi x (by omega) (by omega), fun x e => h.out x (by omega)⟩
theorem RotInv.left {T s : Nat → Nat} {m i j : Nat} (h : RotInv T s m i j) (hij : j < i) : RotInv T (swr s (m - i) m j) m (i - j) j := by
  have him := h.im
  refine ⟨by omega, fun x e1 e2 => ?_, fun x e1 e2 => ?_, fun x e => ?_⟩
  · rw [h.hi x (by omega) (by omega)]
    unfold swr
    rw [if_neg (by omega)]
    by_cases c : m ≤ x + (i - j) ∧ x + (i - j) < m + j
    · rw [if_pos c]; congr 1; omega
    · omega
  · rw [h.hi x (by omega) (by omega)]
    unfold swr
    rw [if_neg (by omega), if_neg (by omega)]
  · unfold swr
    by_cases c : m - i ≤ x ∧ x < m - i + j
    · rw [if_pos c, h.lo x c.1 c.2]; congr 1; omega
    · rw [if_neg c]
      by_cases c2 : m ≤ x ∧ x < m + j
      · omega
      · rw [if_neg c2]
        exact h.out x (by omega)
theorem RotInv.right {T s : Nat → Nat} {m i j : Nat} (h : RotInv T s m i j) (hij : i < j) : RotInv T (swr s (m - i) (m + j - i) i) m i (j - i) := by
  have him := h.im
  refine ⟨him, fun x e1 e2 => ?_, fun x e1 e2 => ?_, fun x e => ?_⟩
  · rw [h.lo x (by omega) (by omega)]
    unfold swr
    rw [if_neg (by omega), if_neg (by omega)]
  · rw [h.lo x (by omega) (by omega)]
    unfold swr
    rw [if_pos (by omega)]; congr 1; omega
  · unfold swr
    by_cases c : m - i ≤ x ∧ x < m - i + i
    · omega
    · rw [if_neg c]
      by_cases c2 : m + j - i ≤ x ∧ x < m + j - i + i
      · rw [if_pos c2, h.hi x (by omega) (by omega)]; congr 1; omega
      · rw [if_neg c2]; exact h.out x (by omega)
theorem RotInv.last {T s : Nat → Nat} {m i : Nat} (h : RotInv T s m i i) : swr s (m - i) m i = T := by
  have him := h.im
  funext x
  unfold swr
  by_cases c : m - i ≤ x ∧ x < m - i + i
  · rw [if_pos c, h.lo x (by omega) (by omega)]; congr 1; omega
  · rw [if_neg c]
    by_cases c2 : m ≤ x ∧ x < m + i
    · rw [if_pos c2, h.hi x (by omega) (by omega)]; congr 1; omega
    · rw [if_neg c2, h.out x (by omega)]
theorem Rot.perm {s s' : Nat → Nat} {a m b : Nat} (h : Rot s s' a m b) (h1 : a ≤ m) (h2 : m ≤ b) : Perm s s' a b := by
  refine ⟨h.out, fun x e1 e2 => ?_, fun x e1 e2 => ?_⟩
  · by_cases c : x < a + (b - m)
    · exact ⟨_, by omega, by omega, h.lo x e1 c⟩
    · exact ⟨_, by omega, by omega, h.hi x (by omega) e2⟩
  · by_cases c : x < m
    · exact ⟨x + (b - m), by omega, by omega, by rw [h.hi _ (by omega) (by omega)]; congr 1; omega⟩
    · exact ⟨x - (m - a), by omega, by omega, by rw [h.lo _ (by omega) (by omega)]; congr 1; omega⟩
/-! ## The merge -/
section
variable {K : Nat → Int}
/-- What a merge is handed. -/
structure Mrg (K : Nat → Int) (s : Nat → Nat) (a m b : Nat) : Prop where
  am : a < m
  mb : m < b
  l : Sorted K s a m
  r : Sorted K s m b
  lr : ∀ i j, a ≤ i → i < m → m ≤ j → j < b → s i < s j
def Mrgd (K : Nat → Int) (s s' : Nat → Nat) (a b : Nat) : Prop := Perm s s' a b ∧ Sorted K s' a b
/-- One element before m: it goes behind those that are less. -/
theorem Mrg.one {s s' : Nat → Nat} {a b i : Nat} (h : Mrg K s a (a + 1) b) (hi : a + 1 ≤ i ∧ i ≤ b) (h1 : ∀ x, a + 1 ≤ x → x < i → K (s x) < K (s a)) (h2 : ∀ x, i ≤ x → x < b → ¬ K (s x) < K (s a))
    (e1 : s' (i - 1) = s a) (e2 : ∀ x, a ≤ x → x < i - 1 → s' x = s (x + 1)) (e3 : ∀ x, x < a ∨ i ≤ x → s' x = s x) : Mrgd K s s' a b := by
  have hmb := h.mb
  refine ⟨⟨fun x hx => e3 x (by omega), fun x g1 g2 => ?_, fun x g1 g2 => ?_⟩, fun x y g1 g2 g3 => ?_⟩
  · by_cases c : x = i - 1
    · exact ⟨a, by omega, by omega, by rw [c]; exact e1⟩
    · by_cases c2 : x < i - 1
      · exact ⟨x + 1, by omega, by omega, e2 x g1 c2⟩
      · exact ⟨x, g1, g2, e3 x (by omega)⟩
  · by_cases c : x = a
    · exact ⟨i - 1, by omega, by omega, by rw [c]; exact e1⟩
    · by_cases c2 : x < i
      · exact ⟨x - 1, by omega, by omega, by rw [e2 _ (by omega) (by omega)]; congr 1; omega⟩
      · exact ⟨x, g1, g2, e3 x (by omega)⟩
  · by_cases cx : x = i - 1
    · rw [cx, e1, e3 y (by omega)]
      exact lt_of_not (h2 y (by omega) g3) (h.lr a y (by omega) (by omega) (by omega) g3)
    · by_cases cx2 : x < i - 1
      · rw [e2 x g1 cx2]
        by_cases cy : y = i - 1
        · rw [cy, e1]; exact .inl (h1 _ (by omega) (by omega))
        · by_cases cy2 : y < i - 1
          · rw [e2 y (by omega) cy2]; exact h.r _ _ (by omega) (by omega) (by omega)
          · rw [e3 y (by omega)]; exact h.r _ _ (by omega) (by omega) (by omega)
      · rw [e3 x (by omega), e3 y (by omega)]; exact h.r _ _ (by omega) (by omega) (by omega)
/-- One element behind m: it goes before those that are greater. -/
theorem Mrg.last {s s' : Nat → Nat} {a m i : Nat} (h : Mrg K s a m (m + 1)) (hi : a ≤ i ∧ i ≤ m) (h1 : ∀ x, a ≤ x → x < i → ¬ K (s m) < K (s x)) (h2 : ∀ x, i ≤ x → x < m → K (s m) < K (s x))
    (e1 : s' i = s m) (e2 : ∀ x, i < x → x ≤ m → s' x = s (x - 1)) (e3 : ∀ x, x < i ∨ m < x → s' x = s x) : Mrgd K s s' a (m + 1) := by
  have ham := h.am
  refine ⟨⟨fun x hx => e3 x (by omega), fun x g1 g2 => ?_, fun x g1 g2 => ?_⟩, fun x y g1 g2 g3 => ?_⟩
  · by_cases c : x = i
    · exact ⟨m, by omega, by omega, by rw [c]; exact e1⟩
    · by_cases c2 : i < x
      · exact ⟨x - 1, by omega, by omega, e2 x c2 (by omega)⟩
      · exact ⟨x, g1, g2, e3 x (by omega)⟩
  · by_cases c : x = m
    · exact ⟨i, by omega, by omega, by rw [c]; exact e1⟩
    · by_cases c2 : i ≤ x
      · exact ⟨x + 1, by omega, by omega, by rw [e2 _ (by omega) (by omega)]; rfl⟩
      · exact ⟨x, g1, g2, e3 x (by omega)⟩
  · by_cases cy : y = i
    · rw [cy, e1, e3 x (by omega)]
      exact lt_of_not (h1 x g1 (by omega)) (h.lr x m g1 (by omega) (by omega) (by omega))
    · by_cases cy2 : i < y
      · rw [e2 y cy2 (by omega)]
        by_cases cx : x = i
        · rw [cx, e1]; exact .inl (h2 _ (by omega) (by omega))
        · by_cases cx2 : i < x
          · rw [e2 x cx2 (by omega)]; exact h.l _ _ (by omega) (by omega) (by omega)
          · rw [e3 x (by omega)]; exact h.l _ _ (by omega) (by omega) (by omega)
      · rw [e3 x (by omega), e3 y (by omega)]; exact h.l _ _ (by omega) (by omega) (by omega)
/-- A search's step, in the merge of many: those left of c too. -/
theorem Mrg.left {s : Nat → Nat} {a m b p c x : Nat} (h : Mrg K s a m b) (hc : a ≤ c ∧ c < m) (hp : m ≤ p - c ∧ p - c < b ∧ c ≤ p) (hP : ¬ K (s (p - c)) < K (s c)) (hx : a ≤ x ∧ x < c) (hpx : p - x < b) : ¬ K (s (p - x)) < K (s x) := by
  have g1 : lt K (s c) (s (p - c)) := lt_of_not hP (h.lr _ _ hc.1 hc.2 hp.1 hp.2.1)
  have g2 := h.l x c hx.1 hx.2 hc.2
  have g3 := h.r (p - c) (p - x) hp.1 (by omega) hpx
  exact not_less ((g2.trans g1).trans g3)
theorem Mrg.right {s : Nat → Nat} {a m b p c x : Nat} (h : Mrg K s a m b) (hc : a ≤ c ∧ c < m) (hp : m ≤ p - c ∧ p - c < b ∧ c ≤ p) (hP : K (s (p - c)) < K (s c)) (hx : c < x ∧ x < m) (hpx : m ≤ p - x) (hxp : x ≤ p) : K (s (p - x)) < K (s x) := by
  have g2 := h.l c x hc.1 hx.1 hx.2
  have g3 := h.r (p - x) (p - c) hpx (by omega) hp.2.1
  exact less_of_lt ((g3.trans (.inl hP)).trans g2) (h.lr _ _ (by omega) hx.2 hpx (by omega))
/-- Behind the search and the rotation: both halves are merges, and what stands in the first is less than what stands in the second. -/
theorem Mrg.halves {s t : Nat → Nat} {a m b mid start en : Nat} (h : Mrg K s a m b) (hmid : a < mid ∧ mid < b) (he : start + en = mid + m) (hs : a ≤ start ∧ start ≤ m) (hs2 : start ≤ mid) (hen : en ≤ b)
    (hm : m ≤ en)
    (h1 : ∀ x, a ≤ x → x < start → m ≤ mid + m - 1 - x → mid + m - 1 - x < b → ¬ K (s (mid + m - 1 - x)) < K (s x))
    (h2 : ∀ x, start ≤ x → x < m → m ≤ mid + m - 1 - x → x ≤ mid + m - 1 → mid + m - 1 - x < b → K (s (mid + m - 1 - x)) < K (s x))
    (hr : Rot s t start m en) :
    Perm s t a b ∧ (Sorted K t a start ∧ Sorted K t start mid ∧ (∀ i j, a ≤ i → i < start → start ≤ j → j < mid → t i < t j)) ∧ (Sorted K t mid en ∧ Sorted K t en b ∧ (∀ i j, mid ≤ i → i < en → en ≤ j → j < b → t i < t j)) ∧ (∀ i j, a ≤ i → i < mid → mid ≤ j → j < b → lt K (t i) (t j)) := by
  have ham := h.am
  have hmb := h.mb
  have hl : ∀ x, start ≤ x → x < mid → t x = s (x + (m - start)) := fun x g1 g2 => hr.lo x g1 (by omega)
  have hh : ∀ x, mid ≤ x → x < en → t x = s (x - (en - m)) := fun x g1 g2 => hr.hi x (by omega) g2
  refine ⟨(hr.perm hs.2 hm).mono hs.1 hen, ⟨?_, ?_, ?_⟩, ⟨?_, ?_, ?_⟩, ?_⟩
  · intro i j g1 g2 g3; rw [hr.out i (by omega), hr.out j (by omega)]; exact h.l i j g1 g2 (by omega)
  · intro i j g1 g2 g3; rw [hl i g1 (by omega), hl j (by omega) g3]; exact h.r _ _ (by omega) (by omega) (by omega)
  · intro i j g1 g2 g3 g4; rw [hr.out i (by omega), hl j g3 g4]; exact h.lr _ _ g1 (by omega) (by omega) (by omega)
  · intro i j g1 g2 g3; rw [hh i g1 (by omega), hh j (by omega) g3]; exact h.l _ _ (by omega) (by omega) (by omega)
  · intro i j g1 g2 g3; rw [hr.out i (by omega), hr.out j (by omega)]; exact h.r _ _ (by omega) (by omega) (by omega)
  · intro i j g1 g2 g3 g4; rw [hh i g1 g2, hr.out j (by omega)]; exact h.lr _ _ (by omega) (by omega) (by omega) g4
  · -- the two borders
    have b1 : start < m → m < en → lt K (s (en - 1)) (s start) := fun g1 g2 => by
      have := h2 start (Nat.le_refl _) g1 (by omega) (by omega) (by omega)
      rw [show mid + m - 1 - start = en - 1 by omega] at this
      exact .inl this
    have b2 : a < start → en < b → lt K (s (start - 1)) (s en) := fun g1 g2 => by
      have := h1 (start - 1) (by omega) (by omega) (by omega) (by omega)
      rw [show mid + m - 1 - (start - 1) = en by omega] at this
      exact lt_of_not this (h.lr _ _ (by omega) (by omega) (by omega) (by omega))
    -- weak order
    intro i j g1 g2 g3 g4
    have key : ∀ {x y z : Nat}, (x = y ∨ lt K (s x) (s y)) → lt K (s y) (s z) → lt K (s x) (s z) := by
      rintro x y z (rfl | e) g
      · exact g
      · exact e.trans g
    have key2 : ∀ {x y z : Nat}, lt K (s x) (s y) → (y = z ∨ lt K (s y) (s z)) → lt K (s x) (s z) := by
      rintro x y z g (rfl | e)
      · exact g
      · exact g.trans e
    by_cases ci : i < start
    · rw [hr.out i (by omega)]
      by_cases cj : j < en
      · rw [hh j g3 cj]; exact h.l _ _ g1 (by omega) (by omega)
      · rw [hr.out j (by omega)]
        refine key2 (key (y := start - 1) ?_ (b2 (by omega) (by omega))) ?_
        · by_cases e : i = start - 1
          · exact .inl e
          · exact .inr (h.l _ _ g1 (by omega) (by omega))
        · by_cases e : en = j
          · exact .inl e
          · exact .inr (h.r _ _ hm (by omega) g4)
    · rw [hl i (by omega) g2]
      by_cases cj : j < en
      · rw [hh j g3 cj]
        refine key2 (key (y := en - 1) ?_ (b1 (by omega) (by omega))) ?_
        · by_cases e : i + (m - start) = en - 1
          · exact .inl e
          · exact .inr (h.r _ _ (by omega) (by omega) (by omega))
        · by_cases e : start = j - (en - m)
          · exact .inl e
          · exact .inr (h.l _ _ hs.1 (by omega) (by omega))
      · rw [hr.out j (by omega)]; exact h.r _ _ (by omega) (by omega) g4
/-- Two halves, each sorted in its place, join. -/
theorem join_halves {s t u : Nat → Nat} {a mid b : Nat} (hmid : a ≤ mid ∧ mid ≤ b) (hp : Perm s t a b) (hlt : ∀ i j, a ≤ i → i < mid → mid ≤ j → j < b → lt K (t i) (t j))
    (hu : ∃ v, Mrgd K t v a mid ∧ Mrgd K v u mid b) : Mrgd K s u a b := by
  obtain ⟨v, ⟨p1, s1⟩, ⟨p2, s2⟩⟩ := hu
  refine ⟨hp.trans ((p1.mono (Nat.le_refl _) hmid.2).trans (p2.mono hmid.1 (Nat.le_refl _))), fun i j g1 g2 g3 => ?_⟩
  by_cases cj : j < mid
  · rw [p2.out i (by omega), p2.out j (by omega)]; exact s1 i j g1 g2 cj
  · by_cases ci : i < mid
    · rw [p2.out i (by omega)]
      obtain ⟨x, x1, x2, x3⟩ := p1.fro i g1 ci
      obtain ⟨y, y1, y2, y3⟩ := p2.fro j (by omega) g3
      rw [x3, y3, p1.out y (by omega)]
      exact hlt x y x1 x2 y1 y2
    · exact s2 i j (by omega) g2 g3
end
/-! ## The blocks -/
section
variable {K : Nat → Int}
/-- [a, b) holds its own places, sorted. -/
structure Blk (K : Nat → Int) (s : Nat → Nat) (a b : Nat) : Prop where
  fro : ∀ i, a ≤ i → i < b → a ≤ s i ∧ s i < b
  til : ∀ y, a ≤ y → y < b → ∃ i, a ≤ i ∧ i < b ∧ s i = y
  srt : Sorted K s a b
theorem Blk.of_mrgd {s s' : Nat → Nat} {a b : Nat} (hf : ∀ i, a ≤ i → i < b → a ≤ s i ∧ s i < b) (ht : ∀ y, a ≤ y → y < b → ∃ i, a ≤ i ∧ i < b ∧ s i = y) (h : Mrgd K s s' a b) : Blk K s' a b := by
  refine ⟨fun i h1 h2 => ?_, fun y h1 h2 => ?_, h.2⟩
  · obtain ⟨j, e1, e2, e3⟩ := h.1.fro i h1 h2
    rw [e3]; exact hf j e1 e2
  · obtain ⟨j, e1, e2, e3⟩ := ht y h1 h2
    obtain ⟨i, f1, f2, f3⟩ := h.1.til j e1 e2
    exact ⟨i, f1, f2, f3.trans e3⟩
theorem Blk.of_id {s s' : Nat → Nat} {a b : Nat} (hid : ∀ x, a ≤ x → x < b → s x = x) (h : Mrgd K s s' a b) : Blk K s' a b :=
  .of_mrgd (fun i h1 h2 => by rw [hid i h1 h2]; exact ⟨h1, h2⟩) (fun y h1 h2 => ⟨y, h1, h2, hid y h1 h2⟩) h
theorem Blk.congr {s t : Nat → Nat} {a b : Nat} (h : Blk K s a b) (e : ∀ x, a ≤ x → x < b → t x = s x) : Blk K t a b :=
  ⟨fun i h1 h2 => by rw [e i h1 h2]; exact h.fro i h1 h2, fun y h1 h2 => by obtain ⟨i, g1, g2, g3⟩ := h.til y h1 h2; exact ⟨i, g1, g2, by rw [e i g1 g2, g3]⟩, h.srt.congr e⟩
theorem Blk.mrg {s : Nat → Nat} {a m b : Nat} (h : Blk K s a m) (g : Blk K s m b) (am : a < m) (mb : m < b) : Mrg K s a m b :=
  ⟨am, mb, h.srt, g.srt, fun i j h1 h2 h3 h4 => by have := (h.fro i h1 h2).2; have := (g.fro j h3 h4).1; omega⟩
theorem Blk.merged {s s' : Nat → Nat} {a m b : Nat} (h : Blk K s a m) (g : Blk K s m b) (am : a ≤ m) (mb : m ≤ b) (hm : Mrgd K s s' a b) : Blk K s' a b := by
  refine .of_mrgd (fun i h1 h2 => ?_) (fun y h1 h2 => ?_) hm
  · by_cases c : i < m
    · have := h.fro i h1 c; omega
    · have := g.fro i (by omega) h2; omega
  · by_cases c : y < m
    · obtain ⟨i, e1, e2, e3⟩ := h.til y h1 c; exact ⟨i, e1, by omega, e3⟩
    · obtain ⟨i, e1, e2, e3⟩ := g.til y (by omega) h2; exact ⟨i, by omega, e2, e3⟩
/-- Every block of B places from 0 on holds its own places, sorted; below 'lo' the blocks have 2 B places (or: are not done). -/
def Blks (K : Nat → Int) (s : Nat → Nat) (B n : Nat) : Prop := ∀ k, k * B < n → Blk K s (k * B) (min (k * B + B) n)
end
end Go.Proofs.YtcbmankbjgbjgaaGreatFmt.Stab
