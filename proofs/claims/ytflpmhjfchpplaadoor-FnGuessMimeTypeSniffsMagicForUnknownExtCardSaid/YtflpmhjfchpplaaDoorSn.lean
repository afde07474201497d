/-
  Proved: plain law: the signatures of a sniffing table, which of them can't match. No program and no statement of the seat stands here.
-/
namespace Go.Proofs.YtflpmhjfchpplaaDoor.Sn
inductive Sig where
  | html (b : List UInt8)
  | exact (b : List UInt8) (ct : List UInt8)
  | masked (m p : List UInt8) (skip : Bool) (ct : List UInt8)
  | mp4
  | text
/-- The table. -/
def sigs : List Sig := [
  .html [60, 33, 68, 79, 67, 84, 89, 80, 69, 32, 72, 84, 77, 76],
  .html [60, 72, 84, 77, 76],
  .html [60, 72, 69, 65, 68],
  .html [60, 83, 67, 82, 73, 80, 84],
  .html [60, 73, 70, 82, 65, 77, 69],
  .html [60, 72, 49],
  .html [60, 68, 73, 86],
  .html [60, 70, 79, 78, 84],
  .html [60, 84, 65, 66, 76, 69],
  .html [60, 65],
  .html [60, 83, 84, 89, 76, 69],
  .html [60, 84, 73, 84, 76, 69],
  .html [60, 66],
  .html [60, 66, 79, 68, 89],
  .html [60, 66, 82],
  .html [60, 80],
  .html [60, 33, 45, 45],
  .masked [255, 255, 255, 255, 255] [60, 63, 120, 109, 108] true [116, 101, 120, 116, 47, 120, 109, 108, 59, 32, 99, 104, 97, 114, 115, 101, 116, 61, 117, 116, 102, 45, 56],
  .exact [37, 80, 68, 70, 45] [97, 112, 112, 108, 105, 99, 97, 116, 105, 111, 110, 47, 112, 100, 102],
  .exact [37, 33, 80, 83, 45, 65, 100, 111, 98, 101, 45] [97, 112, 112, 108, 105, 99, 97, 116, 105, 111, 110, 47, 112, 111, 115, 116, 115, 99, 114, 105, 112, 116],
  .masked [255, 255, 0, 0] [254, 255, 0, 0] false [116, 101, 120, 116, 47, 112, 108, 97, 105, 110, 59, 32, 99, 104, 97, 114, 115, 101, 116, 61, 117, 116, 102, 45, 49, 54, 98, 101],
  .masked [255, 255, 0, 0] [255, 254, 0, 0] false [116, 101, 120, 116, 47, 112, 108, 97, 105, 110, 59, 32, 99, 104, 97, 114, 115, 101, 116, 61, 117, 116, 102, 45, 49, 54, 108, 101],
  .masked [255, 255, 255, 0] [239, 187, 191, 0] false [116, 101, 120, 116, 47, 112, 108, 97, 105, 110, 59, 32, 99, 104, 97, 114, 115, 101, 116, 61, 117, 116, 102, 45, 56],
  .exact [0, 0, 1, 0] [105, 109, 97, 103, 101, 47, 120, 45, 105, 99, 111, 110],
  .exact [0, 0, 2, 0] [105, 109, 97, 103, 101, 47, 120, 45, 105, 99, 111, 110],
  .exact [66, 77] [105, 109, 97, 103, 101, 47, 98, 109, 112],
  .exact [71, 73, 70, 56, 55, 97] [105, 109, 97, 103, 101, 47, 103, 105, 102],
  .exact [71, 73, 70, 56, 57, 97] [105, 109, 97, 103, 101, 47, 103, 105, 102],
  .masked [255, 255, 255, 255, 0, 0, 0, 0, 255, 255, 255, 255, 255, 255] [82, 73, 70, 70, 0, 0, 0, 0, 87, 69, 66, 80, 86, 80] false [105, 109, 97, 103, 101, 47, 119, 101, 98, 112],
  .exact [137, 80, 78, 71, 13, 10, 26, 10] [105, 109, 97, 103, 101, 47, 112, 110, 103],
  .exact [255, 216, 255] [105, 109, 97, 103, 101, 47, 106, 112, 101, 103],
  .masked [255, 255, 255, 255, 0, 0, 0, 0, 255, 255, 255, 255] [70, 79, 82, 77, 0, 0, 0, 0, 65, 73, 70, 70] false [97, 117, 100, 105, 111, 47, 97, 105, 102, 102],
  .masked [255, 255, 255] [73, 68, 51] false [97, 117, 100, 105, 111, 47, 109, 112, 101, 103],
  .masked [255, 255, 255, 255, 255] [79, 103, 103, 83, 0] false [97, 112, 112, 108, 105, 99, 97, 116, 105, 111, 110, 47, 111, 103, 103],
  .masked [255, 255, 255, 255, 255, 255, 255, 255] [77, 84, 104, 100, 0, 0, 0, 6] false [97, 117, 100, 105, 111, 47, 109, 105, 100, 105],
  .masked [255, 255, 255, 255, 0, 0, 0, 0, 255, 255, 255, 255] [82, 73, 70, 70, 0, 0, 0, 0, 65, 86, 73, 32] false [118, 105, 100, 101, 111, 47, 97, 118, 105],
  .masked [255, 255, 255, 255, 0, 0, 0, 0, 255, 255, 255, 255] [82, 73, 70, 70, 0, 0, 0, 0, 87, 65, 86, 69] false [97, 117, 100, 105, 111, 47, 119, 97, 118, 101],
  .mp4,
  .exact [26, 69, 223, 163] [118, 105, 100, 101, 111, 47, 119, 101, 98, 109],
  .masked [0, 0, 0, 0, 0, 0, 0, 0, 0, 0, 0, 0, 0, 0, 0, 0, 0, 0, 0, 0, 0, 0, 0, 0, 0, 0, 0, 0, 0, 0, 0, 0, 0, 0, 255, 255] [0, 0, 0, 0, 0, 0, 0, 0, 0, 0, 0, 0, 0, 0, 0, 0, 0, 0, 0, 0, 0, 0, 0, 0, 0, 0, 0, 0, 0, 0, 0, 0, 0, 0, 76, 80] false [97, 112, 112, 108, 105, 99, 97, 116, 105, 111, 110, 47, 118, 110, 100, 46, 109, 115, 45, 102, 111, 110, 116, 111, 98, 106, 101, 99, 116],
  .exact [0, 1, 0, 0] [102, 111, 110, 116, 47, 116, 116, 102],
  .exact [79, 84, 84, 79] [102, 111, 110, 116, 47, 111, 116, 102],
  .exact [116, 116, 99, 102] [102, 111, 110, 116, 47, 99, 111, 108, 108, 101, 99, 116, 105, 111, 110],
  .exact [119, 79, 70, 70] [102, 111, 110, 116, 47, 119, 111, 102, 102],
  .exact [119, 79, 70, 50] [102, 111, 110, 116, 47, 119, 111, 102, 102, 50],
  .exact [31, 139, 8] [97, 112, 112, 108, 105, 99, 97, 116, 105, 111, 110, 47, 120, 45, 103, 122, 105, 112],
  .exact [80, 75, 3, 4] [97, 112, 112, 108, 105, 99, 97, 116, 105, 111, 110, 47, 122, 105, 112],
  .exact [82, 97, 114, 33, 26, 7, 0] [97, 112, 112, 108, 105, 99, 97, 116, 105, 111, 110, 47, 120, 45, 114, 97, 114, 45, 99, 111, 109, 112, 114, 101, 115, 115, 101, 100],
  .exact [82, 97, 114, 33, 26, 7, 1, 0] [97, 112, 112, 108, 105, 99, 97, 116, 105, 111, 110, 47, 120, 45, 114, 97, 114, 45, 99, 111, 109, 112, 114, 101, 115, 115, 101, 100],
  .exact [0, 97, 115, 109] [97, 112, 112, 108, 105, 99, 97, 116, 105, 111, 110, 47, 119, 97, 115, 109],
  .text]
theorem sigs_len : sigs.length = 51 := by decide
/-- The masked bytes are the pattern's. -/
def maskB : List UInt8 → List UInt8 → List UInt8 → Bool
  | _, [], _ => true
  | m :: ms, p :: ps, d :: ds => (d &&& m == p) && maskB ms ps ds
  | _, _, _ => false
def isWS (b : UInt8) : Bool := b == 9 || b == 10 || b == 12 || b == 13 || b == 32
/-- A signature that can't match: the data l, its first byte that is no blank at k. -/
def No (l : List UInt8) (k : Nat) : Sig → Prop
  | .html b => b.head? = some 60 ∧ (l.drop k).head? ≠ some 60
  | .exact b _ => b.isPrefixOf l = false
  | .masked m p skip _ => m.length = p.length ∧ maskB m p (if skip then l.drop k else l) = false
  | .mp4 => l.length < 12 ∨ (∃ x t, l = x :: t ∧ 1 ≤ x.toNat) ∧ l.length ≤ 512
  | .text => False
/-- A signature that matches. -/
def Yes (l : List UInt8) (k : Nat) (ct : List UInt8) : Sig → Prop
  | .exact b c => b.isPrefixOf l = true ∧ ct = c
  | .text => (∀ x ∈ l.drop k, 32 ≤ x.toNat ∨ x = 9 ∨ x = 10) ∧ ct = [116, 101, 120, 116, 47, 112, 108, 97, 105, 110, 59, 32, 99, 104, 97, 114, 115, 101, 116, 61, 117, 116, 102, 45, 56]
  | _ => False
/-- It clashes with a text that begins with m0 (whose first byte is neither a blank nor '<'). -/
def clash (m0 : List UInt8) : Sig → Bool
  | .html b => b.head? == some 60
  | .exact b _ => (b.zip m0).any fun x => x.1 != x.2
  | .masked m p _ _ => m.length == p.length && ((m.zip p).zip m0).any fun x => x.2 &&& x.1.1 != x.1.2
  | _ => false
theorem pre_clash : ∀ (b m0 t : List UInt8), ((b.zip m0).any fun x => x.1 != x.2) = true → b.isPrefixOf (m0 ++ t) = false
  | [], m0, t, h => by cases m0 <;> cases h
  | b :: bs, [], t, h => by cases h
  | b :: bs, x :: m0, t, h => by
    rw [List.cons_append, List.isPrefixOf]
    rw [List.zip_cons_cons, List.any_cons] at h
    by_cases e : b = x
    · subst e
      simp only [bne_self_eq_false, Bool.false_or] at h
      rw [pre_clash bs m0 t h, Bool.and_false]
    · rw [beq_eq_false_iff_ne.2 e, Bool.false_and]
theorem mask_clash : ∀ (m p m0 t : List UInt8), (((m.zip p).zip m0).any fun x => x.2 &&& x.1.1 != x.1.2) = true → maskB m p (m0 ++ t) = false
  | [], p, m0, t, h => by cases h
  | m :: ms, [], m0, t, h => by cases h
  | m :: ms, p :: ps, [], t, h => by cases h
  | m :: ms, p :: ps, x :: m0, t, h => by
    rw [List.cons_append]
    unfold maskB
    rw [List.zip_cons_cons, List.zip_cons_cons, List.any_cons] at h
    by_cases e : x &&& m = p
    · simp only [e, bne_self_eq_false, Bool.false_or] at h
      rw [mask_clash ms ps m0 t h, Bool.and_false]
    · rw [beq_eq_false_iff_ne.2 e, Bool.false_and]
theorem no_of_clash {m0 t : List UInt8} {s : Sig} (h0 : m0.head? ≠ some 60) (hne : m0 ≠ []) (h : clash m0 s = true) : No (m0 ++ t) 0 s := by
  cases s with
  | html b =>
    refine ⟨by simpa [clash] using h, ?_⟩
    cases m0 with
    | nil => exact absurd rfl hne
    | cons x m0 => simpa using h0
  | exact b ct => exact pre_clash b m0 t h
  | masked m p skip ct =>
    simp only [clash, Bool.and_eq_true, beq_iff_eq] at h
    refine ⟨h.1, ?_⟩
    cases skip <;> exact mask_clash m p m0 t h.2
  | mp4 => cases h
  | text => cases h
/-- Small letters, blanks and ends of line. -/
def low (x : UInt8) : Bool := (97 ≤ x && x ≤ 122) || x == 32 || x == 10
def strange : Sig → Bool
  | .html b => b.head? == some 60
  | .exact b _ => b.any fun x => !low x
  | .masked m p _ _ => m.length == p.length && ((m.zip p).any fun x => x.1 == 255 && !low x.2)
  | .mp4 => true
  | .text => false
theorem pre_strange : ∀ (b l : List UInt8), (b.any fun x => !low x) = true → (∀ x ∈ l, low x = true) → b.isPrefixOf l = false
  | [], l, h, _ => by cases h
  | b :: bs, [], h, _ => rfl
  | b :: bs, x :: l, h, hl => by
    rw [List.isPrefixOf]
    rw [List.any_cons] at h
    by_cases e : b = x
    · subst e
      rw [hl b List.mem_cons_self] at h
      simp only [Bool.not_true, Bool.false_or] at h
      rw [pre_strange bs l h (fun y hy => hl y (List.mem_cons_of_mem _ hy)), Bool.and_false]
    · rw [beq_eq_false_iff_ne.2 e, Bool.false_and]
theorem and_255 (x : UInt8) : x &&& 255 = x := by
  apply UInt8.toNat_inj.1
  rw [UInt8.toNat_and]
  show x.toNat &&& 255 = x.toNat
  rw [show (255 : Nat) = 2 ^ 8 - 1 from rfl, Nat.and_two_pow_sub_one_eq_mod]
  exact Nat.mod_eq_of_lt x.toNat_lt
theorem mask_strange : ∀ (m p l : List UInt8), ((m.zip p).any fun x => x.1 == 255 && !low x.2) = true → (∀ x ∈ l, low x = true) → maskB m p l = false
  | [], p, l, h, _ => by cases h
  | m :: ms, [], l, h, _ => by cases h
  | m :: ms, p :: ps, [], h, _ => rfl
  | m :: ms, p :: ps, x :: l, h, hl => by
    unfold maskB
    rw [List.zip_cons_cons, List.any_cons] at h
    by_cases e : x &&& m = p
    · by_cases e2 : m = 255
      · subst e2
        rw [and_255] at e
        subst e
        rw [hl x List.mem_cons_self] at h
        simp only [Bool.not_true, Bool.and_false, Bool.false_or] at h
        rw [mask_strange ms ps l h (fun y hy => hl y (List.mem_cons_of_mem _ hy)), Bool.and_false]
      · rw [beq_eq_false_iff_ne.2 e2, Bool.false_and, Bool.false_or] at h
        rw [mask_strange ms ps l h (fun y hy => hl y (List.mem_cons_of_mem _ hy)), Bool.and_false]
    · rw [beq_eq_false_iff_ne.2 e, Bool.false_and]
theorem low_ne (x : UInt8) (h : low x = true) : x ≠ 60 ∧ 1 ≤ x.toNat := by
  unfold low at h
  simp only [Bool.or_eq_true, Bool.and_eq_true, decide_eq_true_eq, beq_iff_eq, UInt8.le_iff_toNat_le] at h
  have e1 : (97 : UInt8).toNat = 97 := rfl
  have e2 : (122 : UInt8).toNat = 122 := rfl
  rcases h with (h | rfl) | rfl
  · refine ⟨fun e => ?_, by omega⟩
    subst e
    have e3 : (60 : UInt8).toNat = 60 := rfl
    omega
  · exact ⟨by decide, by decide⟩
  · exact ⟨by decide, by decide⟩
theorem no_of_strange {l : List UInt8} {k : Nat} {s : Sig} (hl : ∀ x ∈ l, low x = true) (hz : l.length ≤ 512) (h : strange s = true) : No l k s := by
  have hd : ∀ x ∈ l.drop k, low x = true := fun x hx => hl x (List.mem_of_mem_drop hx)
  cases s with
  | html b =>
    refine ⟨by simpa [strange] using h, fun e => ?_⟩
    have := hd 60 (List.mem_of_mem_head? e)
    exact absurd this (by decide)
  | exact b ct => exact pre_strange b l h hl
  | masked m p skip ct =>
    simp only [strange, Bool.and_eq_true, beq_iff_eq] at h
    refine ⟨h.1, ?_⟩
    cases skip
    · exact mask_strange m p l h.2 hl
    · exact mask_strange m p _ h.2 hd
  | mp4 =>
    cases l with
    | nil => exact .inl (by simp)
    | cons x t => exact .inr ⟨⟨x, t, rfl, (low_ne x (hl x List.mem_cons_self)).2⟩, hz⟩
  | text => cases h
/-- The first h signatures can't match, the next one does. -/
structure Hit (l : List UInt8) (k : Nat) (ct : List UInt8) (h : Nat) : Prop where
  lt : h < 51
  no : ∀ i s, i < h → sigs[i]? = some s → No l k s
  yes : ∀ s, sigs[h]? = some s → Yes l k ct s
theorem all_of {p : Sig → Bool} {n : Nat} (h : (sigs.take n).all p = true) : ∀ i s, i < n → sigs[i]? = some s → p s = true := fun i s hi hs => by
  rw [List.all_eq_true] at h
  exact h s (List.mem_of_getElem? (by rw [List.getElem?_take_of_lt hi]; exact hs))
theorem hit_pdf (t : List UInt8) : Hit ([37, 80, 68, 70, 45] ++ t) 0 [97, 112, 112, 108, 105, 99, 97, 116, 105, 111, 110, 47, 112, 100, 102] 18 :=
  ⟨by decide, fun i s hi hs => no_of_clash (by decide) (by decide) (all_of (p := clash [37, 80, 68, 70, 45]) (n := 18) (by decide) i s hi hs), fun s hs => by
    have e : sigs[18]? = some (.exact [37, 80, 68, 70, 45] [97, 112, 112, 108, 105, 99, 97, 116, 105, 111, 110, 47, 112, 100, 102]) := by rfl
    rw [e] at hs
    injection hs with hs
    subst hs
    exact ⟨by simp [List.isPrefixOf], rfl⟩⟩
theorem hit_png (t : List UInt8) : Hit ([137, 80, 78, 71, 13, 10, 26, 10] ++ t) 0 [105, 109, 97, 103, 101, 47, 112, 110, 103] 29 :=
  ⟨by decide, fun i s hi hs => no_of_clash (by decide) (by decide) (all_of (p := clash [137, 80, 78, 71, 13, 10, 26, 10]) (n := 29) (by decide) i s hi hs), fun s hs => by
    have e : sigs[29]? = some (.exact [137, 80, 78, 71, 13, 10, 26, 10] [105, 109, 97, 103, 101, 47, 112, 110, 103]) := by rfl
    rw [e] at hs
    injection hs with hs
    subst hs
    exact ⟨by simp [List.isPrefixOf], rfl⟩⟩
theorem hit_gif (t : List UInt8) : Hit ([71, 73, 70, 56, 57, 97] ++ t) 0 [105, 109, 97, 103, 101, 47, 103, 105, 102] 27 :=
  ⟨by decide, fun i s hi hs => no_of_clash (by decide) (by decide) (all_of (p := clash [71, 73, 70, 56, 57, 97]) (n := 27) (by decide) i s hi hs), fun s hs => by
    have e : sigs[27]? = some (.exact [71, 73, 70, 56, 57, 97] [105, 109, 97, 103, 101, 47, 103, 105, 102]) := by rfl
    rw [e] at hs
    injection hs with hs
    subst hs
    exact ⟨by simp [List.isPrefixOf], rfl⟩⟩
theorem hit_jpg (t : List UInt8) : Hit ([255, 216, 255] ++ t) 0 [105, 109, 97, 103, 101, 47, 106, 112, 101, 103] 30 :=
  ⟨by decide, fun i s hi hs => no_of_clash (by decide) (by decide) (all_of (p := clash [255, 216, 255]) (n := 30) (by decide) i s hi hs), fun s hs => by
    have e : sigs[30]? = some (.exact [255, 216, 255] [105, 109, 97, 103, 101, 47, 106, 112, 101, 103]) := by rfl
    rw [e] at hs
    injection hs with hs
    subst hs
    exact ⟨by simp [List.isPrefixOf], rfl⟩⟩
theorem low_ok (x : UInt8) (h : low x = true) : 32 ≤ x.toNat ∨ x = 9 ∨ x = 10 := by
  unfold low at h
  simp only [Bool.or_eq_true, Bool.and_eq_true, decide_eq_true_eq, beq_iff_eq, UInt8.le_iff_toNat_le] at h
  have e1 : (97 : UInt8).toNat = 97 := rfl
  rcases h with (h | rfl) | rfl
  · exact .inl (by omega)
  · exact .inl (by decide)
  · exact .inr (.inr rfl)
theorem hit_font (l : List UInt8) (k : Nat) (hl : ∀ x ∈ l, low x = true) (hz : l.length ≤ 512) (hp : [116, 116, 99, 102].isPrefixOf l = true) : Hit l k [102, 111, 110, 116, 47, 99, 111, 108, 108, 101, 99, 116, 105, 111, 110] 42 :=
  ⟨by decide, fun i s hi hs => no_of_strange hl hz (all_of (p := strange) (n := 42) (by decide) i s hi hs), fun s hs => by
    have e : sigs[42]? = some (.exact [116, 116, 99, 102] [102, 111, 110, 116, 47, 99, 111, 108, 108, 101, 99, 116, 105, 111, 110]) := by rfl
    rw [e] at hs
    injection hs with hs
    subst hs
    exact ⟨hp, rfl⟩⟩
def ttcf : Sig → Bool
  | .exact b _ => b == [116, 116, 99, 102]
  | _ => false
theorem hit_text (l : List UInt8) (k : Nat) (hl : ∀ x ∈ l, low x = true) (hz : l.length ≤ 512) (hp : [116, 116, 99, 102].isPrefixOf l = false) : Hit l k [116, 101, 120, 116, 47, 112, 108, 97, 105, 110, 59, 32, 99, 104, 97, 114, 115, 101, 116, 61, 117, 116, 102, 45, 56] 50 :=
  ⟨by decide, fun i s hi hs => by
    by_cases e : i = 42
    · subst e
      have e : sigs[42]? = some (.exact [116, 116, 99, 102] [102, 111, 110, 116, 47, 99, 111, 108, 108, 101, 99, 116, 105, 111, 110]) := by rfl
      rw [e] at hs
      injection hs with hs
      subst hs
      exact hp
    · have h1 : ∀ i s, i < 50 → sigs[i]? = some s → (strange s || ttcf s) = true := all_of (p := fun s => strange s || ttcf s) (n := 50) (by decide)
      have h2 := h1 i s hi hs
      cases h3 : strange s
      · exfalso
        rw [h3, Bool.false_or] at h2
        have h4 : ∀ j, j < 50 → j ≠ 42 → (sigs[j]?.map ttcf) = some false := by decide
        have h5 := h4 i hi e
        rw [hs] at h5
        injection h5 with h5
        rw [h5] at h2
        cases h2
      · exact no_of_strange hl hz h3, fun s hs => by
    have e : sigs[50]? = some .text := by rfl
    rw [e] at hs
    injection hs with hs
    subst hs
    exact ⟨fun x hx => low_ok x (hl x (List.mem_of_mem_drop hx)), rfl⟩⟩
end Go.Proofs.YtflpmhjfchpplaaDoor.Sn
