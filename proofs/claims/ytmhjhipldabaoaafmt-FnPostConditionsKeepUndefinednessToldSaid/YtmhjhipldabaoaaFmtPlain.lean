/-
  Proved: plain lemmas on percent decoding (no Go in sight). No condition; no statement of the seat stands here.
-/
import Derived.Below
import Derived.Lib.Hide
namespace Go.Proofs.YtmhjhipldabaoaaFmt

def isHex (c : Nat) : Bool := (48 ≤ c && c ≤ 57) || (65 ≤ c && c ≤ 70) || (97 ≤ c && c ≤ 102)
def hexV (c : Nat) : Nat := if c ≤ 57 then c - 48 else if c ≤ 70 then c - 55 else c - 87
theorem hexV_lt {c : Nat} (h : isHex c = true) : hexV c < 16 := by
  simp [isHex] at h
  unfold hexV
  split
  · omega
  · split <;> omega
def escV (a b : Nat) : Nat := hexV a * 16 + hexV b
def isSl (v : Nat) : Bool := v == 47 || v == 92

/-- Percent decoding from place i on: the bytes, and whether an escape gave a slash or a backslash; none: a malformed escape. -/
def dec (b : Nat → Nat) (n i : Nat) : Option (List UInt8 × Bool) :=
  if i < n then
    if b i = 37 then
      if i + 2 < n ∧ isHex (b (i + 1)) = true ∧ isHex (b (i + 2)) = true then
        (dec b n (i + 3)).map fun r => (UInt8.ofNat (escV (b (i + 1)) (b (i + 2))) :: r.1, isSl (escV (b (i + 1)) (b (i + 2))) || r.2)
      else none
    else (dec b n (i + 1)).map fun r => (UInt8.ofNat (b i) :: r.1, r.2)
  else some ([], false)
termination_by n - i
decreasing_by all_goals omega

/-- Place i is reached from the begin by whole escapes and other bytes: 'out' decoded, k escapes, sl: one of them a slash. -/
inductive Al (b : Nat → Nat) (n : Nat) : Nat → List UInt8 → Nat → Bool → Prop
  | nil : Al b n 0 [] 0 false
  | plain {i : Nat} {out : List UInt8} {k : Nat} {sl : Bool} (h : Al b n i out k sl) (hi : i < n) (hc : b i ≠ 37) : Al b n (i + 1) (out ++ [UInt8.ofNat (b i)]) k sl
  | esc {i : Nat} {out : List UInt8} {k : Nat} {sl : Bool} (h : Al b n i out k sl) (hi : i + 2 < n) (hc : b i = 37) (h1 : isHex (b (i + 1)) = true) (h2 : isHex (b (i + 2)) = true) :
      Al b n (i + 3) (out ++ [UInt8.ofNat (escV (b (i + 1)) (b (i + 2)))]) (k + 1) (sl || isSl (escV (b (i + 1)) (b (i + 2))))

theorem Al.decd {b : Nat → Nat} {n i : Nat} {out : List UInt8} {k : Nat} {sl : Bool} (h : Al b n i out k sl) : dec b n 0 = (dec b n i).map fun r => (out ++ r.1, sl || r.2) := by
  induction h with
  | nil => cases YtmhjhipldabaoaaFmt.dec b n 0 <;> simp
  | @plain i out k sl h hi hc ih =>
    rw [ih, YtmhjhipldabaoaaFmt.dec.eq_def b n i, if_pos hi, if_neg hc, Option.map_map]
    congr 1
    funext r
    simp
  | @esc i out k sl h hi hc h1 h2 ih =>
    rw [ih, YtmhjhipldabaoaaFmt.dec.eq_def b n i, if_pos (by omega), if_pos hc, if_pos ⟨hi, h1, h2⟩, Option.map_map]
    congr 1
    funext r
    simp [Bool.or_assoc]

theorem Al.whole {b : Nat → Nat} {n : Nat} {out : List UInt8} {k : Nat} {sl : Bool} (h : Al b n n out k sl) : YtmhjhipldabaoaaFmt.dec b n 0 = some (out, sl) := by
  rw [h.decd, YtmhjhipldabaoaaFmt.dec.eq_def, if_neg (by omega)]
  simp
theorem Al.bad {b : Nat → Nat} {n i : Nat} {out : List UInt8} {k : Nat} {sl : Bool} (h : Al b n i out k sl) (hi : i < n) (hc : b i = 37) (hb : ¬ (i + 2 < n ∧ isHex (b (i + 1)) = true ∧ isHex (b (i + 2)) = true)) : YtmhjhipldabaoaaFmt.dec b n 0 = none := by
  rw [h.decd, YtmhjhipldabaoaaFmt.dec.eq_def, if_pos hi, if_pos hc, if_neg hb]
  rfl
theorem Al.length {b : Nat → Nat} {n i : Nat} {out : List UInt8} {k : Nat} {sl : Bool} (h : Al b n i out k sl) : out.length + 2 * k = i := by
  induction h with
  | nil => rfl
  | plain _ _ _ ih => simp; omega
  | esc _ _ _ _ _ ih => simp; omega
theorem Al.none {b : Nat → Nat} {n i : Nat} {out : List UInt8} {k : Nat} {sl : Bool} (h : Al b n i out k sl) : k = 0 → out = (List.range i).map (fun j => UInt8.ofNat (b j)) ∧ sl = false := by
  induction h with
  | nil => simp
  | plain _ _ _ ih => intro hk; obtain ⟨h1, h2⟩ := ih hk; exact ⟨by rw [h1, List.range_succ]; simp, h2⟩
  | esc _ _ _ _ _ ih => intro hk; omega
/-- A slash is found just where one of the four escapes stands somewhere in the text (of a text without malformed escapes). -/
def foundAt (b : Nat → Nat) (n j : Nat) : Prop := j + 2 < n ∧ b j = 37 ∧ isHex (b (j + 1)) = true ∧ isHex (b (j + 2)) = true ∧ isSl (escV (b (j + 1)) (b (j + 2))) = true
theorem Al.slash {b : Nat → Nat} {n i : Nat} {out : List UInt8} {k : Nat} {sl : Bool} (h : Al b n i out k sl) : sl = true ↔ ∃ j, j < i ∧ foundAt b n j := by
  induction h with
  | nil => simp
  | @plain i out k sl h hi hc ih =>
    rw [ih]
    constructor
    · rintro ⟨j, h1, h2⟩; exact ⟨j, by omega, h2⟩
    · rintro ⟨j, h1, h2⟩
      refine ⟨j, ?_, h2⟩
      by_cases hj : j = i
      · subst hj; exact absurd h2.2.1 hc
      · omega
  | @esc i out k sl h hi hc h1 h2 ih =>
    rw [Bool.or_eq_true, ih]
    constructor
    · rintro (⟨j, h3, h4⟩ | h3)
      · exact ⟨j, by omega, h4⟩
      · exact ⟨i, by omega, hi, hc, h1, h2, h3⟩
    · rintro ⟨j, h3, h4⟩
      by_cases hj : j < i
      · exact .inl ⟨j, hj, h4⟩
      · by_cases hj0 : j = i
        · subst hj0; exact .inr h4.2.2.2.2
        · exfalso
          have : j = i + 1 ∨ j = i + 2 := by omega
          rcases this with rfl | rfl
          · rw [h4.2.1] at h1; simp [isHex] at h1
          · rw [h4.2.1] at h2; simp [isHex] at h2
theorem slash_cases {b : Nat → Nat} {n j : Nat} : foundAt b n j ↔ j + 2 < n ∧ b j = 37 ∧ ((b (j + 1) = 50 ∧ (b (j + 2) = 102 ∨ b (j + 2) = 70)) ∨ (b (j + 1) = 53 ∧ (b (j + 2) = 99 ∨ b (j + 2) = 67))) := by
  unfold foundAt isHex escV isSl hexV
  generalize b (j + 1) = x
  generalize b (j + 2) = y
  constructor
  · rintro ⟨h1, h2, h3, h4, h5⟩
    refine ⟨h1, h2, ?_⟩
    simp at h3 h4 h5
    repeat' split at h5
    all_goals omega
  · rintro ⟨h1, h2, h3⟩
    refine ⟨h1, h2, ?_⟩
    rcases h3 with ⟨rfl, rfl | rfl⟩ | ⟨rfl, rfl | rfl⟩ <;> decide
end Go.Proofs.YtmhjhipldabaoaaFmt
