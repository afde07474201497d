/-
  Proved: plain functions on the text of a number: its exponent simplified, the lengths that the printer comes to, and how they compare. No statement of the seat stands here.
-/
import Derived.Test.YtmlgfhdjdmfdbaaDoorNe
namespace Go.Proofs.YtmlgfhdjdmfdbaaDoor
set_option linter.unusedSimpArgs false
set_option linter.unusedVariables false
set_option maxRecDepth 100000
/-- The digits of a number that is no zero. -/
structure DsOk (ds : List UInt8) : Prop where
  len : 1 ≤ ds.length ∧ ds.length ≤ 20
  dig : ∀ x ∈ ds, 48 ≤ x.toNat ∧ x.toNat ≤ 57
  head : ∃ d r, ds = d :: r ∧ d.toNat ≠ 48
theorem dec_digits : ∀ (n u : Nat), u ≤ n → ∀ x ∈ Lib.decDigits u, 48 ≤ x.toNat ∧ x.toNat ≤ 57 := by
  intro n
  induction n with
  | zero =>
    intro u hu x hx
    obtain rfl : u = 0 := by omega
    rw [Lib.decDigits_one (by omega)] at hx
    simp at hx; subst hx; decide
  | succ n ih =>
    intro u hu x hx
    by_cases h : u < 10
    · rw [Lib.decDigits_one h] at hx
      rw [List.mem_singleton] at hx; subst hx
      rw [UInt8.toNat_ofNat']; omega
    · rw [Lib.decDigits, dif_neg h] at hx
      rcases List.mem_append.1 hx with h1 | h1
      · exact ih (u / 10) (by omega) x h1
      · rw [List.mem_singleton] at h1; subst h1
        rw [UInt8.toNat_ofNat']; omega
theorem dec_head : ∀ (n u : Nat), u ≤ n → 1 ≤ u → ∃ d r, Lib.decDigits u = d :: r ∧ d.toNat ≠ 48 := by
  intro n
  induction n with
  | zero => intro u h1 h2; omega
  | succ n ih =>
    intro u hu h1
    by_cases h : u < 10
    · refine ⟨UInt8.ofNat (48 + u), [], by rw [Lib.decDigits_one h], ?_⟩
      rw [UInt8.toNat_ofNat']; omega
    · obtain ⟨d, r, h2, h3⟩ := ih (u / 10) (by omega) (by omega)
      exact ⟨d, r ++ [UInt8.ofNat (48 + u % 10)], by rw [Lib.decDigits, dif_neg h, h2]; rfl, h3⟩
theorem ds_ok (d : Nat) (h1 : 1 ≤ d) (h2 : d < 18446744073709551616) : DsOk (dsOf d) := by
  have hc := cut_pos d h1
  have hcl := cut_le (Lib.decDigits d) (Lib.nDigits d)
  have h20 : d < 10 ^ 20 := by
    have h3 : (10 : Nat) ^ 20 = 100000000000000000000 := by decide
    rw [h3]
    omega
  have hn := nDigits_le d 20 h20 (by decide)
  refine ⟨by rw [dsOf_len]; omega, fun x hx => dec_digits d d (Nat.le_refl _) x (List.mem_of_mem_take hx), ?_⟩
  obtain ⟨c, r, h3, h4⟩ := dec_head d d (Nat.le_refl _) h1
  unfold dsOf
  rw [h3]
  obtain ⟨k, hk⟩ : ∃ k, cut (c :: r) (Lib.nDigits d) = k + 1 := ⟨cut (c :: r) (Lib.nDigits d) - 1, by rw [h3] at hc; omega⟩
  rw [hk]
  exact ⟨c, r.take k, rfl, h4⟩
/-! ## The exponent -/
/-- The exponent's digits without leading zeros. -/
def expS (x : Nat) : List UInt8 := if x < 10 then [dgt x] else if x < 100 then [dgt (x / 10), dgt (x % 10)] else [dgt (x / 100), dgt (x / 10 % 10), dgt (x % 10)]
def expZ (x : Nat) : Nat := if x < 10 then 1 else 0
theorem expD_eq (x : Nat) : expD x = List.replicate (expZ x) 48 ++ expS x := by
  unfold expD expS expZ
  by_cases h : x < 10
  · rw [if_pos h, if_pos h, if_pos h]; rfl
  · rw [if_neg h, if_neg h, if_neg h]
    rfl
theorem dgt_toNat (x : Nat) (h : x < 10) : (dgt x).toNat = 48 + x := by unfold dgt; rw [UInt8.toNat_ofNat']; omega
structure EsOk (es : List UInt8) : Prop where
  len : 1 ≤ es.length ∧ es.length ≤ 3
  dig : ∀ x ∈ es, 48 ≤ x.toNat ∧ x.toNat ≤ 57
  head : ∃ d r, es = d :: r ∧ d.toNat ≠ 48
theorem es_ok (x : Nat) (h1 : 1 ≤ x) (h2 : x < 1000) : EsOk (expS x) := by
  unfold expS
  by_cases a : x < 10
  · rw [if_pos a]
    have e := dgt_toNat x a
    exact ⟨by simp, by intro y hy; simp at hy; subst hy; omega, ⟨_, _, rfl, by omega⟩⟩
  · rw [if_neg a]
    by_cases b : x < 100
    · rw [if_pos b]
      have e1 := dgt_toNat (x / 10) (by omega)
      have e2 := dgt_toNat (x % 10) (by omega)
      exact ⟨by simp, by intro y hy; simp at hy; rcases hy with rfl | rfl <;> omega, ⟨_, _, rfl, by omega⟩⟩
    · rw [if_neg b]
      have e1 := dgt_toNat (x / 100) (by omega)
      have e2 := dgt_toNat (x / 10 % 10) (by omega)
      have e3 := dgt_toNat (x % 10) (by omega)
      exact ⟨by simp, by intro y hy; simp at hy; rcases hy with rfl | rfl | rfl <;> omega, ⟨_, _, rfl, by omega⟩⟩
/-- A text with an exponent: what stands before 'e', the sign, how many zeros, the digits. -/
def mkE (pre : List UInt8) (neg : Bool) (z : Nat) (es : List UInt8) : List UInt8 := pre ++ 101 :: (if neg then 45 else 43) :: (List.replicate z 48 ++ es)
/-- The same with the exponent simplified. -/
def mkR (pre : List UInt8) (neg : Bool) (es : List UInt8) : List UInt8 := pre ++ 101 :: ((if neg then [45] else []) ++ es)
def preOf (ds : List UInt8) : List UInt8 := [ds.getD 0 0] ++ fracE ds
theorem txtE_eq (ds : List UInt8) (neg : Bool) (x : Nat) : txtE false ds (if neg then 45 else 43) x = mkE (preOf ds) neg (expZ x) (expS x) := by
  unfold txtE mkE preOf signB
  rw [expD_eq]
  simp
/-- The text, its exponent simplified. -/
def rOf (ds : List UInt8) (dp : Int) : List UInt8 :=
  if dp ≤ -4 then mkR (preOf ds) true (expS (1 - dp).toNat) else if 7 ≤ dp then mkR (preOf ds) false (expS (dp - 1).toNat) else txtG false ds dp
/-! ## The lengths -/
/-- Trailing zeros made an exponent. -/
def lenC (r : List UInt8) : Nat := if nb r (r.length - 1) = 48 ∧ cut r r.length + 1 + sLen ((r.length - cut r r.length : Nat) : Int) < r.length then cut r r.length + 1 + sLen ((r.length - cut r r.length : Nat) : Int) else r.length
/-- A point and an exponent made one. -/
def lenB (m : Nat) (X : Int) (n : Nat) : Nat :=
  if 0 ≤ X - m ∧ X - m ≤ 2 then (if 1 + m + (X - m).toNat ≤ n then 1 + m + (X - m).toNat else n) else (if 1 + m + 1 + sLen (X - m) ≤ n then 1 + m + 1 + sLen (X - m) else n)
/-- A number that begins with '0.'. -/
def lenA (q n : Nat) (mn : Bool) : Nat :=
  if 1 ≤ q ∧ n + 1 + sLen (-((q + n : Nat) : Int)) < (if mn then q + n + 1 else q + n + 2) then n + 1 + sLen (-((q + n : Nat) : Int)) else (if mn then q + n + 1 else q + n + 2)
def len2 (ds : List UInt8) (dp : Int) (mn : Bool) : Nat :=
  if dp ≤ -4 then (if ds.length ≤ 1 then lenC (rOf ds dp) else lenB (ds.length - 1) (-((pv (expS (1 - dp).toNat) : Nat) : Int)) (rOf ds dp).length)
  else if 7 ≤ dp then (if ds.length ≤ 1 then lenC (rOf ds dp) else lenB (ds.length - 1) ((pv (expS (dp - 1).toNat) : Nat) : Int) (rOf ds dp).length)
  else if dp ≤ 0 then lenA (-dp).toNat ds.length mn
  else if ds.length ≤ dp.toNat then lenC (rOf ds dp) else (rOf ds dp).length
theorem lenC_le (r : List UInt8) : lenC r ≤ r.length := by
  unfold lenC
  by_cases h : nb r (r.length - 1) = 48 ∧ cut r r.length + 1 + sLen ((r.length - cut r r.length : Nat) : Int) < r.length
  · rw [if_pos h]; omega
  · rw [if_neg h]; exact Nat.le_refl _
theorem lenB_le (m : Nat) (X : Int) (n : Nat) : lenB m X n ≤ n := by
  unfold lenB
  by_cases h : 0 ≤ X - m ∧ X - m ≤ 2
  · rw [if_pos h]
    by_cases h2 : 1 + m + (X - m).toNat ≤ n
    · rw [if_pos h2]; exact h2
    · rw [if_neg h2]; exact Nat.le_refl _
  · rw [if_neg h]
    by_cases h2 : 1 + m + 1 + sLen (X - m) ≤ n
    · rw [if_pos h2]; exact h2
    · rw [if_neg h2]; exact Nat.le_refl _
theorem lenA_le (q n : Nat) : lenA q n false ≤ q + n + 2 ∧ lenA q n true ≤ lenA q n false := by
  unfold lenA
  generalize n + 1 + sLen (-((q + n : Nat) : Int)) = X
  simp only [if_true, Bool.false_eq_true, if_false]
  by_cases h1 : 1 ≤ q ∧ X < q + n + 2
  · rw [if_pos h1]
    by_cases h2 : 1 ≤ q ∧ X < q + n + 1
    · rw [if_pos h2]; omega
    · rw [if_neg h2]; omega
  · rw [if_neg h1, if_neg (show ¬ (1 ≤ q ∧ X < q + n + 1) by omega)]
    omega
theorem mkR_le (pre : List UInt8) (neg : Bool) (z : Nat) (es : List UInt8) : (mkR pre neg es).length ≤ (mkE pre neg z es).length := by
  unfold mkR mkE
  cases neg <;> simp <;> omega
theorem rOf_le (ds : List UInt8) (dp : Int) : (rOf ds dp).length ≤ (txtG false ds dp).length := by
  unfold rOf
  by_cases h1 : dp ≤ -4
  · rw [if_pos h1]
    have e : txtG false ds dp = txtE false ds (if true then 45 else 43) (1 - dp).toNat := by unfold txtG; rw [if_pos h1]; rfl
    rw [e, txtE_eq]
    exact mkR_le _ _ _ _
  · rw [if_neg h1]
    by_cases h2 : 7 ≤ dp
    · rw [if_pos h2]
      have e : txtG false ds dp = txtE false ds (if false then 45 else 43) (dp - 1).toNat := by unfold txtG; rw [if_neg h1, if_pos h2]; rfl
      rw [e, txtE_eq]
      exact mkR_le _ _ _ _
    · rw [if_neg h2]; exact Nat.le_refl _
theorem txtZ (ds : List UInt8) (dp : Int) (h1 : ¬ dp ≤ -4) (h3 : dp ≤ 0) : txtG false ds dp = 48 :: 46 :: (List.replicate (-dp).toNat 48 ++ ds) := by
  unfold txtG
  rw [if_neg h1, if_neg (show ¬ 7 ≤ dp by omega), if_pos h3]
  simp [signB]
theorem len2_le (ds : List UInt8) (dp : Int) : len2 ds dp false ≤ (txtG false ds dp).length ∧ len2 ds dp true ≤ len2 ds dp false := by
  have hr := rOf_le ds dp
  unfold len2
  by_cases h1 : dp ≤ -4
  · simp only [if_pos h1]
    by_cases h2 : ds.length ≤ 1
    · simp only [if_pos h2]
      exact ⟨Nat.le_trans (lenC_le _) hr, Nat.le_refl _⟩
    · simp only [if_neg h2]
      exact ⟨Nat.le_trans (lenB_le _ _ _) hr, Nat.le_refl _⟩
  · simp only [if_neg h1]
    by_cases h3 : 7 ≤ dp
    · simp only [if_pos h3]
      by_cases h2 : ds.length ≤ 1
      · simp only [if_pos h2]
        exact ⟨Nat.le_trans (lenC_le _) hr, Nat.le_refl _⟩
      · simp only [if_neg h2]
        exact ⟨Nat.le_trans (lenB_le _ _ _) hr, Nat.le_refl _⟩
    · simp only [if_neg h3]
      by_cases h4 : dp ≤ 0
      · simp only [if_pos h4]
        have := lenA_le (-dp).toNat ds.length
        rw [txtZ ds dp h1 h4]
        refine ⟨?_, this.2⟩
        simp
        omega
      · simp only [if_neg h4]
        by_cases h2 : ds.length ≤ dp.toNat
        · simp only [if_pos h2]
          exact ⟨Nat.le_trans (lenC_le _) hr, Nat.le_refl _⟩
        · simp only [if_neg h2]
          exact ⟨hr, Nat.le_refl _⟩
end Go.Proofs.YtmlgfhdjdmfdbaaDoor
