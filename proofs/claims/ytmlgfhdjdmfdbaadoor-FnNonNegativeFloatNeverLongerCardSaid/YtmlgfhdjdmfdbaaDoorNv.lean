/-
  Proved: plain facts on numbers: which are printed on the quick path, and that their text is no shorter than the numeral. No statement of the seat stands here.
-/
import Derived.Test.YtmlgfhdjdmfdbaaDoorKd
import Derived.Test.YtmlgfhdjdmfdbaaDoorNr
import Derived.Test.YtmlgfhdjdmfdbaaDoorNw
namespace Go.Proofs.YtmlgfhdjdmfdbaaDoor
set_option linter.unusedSimpArgs false
set_option linter.unusedVariables false
set_option maxRecDepth 1000000
theorem zero_bits' (b : Nat) (hb : b < 18446744073709551616) (hE : fE b ≠ 2047) (hm : fMant b = 0) : b = 0 ∨ b = 9223372036854775808 := by
  unfold fMant at hm
  split at hm
  · rename_i h0
    unfold fE at h0
    unfold fM at hm
    omega
  · omega
theorem bits1000 : Ieee.double.read 4652007308841189376 = .number false 8796093022208000 (-43) := by decide
/-- The quick path: a whole number below 1000. -/
structure Quick (b N : Nat) : Prop where
  lt : N < 1000
  o1 : (FloatKind.f64.format.order b 4652007308841189376 == some Ordering.lt) = true
  cv : floatToIntVal .f64 b .i64 = some (N : Int)
  o2 : (FloatKind.f64.format.order b (floatOfInt .f64 (N : Int)) == some .eq) = true
theorem bits_of (b N k : Nat) (hb : b < 9223372036854775808) (hk1 : 1 ≤ k) (hk : fe1 b - 1075 = -(k : Int)) (hm : fMant b = N * 2 ^ k) (hlo : 4503599627370496 ≤ fMant b) (hhi : fMant b < 9007199254740992) :
    b = (1075 - k) * 4503599627370496 + (N * 2 ^ k - 4503599627370496) := by
  rw [← hm]
  have hE0 : fE b ≠ 0 := by
    intro h
    unfold fMant at hlo
    rw [if_pos h] at hlo
    unfold fM at hlo
    omega
  unfold fMant fe1 at *
  rw [if_neg hE0] at *
  unfold fE fM at *
  omega
theorem cases96 (b : Nat) (hb : b < 18446744073709551616) (hE : fE b ≠ 2047) (hz : fMant b ≠ 0) (hc : (FloatKind.f64.format.order b 0 == some .lt) = false) :
    fNeg b = false ∧ ((∃ N, Quick b N ∧ dl N ≤ (ffText b).length) ∨ Asks b) := by
  have hf := fin_of b hb hE
  have hn : fNeg b = false := by
    cases h : fNeg b
    · rfl
    · exact absurd (abs_pos b hf hc h) hz
  refine ⟨hn, ?_⟩
  have hb2 : b < 9223372036854775808 := by
    unfold fNeg at hn
    have := of_decide_eq_false hn
    omega
  cases ho : (FloatKind.f64.format.order b 4652007308841189376 == some Ordering.lt)
  · exact .inr (.inl ho)
  have hlt := ho
  rw [ord_num hf.rd bits1000, cmp_lt, hn] at hlt
  have hlt := of_decide_eq_true hlt
  rw [signed_f, signed_f] at hlt
  have hm2 := hf.m
  have hneg : fe1 b - 1075 ≤ -43 := by
    by_cases h0 : fe1 b - 1075 ≤ -43
    · exact h0
    exfalso
    have hno := hf.norm (by omega)
    rw [show min (fe1 b - 1075) (-43) = -43 by omega] at hlt
    have e0 : ((-43 : Int) - -43).toNat = 0 := by decide
    obtain ⟨u, hu⟩ : ∃ u, (fe1 b - 1075 - -43).toNat = u + 1 := ⟨(fe1 b - 1075 - -43).toNat - 1, by omega⟩
    rw [e0, hu, Nat.pow_succ] at hlt
    have h1 : 4503599627370496 * 2 ≤ fMant b * (2 ^ u * 2) := Nat.mul_le_mul hno (by have := Nat.pow_pos (n := u) (show 0 < 2 by omega); omega)
    omega
  obtain ⟨k, hk⟩ : ∃ k : Nat, fe1 b - 1075 = -((k + 43 : Nat) : Int) := ⟨(-(fe1 b - 1075) - 43).toNat, by omega⟩
  have hlt2 : fMant b < 1000 * 2 ^ (k + 43) := by
    rw [hk, show min (-((k + 43 : Nat) : Int)) (-43) = -((k + 43 : Nat) : Int) by omega] at hlt
    rw [show (-((k + 43 : Nat) : Int) - -((k + 43 : Nat) : Int)).toNat = 0 by omega, show ((-43 : Int) - -((k + 43 : Nat) : Int)).toNat = k by omega] at hlt
    rw [Nat.pow_add]
    have e : (8796093022208000 : Nat) = 1000 * 2 ^ 43 := by decide
    rw [e] at hlt
    have e2 : 1000 * (2 ^ k * 2 ^ 43) = 1000 * 2 ^ 43 * 2 ^ k := by rw [Nat.mul_comm (2 ^ k), Nat.mul_assoc]
    omega
  generalize hk3 : k + 43 = k3 at hk hlt2
  obtain ⟨N, hN⟩ : ∃ N, fMant b / 2 ^ k3 = N := ⟨_, rfl⟩
  have hp : 0 < 2 ^ k3 := Nat.pow_pos (by omega)
  have hN1 : N < 1000 := by rw [← hN]; exact (Nat.div_lt_iff_lt_mul hp).2 hlt2
  have hcut : Ieee.Toward.zero.cut (fNeg b) (fMant b <<< (fe1 b - 1075).toNat) (-(fe1 b - 1075)).toNat = N := by
    rw [cut_zero, hk, show (-((k3 : Nat) : Int)).toNat = 0 by omega, show (-(-((k3 : Nat) : Int))).toNat = k3 by omega, Nat.shiftLeft_zero]
    by_cases h : 2 ^ k3 ≤ fMant b
    · rw [min_k _ _ h]; exact hN
    · rw [← hN, Nat.div_eq_of_lt (show fMant b < 2 ^ k3 by omega)]
      have hl := (Nat.log2_lt hz (k := (fMant b).log2 + 1)).1 (by omega)
      rcases Nat.le_total k3 ((fMant b).log2 + 2) with c | c
      · rw [Nat.min_eq_left c]; exact Nat.div_eq_of_lt (by omega)
      · rw [Nat.min_eq_right c]
        refine Nat.div_eq_of_lt (Nat.lt_of_lt_of_le hl (Nat.pow_le_pow_right (by omega) (by omega)))
  have hti := toInt_whole b hf N hcut
  rw [hn, signed_f, Nat.pow_zero, Nat.mul_one] at hti
  have hcv := toIntVal b (N : Int) hti (by omega) (by omega)
  cases ho2 : (FloatKind.f64.format.order b (floatOfInt .f64 (N : Int)) == some Ordering.eq)
  · exact .inr (.inr ⟨ho, _, hcv, ho2⟩)
  · refine .inl ⟨N, ⟨hN1, ho, hcv, ho2⟩, ?_⟩
    have hfl : floatOfInt .f64 (N : Int) = Ieee.double.nearest false N 0 := by
      rw [floatOf, show ((N : Int)).natAbs = N by omega, show decide ((N : Int) < 0) = false from decide_eq_false (by omega)]
    rw [hfl] at ho2
    have hrd := hf.rd
    rw [hk, hn] at hrd
    have hN0 : N ≠ 0 := by
      intro h0
      subst h0
      have e0 : Ieee.double.nearest false 0 0 = 0 := by decide
      rw [e0, ord_num hrd read_zero0, cmp_eqd] at ho2
      have := of_decide_eq_true ho2
      rw [signed_f, signed_0] at this
      have hp2 := Nat.mul_pos (Nat.pos_of_ne_zero hz) (Nat.pow_pos (n := (-((k3 : Nat) : Int) - min (-((k3 : Nat) : Int)) (-1074)).toNat) (show 0 < 2 by omega))
      omega
    rw [cmp_small false N (fMant b) k3 hN0 (by omega) b hrd] at ho2
    have hm := of_decide_eq_true ho2
    have h53 : k3 < 53 := by
      rcases Nat.lt_or_ge k3 53 with h | h
      · exact h
      · exfalso
        have h2 : 2 ^ 53 ≤ 2 ^ k3 := Nat.pow_le_pow_right (by omega) h
        have h3 : 1 * 2 ^ 53 ≤ N * 2 ^ k3 := Nat.mul_le_mul (by omega) h2
        omega
    have hno := hf.norm (by omega)
    rw [bits_of b N k3 hb2 (by omega) hk hm.symm hno hm2]
    exact chk_at N k3 hN1 h53 (by rw [hm]; exact hno) (by rw [hm]; exact hm2)
end Go.Proofs.YtmlgfhdjdmfdbaaDoor
