/-
  Proved: plain facts on 64-bit floats: exact writing, the rounding sum with 2^52, whole numbers as integers. No statement of the seat stands here.
-/
import Derived.Test.YtmlgfhdjdmfdbaaDoorKa
import Derived.Laws.FloatArith
namespace Go.Proofs.YtmlgfhdjdmfdbaaDoor
set_option linter.unusedSimpArgs false
set_option linter.unusedVariables false
set_option maxRecDepth 100000
theorem dSign : Ieee.double.signWeight = 9223372036854775808 := by decide
theorem dBin : Ieee.double.binade = 4503599627370496 := by decide
theorem dInf : Ieee.double.infRung = 9218868437227405312 := by decide
theorem dLeast : Ieee.double.leastPlace = -1074 := by decide
theorem dFrac : Ieee.double.fractionBits = 52 := by decide
theorem read_fields (b : Nat) (hb : b < 18446744073709551616) (hE : fE b ≠ 2047) : Ieee.double.read b = .number (fNeg b) (fMant b) (fe1 b - 1075) := by
  unfold Ieee.Format.read
  rw [dSign, dBin, dInf, dLeast]
  have hn : (b / 9223372036854775808 % 2 == 1) = fNeg b := by
    unfold fNeg
    by_cases h : 9223372036854775808 ≤ b
    · rw [decide_eq_true h]; simp; omega
    · rw [decide_eq_false h]; simp; omega
  have hE2 : fE b < 2048 := Nat.mod_lt _ (by omega)
  have hr : b % 9223372036854775808 / 4503599627370496 = fE b := by unfold fE; omega
  have hm : b % 9223372036854775808 % 4503599627370496 = fM b := by unfold fM; omega
  have hd := Nat.div_add_mod (b % 9223372036854775808) 4503599627370496
  have hml : fM b < 4503599627370496 := Nat.mod_lt _ (by omega)
  rw [hr, hm] at hd
  dsimp only
  rw [hn]
  by_cases h0 : fE b = 0
  · rw [if_pos (by omega)]
    unfold fMant fe1
    rw [if_pos h0, if_pos h0, ← hd, h0]
    simp
  · rw [if_neg (by omega), if_pos (by omega), hr, hm]
    unfold fMant fe1
    rw [if_neg h0, if_neg h0]
    congr 1 <;> omega
theorem read_word (s : Bool) (E F : Nat) (h1 : 1 ≤ E) (h2 : E ≤ 2046) (hF : F < 4503599627370496) : Ieee.double.read (Ieee.double.word s (E * 4503599627370496 + F)) = .number s (4503599627370496 + F) ((E : Int) - 1075) := by
  unfold Ieee.Format.word
  rw [dSign]
  have hb : (if s then 9223372036854775808 + (E * 4503599627370496 + F) else E * 4503599627370496 + F) < 18446744073709551616 := by split <;> omega
  have hE : fE (if s then 9223372036854775808 + (E * 4503599627370496 + F) else E * 4503599627370496 + F) = E := by unfold fE; split <;> omega
  have hM : fM (if s then 9223372036854775808 + (E * 4503599627370496 + F) else E * 4503599627370496 + F) = F := by unfold fM; split <;> omega
  have hN : fNeg (if s then 9223372036854775808 + (E * 4503599627370496 + F) else E * 4503599627370496 + F) = s := by
    unfold fNeg
    cases s
    · exact decide_eq_false (by simp; omega)
    · exact decide_eq_true (by simp)
  rw [read_fields _ hb (by rw [hE]; omega)]
  rw [hN]
  unfold fMant fe1
  rw [hE, hM, if_neg (by omega), if_neg (by omega)]
  congr 1; omega
theorem log2_of {n k : Nat} (h1 : 2 ^ k ≤ n) (h2 : n < 2 ^ (k + 1)) : n.log2 = k := (Nat.log2_eq_iff (by have := Nat.pow_pos (n := k) (show 0 < 2 by omega); omega)).2 ⟨h1, h2⟩
theorem minA (l F : Nat) (h : l ≤ 52) (hF : F < 4503599627370496) : min ((l + 1022) * 4503599627370496 + (4503599627370496 + F)) 9218868437227405312 = (l + 1023) * 4503599627370496 + F := by omega
theorem minB (e F : Nat) (h : e ≤ 971) (hF : F < 4503599627370496) : min ((e + 1074) * 4503599627370496 + (4503599627370496 + F)) 9218868437227405312 = (e + 1075) * 4503599627370496 + F := by omega
theorem minC (q mo : Nat) (h : q + mo < 4503599627370496) : min (1074 * 4503599627370496 + (q + 4503599627370496 + mo)) 9218868437227405312 = 1075 * 4503599627370496 + (q + mo) := by omega
theorem minD (q mo : Nat) (h : q + mo = 4503599627370496) : min (1074 * 4503599627370496 + (q + 4503599627370496 + mo)) 9218868437227405312 = 1076 * 4503599627370496 + 0 := by omega
theorem cutA (s : Bool) (n : Nat) : Ieee.Toward.even.cut s n 0 = n := by
  unfold Ieee.Toward.cut
  simp [Nat.mod_one]
theorem lastA (l : Nat) : max ((0 : Int) + (l : Nat) - (52 : Nat)) (-1074) = (l : Int) - 52 := by omega
/-- A whole number of at most 2^52, written and read. -/
theorem read_small (s : Bool) (Q : Nat) (h0 : Q ≠ 0) (h1 : Q ≤ 4503599627370496) : ∃ l : Nat, l ≤ 52 ∧ Ieee.double.read (Ieee.double.nearest s Q 0) = .number s (Q * 2 ^ (52 - l)) ((l : Int) - 52) := by
  obtain ⟨l, hl⟩ : ∃ l, Q.log2 = l := ⟨_, rfl⟩
  obtain ⟨b1, b2⟩ := (Nat.log2_eq_iff h0).1 hl
  have hl52 : l ≤ 52 := by
    rcases Nat.lt_or_ge 52 l with h | h
    · have : 2 ^ 53 ≤ 2 ^ l := Nat.pow_le_pow_right (by omega) h
      omega
    · exact h
  refine ⟨l, hl52, ?_⟩
  unfold Ieee.Format.nearest
  rw [if_neg h0, hl, dFrac, dLeast, dBin, dInf]
  have hlast := lastA l
  dsimp only
  rw [hlast, show ((0 : Int) - ((l : Int) - 52)).toNat = 52 - l by omega, show ((l : Int) - 52 - 0).toNat = 0 by omega, show ((l : Int) - 52 - -1074).toNat = l + 1022 by omega, Nat.shiftLeft_eq]
  rw [cutA]
  have p1 : 2 ^ l * 2 ^ (52 - l) = 4503599627370496 := by rw [← Nat.pow_add, show l + (52 - l) = 52 by omega]
  have p2 : 2 ^ (l + 1) * 2 ^ (52 - l) = 9007199254740992 := by rw [← Nat.pow_add, show l + 1 + (52 - l) = 53 by omega]
  have q1 := Nat.mul_le_mul_right (2 ^ (52 - l)) b1
  have q2 := Nat.mul_lt_mul_of_pos_right b2 (show 0 < 2 ^ (52 - l) from Nat.pow_pos (by omega))
  rw [p1] at q1
  rw [p2] at q2
  obtain ⟨F, hF⟩ : ∃ F, Q * 2 ^ (52 - l) = 4503599627370496 + F := ⟨Q * 2 ^ (52 - l) - 4503599627370496, by omega⟩
  rw [hF]
  rw [minA l F hl52 (by omega)]
  rw [read_word s (l + 1023) F (by omega) (by omega) (by omega)]
  congr 1; omega
/-- A whole number with 53 binary digits and zeros behind, written and read. -/
theorem read_great (s : Bool) (m e : Nat) (h1 : 4503599627370496 ≤ m) (h2 : m < 9007199254740992) (he : e ≤ 971) : Ieee.double.read (Ieee.double.nearest s (m * 2 ^ e) 0) = .number s m (e : Int) := by
  have hp : 0 < 2 ^ e := Nat.pow_pos (by omega)
  have hl : (m * 2 ^ e).log2 = 52 + e := by
    refine log2_of ?_ ?_
    · rw [Nat.pow_add]; exact Nat.mul_le_mul_right _ h1
    · rw [show 52 + e + 1 = 53 + e by omega, Nat.pow_add]; exact Nat.mul_lt_mul_of_pos_right h2 hp
  unfold Ieee.Format.nearest
  rw [if_neg (by have := Nat.mul_le_mul_right (2 ^ e) h1; omega), hl, dFrac, dLeast, dBin, dInf]
  have hlast : max ((0 : Int) + ((52 + e : Nat) : Int) - (52 : Nat)) (-1074) = (e : Int) := by omega
  dsimp only
  rw [hlast, show ((0 : Int) - (e : Int)).toNat = 0 by omega, show ((e : Int) - 0).toNat = e by omega, show ((e : Int) - -1074).toNat = e + 1074 by omega, Nat.shiftLeft_zero]
  have hcut : Ieee.Toward.even.cut s (m * 2 ^ e) e = m := by
    unfold Ieee.Toward.cut
    rw [hl, show min e (52 + e + 2) = e by omega, Nat.one_shiftLeft]
    dsimp only
    rw [Nat.mul_div_cancel _ hp, Nat.mul_mod_left]
    have : ¬ 2 ^ e = 0 := by omega
    simp [this]
  rw [hcut]
  obtain ⟨F, rfl⟩ : ∃ F, m = 4503599627370496 + F := ⟨m - 4503599627370496, by omega⟩
  rw [minB e F he (by omega)]
  rw [read_word s (e + 1075) F (by omega) (by omega) (by omega)]
  congr 1; omega
/-- The rounding sum: 2^52 and a number below it. -/
theorem read_sum (m k : Nat) (hk : 1 ≤ k) (hm : m < 9007199254740992) : ∃ Q : Nat, Q ≤ 4503599627370496 ∧ (m % 2 ^ k = 0 → Q = m / 2 ^ k) ∧
    (Ieee.double.read (Ieee.double.nearest false (m + 4503599627370496 * 2 ^ k) (-(k : Int))) = .number false (4503599627370496 + Q) 0 ∨ (Q = 4503599627370496 ∧ Ieee.double.read (Ieee.double.nearest false (m + 4503599627370496 * 2 ^ k) (-(k : Int))) = .number false 4503599627370496 1)) := by
  have hp : 0 < 2 ^ k := Nat.pow_pos (by omega)
  have hp2 : 2 ≤ 2 ^ k := by have := Nat.pow_le_pow_right (show 0 < 2 by omega) hk; simpa using this
  have hq : m / 2 ^ k < 4503599627370496 := by
    refine (Nat.div_lt_iff_lt_mul hp).2 ?_
    have := Nat.mul_le_mul_left 4503599627370496 hp2
    omega
  have hl : (m + 4503599627370496 * 2 ^ k).log2 = 52 + k := by
    refine log2_of ?_ ?_
    · rw [Nat.pow_add]; omega
    · rw [show 52 + k + 1 = 53 + k by omega, Nat.pow_add]
      have e : 2 ^ 53 * 2 ^ k = 4503599627370496 * 2 ^ k + 4503599627370496 * 2 ^ k := by omega
      have := Nat.mul_le_mul_left 4503599627370496 hp2
      omega
  unfold Ieee.Format.nearest
  rw [if_neg (by have := Nat.mul_le_mul_left 4503599627370496 hp2; omega), hl, dFrac, dLeast, dBin, dInf]
  have hlast : max (-(k : Int) + ((52 + k : Nat) : Int) - (52 : Nat)) (-1074) = 0 := by omega
  dsimp only
  rw [hlast, show (-(k : Int) - 0).toNat = 0 by omega, show ((0 : Int) - -(k : Int)).toNat = k by omega, show ((0 : Int) - -1074).toNat = 1074 by omega, Nat.shiftLeft_zero]
  have hdiv : (m + 4503599627370496 * 2 ^ k) / 2 ^ k = m / 2 ^ k + 4503599627370496 := Nat.add_mul_div_right _ _ hp
  have hmod : (m + 4503599627370496 * 2 ^ k) % 2 ^ k = m % 2 ^ k := Nat.add_mul_mod_self_right _ _ _
  obtain ⟨mo, hmo, hcut, hz⟩ : ∃ mo : Nat, mo ≤ 1 ∧ Ieee.Toward.even.cut false (m + 4503599627370496 * 2 ^ k) k = m / 2 ^ k + 4503599627370496 + mo ∧ (m % 2 ^ k = 0 → mo = 0) := by
    unfold Ieee.Toward.cut
    rw [hl, show min k (52 + k + 2) = k by omega, Nat.one_shiftLeft]
    dsimp only
    rw [hdiv, hmod]
    refine ⟨_, Bool.toNat_le _, rfl, fun h => ?_⟩
    rw [h]
    have : ¬ 2 ^ k = 0 := by omega
    simp [this]
  rw [hcut]
  refine ⟨m / 2 ^ k + mo, by omega, fun h => by rw [hz h, Nat.add_zero], ?_⟩
  by_cases e : m / 2 ^ k + mo = 4503599627370496
  · right
    refine ⟨e, ?_⟩
    rw [minD _ _ e]
    exact (read_word false 1076 0 (by omega) (by omega) (by omega)).trans (by simp)
  · left
    rw [minC _ _ (by omega)]
    exact (read_word false 1075 (m / 2 ^ k + mo) (by omega) (by omega) (by omega)).trans (by simp)
/-! ## The program's test for whole numbers -/
theorem bits52 : Ieee.double.read 4841369599423283200 = .number false 4503599627370496 0 := by decide
theorem cmp_eq' {a b : Int} (h : compare a b = .eq) : a = b := by
  simp only [compare, compareOfLessAndEq] at h
  split at h
  · cases h
  · split at h
    · assumption
    · cases h
theorem cmp_self {a b : Int} (h : a = b) : compare a b = .eq := by
  subst h
  simp [compare, compareOfLessAndEq]
/-- Below 2^52: adding and taking off 2^52 gives the number back just where it is whole. -/
theorem round52 (a m k : Nat) (s : Bool) (hr : Ieee.double.read a = .number s m (-(k : Int))) (hs : s = true → m = 0) (hk : 1 ≤ k) (hm : m < 9007199254740992) :
    ∃ t1 t, floatBits .add .f64 a 4841369599423283200 = some t1 ∧ floatBits .sub .f64 t1 4841369599423283200 = some t ∧ (FloatKind.f64.format.order t a == some .eq) = decide (m % 2 ^ k = 0) := by
  have hp : 0 < 2 ^ k := Nat.pow_pos (by omega)
  have hp2 : 2 ≤ 2 ^ k := by have := Nat.pow_le_pow_right (show 0 < 2 by omega) hk; simpa using this
  obtain ⟨Q, hQ, hQm, hQr⟩ := read_sum m k hk hm
  have hadd : floatBits .add .f64 a 4841369599423283200 = some (Ieee.double.nearest false (m + 4503599627370496 * 2 ^ k) (-(k : Int))) := by
    show ((Ieee.double.read a).sum (Ieee.double.read 4841369599423283200)).map Ieee.double.write = _
    rw [hr, bits52]
    simp only [Ieee.Datum.sum, Option.map_some, Option.some.injEq]
    have hmin : min (-(k : Int)) 0 = -(k : Int) := by omega
    rw [hmin, show (-(k : Int) - -(k : Int)).toNat = 0 by omega, show ((0 : Int) - -(k : Int)).toNat = k by omega]
    have h1 : Ieee.signed s m 0 = (m : Int) := by
      unfold Ieee.signed
      cases s
      · simp
      · rw [hs rfl]; simp
    have h2 : Ieee.signed false 4503599627370496 k = ((4503599627370496 * 2 ^ k : Nat) : Int) := by
      unfold Ieee.signed
      simp [Nat.shiftLeft_eq]
    rw [h1, h2]
    have hpos : ¬ ((m : Int) + ((4503599627370496 * 2 ^ k : Nat) : Int) = 0) := by
      have := Nat.mul_le_mul_left 4503599627370496 hp2
      omega
    have hneg : ¬ ((m : Int) + ((4503599627370496 * 2 ^ k : Nat) : Int) < 0) := by omega
    have habs : ((m : Int) + ((4503599627370496 * 2 ^ k : Nat) : Int)).natAbs = m + 4503599627370496 * 2 ^ k := by omega
    rw [habs, if_neg hpos, decide_eq_false hneg]
    rfl
  have hsub : floatBits .sub .f64 (Ieee.double.nearest false (m + 4503599627370496 * 2 ^ k) (-(k : Int))) 4841369599423283200 = some (Ieee.double.nearest false Q 0) := by
    show ((Ieee.double.read _).sum (Ieee.double.read 4841369599423283200).opposite).map Ieee.double.write = _
    rw [bits52]
    have fin : ∀ tot : Int, tot = (Q : Int) → some (Ieee.double.write (.number (if tot = 0 then false && true else decide (tot < 0)) tot.natAbs 0)) = some (Ieee.double.nearest false Q 0) := by
      intro tot ht
      subst ht
      rw [Int.natAbs_natCast]
      have : decide ((Q : Int) < 0) = false := decide_eq_false (by omega)
      rw [this]
      simp [Ieee.Format.write]
    rcases hQr with h | ⟨e, h⟩
    · rw [h]
      simp only [Ieee.Datum.opposite, Ieee.Datum.sum, Option.map_some, Bool.not_false]
      refine fin _ ?_
      simp [Ieee.signed]
      omega
    · rw [h]
      simp only [Ieee.Datum.opposite, Ieee.Datum.sum, Option.map_some, Bool.not_false]
      refine fin _ ?_
      simp [Ieee.signed, e, Nat.shiftLeft_eq]
      decide
  refine ⟨_, _, hadd, hsub, ?_⟩
  have key : ((Ieee.double.read (Ieee.double.nearest false Q 0)).order (Ieee.double.read a) == some .eq) = decide (Q * 2 ^ k = m) := by
    rw [hr]
    by_cases h0 : Q = 0
    · rw [h0]
      have : Ieee.double.read (Ieee.double.nearest false 0 0) = .number false 0 (-1074) := by decide
      rw [this]
      simp only [Ieee.Datum.order]
      have e0 : ∀ c : Int, (some (compare (0 : Int) c) == some Ordering.eq) = decide (c = 0) := by
        intro c
        by_cases hc : c = 0
        · subst hc; rfl
        · rw [decide_eq_false hc]
          cases hh : compare (0 : Int) c with
          | eq => exact absurd (cmp_eq' hh).symm hc
          | lt => rfl
          | gt => rfl
      have z1 : Ieee.signed false 0 ((-1074 : Int) - min (-1074) (-(k : Int))).toNat = 0 := by simp [Ieee.signed]
      rw [z1, e0]
      refine decide_eq_decide.2 ?_
      have hpp := Nat.pow_pos (n := (-(k : Int) - min (-1074) (-(k : Int))).toNat) (show 0 < 2 by omega)
      have hiff : m * 2 ^ (-(k : Int) - min (-1074) (-(k : Int))).toNat = 0 ↔ m = 0 := by
        constructor
        · intro h
          rcases Nat.mul_eq_zero.1 h with h | h
          · exact h
          · omega
        · intro h; rw [h, Nat.zero_mul]
      unfold Ieee.signed
      rw [Nat.shiftLeft_eq]
      split <;> omega
    · obtain ⟨l, hl, hrd⟩ := read_small false Q h0 hQ
      rw [hrd]
      simp only [Ieee.Datum.order]
      obtain ⟨base, hbase⟩ : ∃ b0 : Int, min ((l : Int) - 52) (-(k : Int)) = b0 := ⟨_, rfl⟩
      rw [hbase]
      obtain ⟨u, hu⟩ : ∃ u : Nat, ((l : Int) - 52 - base).toNat = u := ⟨_, rfl⟩
      obtain ⟨v, hv⟩ : ∃ v : Nat, (-(k : Int) - base).toNat = v := ⟨_, rfl⟩
      rw [hu, hv]
      have huv : u + k = 52 - (52 - l) - 52 + v + 0 + (l - l) ∨ True := .inr trivial
      have hrel : (52 - l) + u = k + v := by omega
      have s1 : Ieee.signed false (Q * 2 ^ (52 - l)) u = ((Q * 2 ^ k * 2 ^ v : Nat) : Int) := by
        unfold Ieee.signed
        rw [Nat.shiftLeft_eq, Nat.mul_assoc, ← Nat.pow_add, hrel, Nat.pow_add, ← Nat.mul_assoc]
        rfl
      have s2 : Ieee.signed s m v = ((m * 2 ^ v : Nat) : Int) := by
        unfold Ieee.signed
        rw [Nat.shiftLeft_eq]
        cases s
        · rfl
        · rw [hs rfl]; simp
      rw [s1, s2]
      have hv0 : 0 < 2 ^ v := Nat.pow_pos (by omega)
      by_cases c : Q * 2 ^ k = m
      · rw [decide_eq_true c, c, cmp_self rfl]; rfl
      · rw [decide_eq_false c]
        cases hh : compare ((Q * 2 ^ k * 2 ^ v : Nat) : Int) ((m * 2 ^ v : Nat) : Int) with
        | eq => exact absurd (Nat.eq_of_mul_eq_mul_right hv0 (Int.ofNat.inj (cmp_eq' hh))) c
        | lt => rfl
        | gt => rfl
  refine Eq.trans key (decide_eq_decide.2 ⟨fun h => by rw [← h]; exact Nat.mul_mod_left _ _, fun h => ?_⟩)
  rw [hQm h]
  exact Nat.div_mul_cancel (Nat.dvd_of_mod_eq_zero h)
end Go.Proofs.YtmlgfhdjdmfdbaaDoor
