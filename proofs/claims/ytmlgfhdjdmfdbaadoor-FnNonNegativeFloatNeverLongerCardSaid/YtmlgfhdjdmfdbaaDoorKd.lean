/-
  Proved: plain facts on the law's test for numbers: which are whole, which are inlined. No statement of the seat stands here.
-/
import Derived.Test.YtmlgfhdjdmfdbaaDoorKc
namespace Go.Proofs.YtmlgfhdjdmfdbaaDoor
set_option linter.unusedSimpArgs false
set_option linter.unusedVariables false
set_option maxRecDepth 100000
def Inl (b : Nat) : Prop := (∃ n, floatToIntVal .f64 b .i64 = some n ∧ (FloatKind.f64.format.order b (floatOfInt .f64 n) == some .eq) = true) ∨ (ffText b).length ≤ 8
def NotS (b : Nat) : Prop := (∃ n, floatToIntVal .f64 b .i64 = some n ∧ (FloatKind.f64.format.order b (floatOfInt .f64 n) == some .eq) = false) ∧ 8 < (ffText b).length
structure Fin (b : Nat) : Prop where
  lt : b < 18446744073709551616
  rd : Ieee.double.read b = .number (fNeg b) (fMant b) (fe1 b - 1075)
  m : fMant b < 9007199254740992
  e1 : -1074 ≤ fe1 b - 1075
  e2 : fe1 b - 1075 ≤ 971
  norm : -1074 < fe1 b - 1075 → 4503599627370496 ≤ fMant b
theorem fin_of (b : Nat) (hb : b < 18446744073709551616) (hE : fE b ≠ 2047) : Fin b := by
  have hE2 : fE b < 2048 := Nat.mod_lt _ (by omega)
  have hml : fM b < 4503599627370496 := Nat.mod_lt _ (by omega)
  refine ⟨hb, read_fields b hb hE, ?_, ?_, ?_, ?_⟩
  · unfold fMant; split <;> omega
  · unfold fe1; split <;> omega
  · unfold fe1; split <;> omega
  · unfold fe1 fMant; split <;> omega
theorem inf_text (b : Nat) (h : fE b = 2047) : (ffText b).length ≤ 8 := by
  unfold ffText
  rw [if_pos h]
  split
  · split <;> simp
  · simp
theorem cmp_lt {a b : Int} : (some (compare a b) == some Ordering.lt) = decide (a < b) := by
  simp only [compare, compareOfLessAndEq]
  by_cases h : a < b
  · rw [if_pos h, decide_eq_true h]; rfl
  · rw [if_neg h, decide_eq_false h]; split <;> rfl
theorem cmp_gt {a b : Int} : (some (compare a b) == some Ordering.gt) = decide (b < a) := by
  simp only [compare, compareOfLessAndEq]
  by_cases h : a < b
  · rw [if_pos h, decide_eq_false (by omega)]; rfl
  · rw [if_neg h]
    by_cases h2 : a = b
    · rw [if_pos h2, decide_eq_false (by omega)]; rfl
    · rw [if_neg h2, decide_eq_true (by omega)]; rfl
theorem cmp_eqd {a b : Int} : (some (compare a b) == some Ordering.eq) = decide (a = b) := by
  simp only [compare, compareOfLessAndEq]
  by_cases h : a < b
  · rw [if_pos h, decide_eq_false (by omega)]; rfl
  · rw [if_neg h]
    by_cases h2 : a = b
    · rw [if_pos h2, decide_eq_true h2]; rfl
    · rw [if_neg h2, decide_eq_false h2]; rfl
theorem ord_num {a c : Nat} {s t : Bool} {m n : Nat} {i j : Int} (h1 : Ieee.double.read a = .number s m i) (h2 : Ieee.double.read c = .number t n j) :
    FloatKind.f64.format.order a c = some (compare (Ieee.signed s m (i - min i j).toNat) (Ieee.signed t n (j - min i j).toNat)) := by
  show (Ieee.double.read a).order (Ieee.double.read c) = _
  rw [h1, h2]
  rfl
theorem signed_eq (s : Bool) (m u : Nat) : Ieee.signed s m u = if s then -((m * 2 ^ u : Nat) : Int) else ((m * 2 ^ u : Nat) : Int) := by
  unfold Ieee.signed
  rw [Nat.shiftLeft_eq]
theorem signed_f (m u : Nat) : Ieee.signed false m u = ((m * 2 ^ u : Nat) : Int) := signed_eq false m u
theorem signed_t (m u : Nat) : Ieee.signed true m u = -((m * 2 ^ u : Nat) : Int) := signed_eq true m u
theorem signed_0 (s : Bool) (u : Nat) : Ieee.signed s 0 u = 0 := by rw [signed_eq, Nat.zero_mul]; split <;> rfl
/-- Scaled by a power of two, the order stays. -/
theorem signed_mul (s : Bool) (m u v : Nat) : Ieee.signed s m (u + v) = Ieee.signed s m u * ((2 ^ v : Nat) : Int) := by
  rw [signed_eq, signed_eq, Nat.pow_add, ← Nat.mul_assoc]
  split
  · rw [Int.neg_mul]; simp
  · simp
/-! ## The amount -/
theorem neg_bits (b : Nat) (h1 : 9223372036854775808 ≤ b) (h2 : b < 18446744073709551616) : Op.negFloat .f64 b = b - 9223372036854775808 := by
  show b ^^^ 2 ^ (11 + 52) = _
  have hd : (b ^^^ 2 ^ 63) / 2 ^ 63 = 0 := by
    rw [Nat.xor_div_two_pow]
    have : b / 2 ^ 63 = 1 := by omega
    rw [this]
    decide
  have hm : (b ^^^ 2 ^ 63) % 2 ^ 63 = b % 2 ^ 63 := by
    rw [Nat.xor_mod_two_pow]
    simp
  show b ^^^ 2 ^ 63 = _
  omega
theorem read_zero0 : Ieee.double.read 0 = .number false 0 (-1074) := by decide
theorem abs_neg (b : Nat) (h : Fin b) (hc : (FloatKind.f64.format.order b 0 == some .lt) = true) : Ieee.double.read (Op.negFloat .f64 b) = .number false (fMant b) (fe1 b - 1075) ∧ fNeg b = true := by
  rw [ord_num h.rd read_zero0, cmp_lt] at hc
  have hlt := of_decide_eq_true hc
  have hn : fNeg b = true := by
    cases hs : fNeg b
    · rw [hs, signed_f, signed_0] at hlt
      omega
    · rfl
  have hb : 9223372036854775808 ≤ b := of_decide_eq_true hn
  have hlt2 := h.lt
  rw [neg_bits b hb hlt2]
  have f1 : fE (b - 9223372036854775808) = fE b := by unfold fE; omega
  have f2 : fM (b - 9223372036854775808) = fM b := by unfold fM; omega
  have f3 : fNeg (b - 9223372036854775808) = false := decide_eq_false (by omega)
  have hE : fE b ≠ 2047 := by
    intro he
    have := h.e2
    unfold fe1 at this
    rw [if_neg (by omega), he] at this
    omega
  have hr := read_fields (b - 9223372036854775808) (by omega) (by rw [f1]; exact hE)
  rw [f3] at hr
  unfold fMant fe1 at hr ⊢
  rw [f1, f2] at hr
  exact ⟨hr, hn⟩
theorem abs_pos (b : Nat) (h : Fin b) (hc : (FloatKind.f64.format.order b 0 == some .lt) = false) : fNeg b = true → fMant b = 0 := by
  intro hs
  rw [ord_num h.rd read_zero0, cmp_lt, hs] at hc
  have hlt := of_decide_eq_false hc
  rw [signed_t, signed_0] at hlt
  rcases Nat.eq_zero_or_pos (fMant b) with h0 | h0
  · exact h0
  · exfalso
    have := Nat.mul_pos h0 (Nat.pow_pos (n := (fe1 b - 1075 - min (fe1 b - 1075) (-1074)).toNat) (show 0 < 2 by omega))
    omega
/-- The amount's bits: what the program's 'if a < 0 { a = -a }' leaves. -/
structure Amt (b a : Nat) (s : Bool) : Prop where
  rd : Ieee.double.read a = .number s (fMant b) (fe1 b - 1075)
  sg : s = true → fMant b = 0
theorem amt_neg (b : Nat) (h : Fin b) (hc : (FloatKind.f64.format.order b 0 == some .lt) = true) : Amt b (Op.negFloat .f64 b) false := ⟨(abs_neg b h hc).1, fun h => by cases h⟩
theorem amt_pos (b : Nat) (h : Fin b) (hc : (FloatKind.f64.format.order b 0 == some .lt) = false) : Amt b b (fNeg b) := ⟨h.rd, abs_pos b h hc⟩
theorem amt_signed {b a : Nat} {s : Bool} (h : Amt b a s) (u : Nat) : Ieee.signed s (fMant b) u = ((fMant b * 2 ^ u : Nat) : Int) := by
  rw [signed_eq]
  cases s
  · rfl
  · rw [h.sg rfl]; simp
theorem ge52 (b a : Nat) (s : Bool) (hf : Fin b) (h : Amt b a s) : (FloatKind.f64.format.order a 4841369599423283200 == some .gt || FloatKind.f64.format.order a 4841369599423283200 == some .eq) = decide (0 ≤ fe1 b - 1075) := by
  rw [ord_num h.rd bits52, cmp_gt, cmp_eqd, amt_signed h, signed_eq]
  have e1 := hf.e1
  have hm := hf.m
  by_cases c : 0 ≤ fe1 b - 1075
  · have hn := hf.norm (by omega)
    rw [show min (fe1 b - 1075) 0 = 0 by omega, decide_eq_true c]
    have hp : 1 ≤ 2 ^ (fe1 b - 1075 - 0).toNat := Nat.pow_pos (by omega)
    have := Nat.mul_le_mul hn hp
    simp only [Bool.or_eq_true, decide_eq_true_eq, Bool.false_eq_true, if_false, Int.sub_self, Int.toNat_zero, Nat.pow_zero, Nat.mul_one]
    omega
  · rw [show min (fe1 b - 1075) 0 = fe1 b - 1075 by omega, decide_eq_false c]
    obtain ⟨k, hk⟩ : ∃ k : Nat, (0 - (fe1 b - 1075)).toNat = k + 1 := ⟨(0 - (fe1 b - 1075)).toNat - 1, by omega⟩
    rw [hk, Nat.pow_succ]
    have hp : 1 ≤ 2 ^ k := Nat.pow_pos (by omega)
    have := Nat.mul_le_mul_left 9007199254740992 hp
    have e : 4503599627370496 * (2 ^ k * 2) = 9007199254740992 * 2 ^ k := by omega
    rw [e]
    simp only [Bool.or_eq_false_iff, decide_eq_false_iff_not, Bool.false_eq_true, if_false, Int.sub_self, Int.toNat_zero, Nat.pow_zero, Nat.mul_one]
    omega
theorem bitsM : Ieee.double.read 4696837146684686336 = .number false 8589934592000000 (-33) := by decide
theorem ge1e6 (b a k : Nat) (s : Bool) (hf : Fin b) (h : Amt b a s) (hk : fe1 b - 1075 = -(k : Int)) (hc : (FloatKind.f64.format.order a 4696837146684686336 == some .gt || FloatKind.f64.format.order a 4696837146684686336 == some .eq) = true) : 1000000 * 2 ^ k ≤ fMant b := by
  rw [ord_num h.rd bitsM, cmp_gt, cmp_eqd, amt_signed h, signed_eq, hk] at hc
  simp only [Bool.or_eq_true, decide_eq_true_eq, Bool.false_eq_true, if_false] at hc
  rcases Nat.lt_or_ge k 33 with c | c
  · rw [show min (-(k : Int)) (-33) = -33 by omega, show (-(k : Int) - -33).toNat = 33 - k by omega, show ((-33 : Int) - -33).toNat = 0 by omega, Nat.pow_zero, Nat.mul_one] at hc
    have hp : 0 < 2 ^ (33 - k) := Nat.pow_pos (by omega)
    have e : 1000000 * 2 ^ k * 2 ^ (33 - k) = 8589934592000000 := by rw [Nat.mul_assoc, ← Nat.pow_add, show k + (33 - k) = 33 by omega]
    exact Nat.le_of_mul_le_mul_right (by rw [e]; omega) hp
  · rw [show min (-(k : Int)) (-33) = -(k : Int) by omega, show (-(k : Int) - -(k : Int)).toNat = 0 by omega, show ((-33 : Int) - -(k : Int)).toNat = k - 33 by omega, Nat.pow_zero, Nat.mul_one] at hc
    have e : 8589934592000000 * 2 ^ (k - 33) = 1000000 * 2 ^ k := by
      have : (2 : Nat) ^ k = 2 ^ 33 * 2 ^ (k - 33) := by rw [← Nat.pow_add, show 33 + (k - 33) = k by omega]
      rw [this]; omega
    rw [e] at hc
    omega
/-! ## Whole numbers -/
def Whole (b : Nat) : Prop := 0 ≤ fe1 b - 1075 ∨ ∃ k : Nat, fe1 b - 1075 = -(k : Int) ∧ 1 ≤ k ∧ fMant b % 2 ^ k = 0
theorem cmp_small (s : Bool) (Q m k : Nat) (h0 : Q ≠ 0) (h1 : Q ≤ 4503599627370496) (b : Nat) (hr : Ieee.double.read b = .number s m (-(k : Int))) :
    (FloatKind.f64.format.order b (Ieee.double.nearest s Q 0) == some .eq) = decide (Q * 2 ^ k = m) := by
  obtain ⟨l, hl, hrd⟩ := read_small s Q h0 h1
  rw [ord_num hr hrd, cmp_eqd]
  obtain ⟨base, hbase⟩ : ∃ b0 : Int, min (-(k : Int)) ((l : Int) - 52) = b0 := ⟨_, rfl⟩
  rw [hbase]
  obtain ⟨u, hu⟩ : ∃ u : Nat, ((l : Int) - 52 - base).toNat = u := ⟨_, rfl⟩
  obtain ⟨v, hv⟩ : ∃ v : Nat, (-(k : Int) - base).toNat = v := ⟨_, rfl⟩
  rw [hu, hv, signed_eq, signed_eq]
  have hrel : (52 - l) + u = k + v := by omega
  have s1 : Q * 2 ^ (52 - l) * 2 ^ u = Q * 2 ^ k * 2 ^ v := by rw [Nat.mul_assoc, ← Nat.pow_add, hrel, Nat.pow_add, ← Nat.mul_assoc]
  rw [s1]
  have hv0 : 0 < 2 ^ v := Nat.pow_pos (by omega)
  refine decide_eq_decide.2 ⟨fun h => ?_, fun h => by rw [h]⟩
  refine Nat.eq_of_mul_eq_mul_right hv0 ?_
  split at h <;> omega
theorem toInt_whole (b : Nat) (hr : Fin b) (M : Nat) (hM : Ieee.Toward.zero.cut (fNeg b) (fMant b <<< (fe1 b - 1075).toNat) (-(fe1 b - 1075)).toNat = M) : (FloatKind.f64.decode b).toInt .zero = some (Ieee.signed (fNeg b) M 0) := by
  show (Ieee.double.read b).toInt .zero = _
  rw [hr.rd, ← hM]
  rfl
theorem toIntVal (b : Nat) (n : Int) (h : (FloatKind.f64.decode b).toInt .zero = some n) (h1 : -9223372036854775808 ≤ n) (h2 : n ≤ 9223372036854775807) : floatToIntVal .f64 b .i64 = some n := by
  unfold floatToIntVal
  rw [h]
  have hb1 : IntKind.i64.min = -9223372036854775808 := by decide
  have hb2 : IntKind.i64.max = 9223372036854775807 := by decide
  exact if_pos ⟨by rw [hb1]; exact h1, by rw [hb2]; exact h2⟩
theorem cut_zero (s : Bool) (n d : Nat) : Ieee.Toward.zero.cut s n d = n / 2 ^ min d (n.log2 + 2) := by
  simp [Ieee.Toward.cut, Nat.one_shiftLeft]
theorem min_k (m k : Nat) (h : 2 ^ k ≤ m) : min k (m.log2 + 2) = k := by
  have h0 : m ≠ 0 := by have := Nat.pow_pos (n := k) (show 0 < 2 by omega); omega
  have h1 := (Nat.log2_lt h0 (k := m.log2 + 1)).1 (by omega)
  rcases Nat.lt_or_ge (m.log2 + 2) k with c | c
  · exfalso
    have : 2 ^ (m.log2 + 1) ≤ 2 ^ k := Nat.pow_le_pow_right (by omega) (by omega)
    omega
  · omega
theorem floatOf (n : Int) : floatOfInt .f64 n = Ieee.double.nearest (decide (n < 0)) n.natAbs 0 := rfl
theorem bitsLo : Ieee.double.read 14114281232179134464 = .number true 4503599627370496 11 := by decide
theorem bitsHi : Ieee.double.read 4890909195324358656 = .number false 4503599627370496 11 := by decide
theorem inl_whole (b : Nat) (hf : Fin b) (hw : Whole b) (c1 : (FloatKind.f64.format.order b 14114281232179134464 == some .gt || FloatKind.f64.format.order b 14114281232179134464 == some .eq) = true)
    (c2 : (FloatKind.f64.format.order b 4890909195324358656 == some .lt) = true) : Inl b := by
  left
  rcases hw with he | ⟨k, hk, hk1, hmod⟩
  · obtain ⟨e, hee⟩ : ∃ e : Nat, fe1 b - 1075 = (e : Int) := ⟨(fe1 b - 1075).toNat, by omega⟩
    have hn := hf.norm (by omega)
    have hm := hf.m
    have e2 := hf.e2
    have hr := hf.rd
    rw [hee] at hr e2
    have hcut : Ieee.Toward.zero.cut (fNeg b) (fMant b <<< (fe1 b - 1075).toNat) (-(fe1 b - 1075)).toNat = fMant b * 2 ^ e := by
      rw [cut_zero, hee, show (-(e : Int)).toNat = 0 by omega, show ((e : Int)).toNat = e by omega, Nat.zero_min, Nat.pow_zero, Nat.div_one, Nat.shiftLeft_eq]
    have ht := toInt_whole b hf _ hcut
    rw [ord_num hr bitsLo, cmp_gt, cmp_eqd] at c1
    rw [ord_num hr bitsHi, cmp_lt] at c2
    simp only [Bool.or_eq_true, decide_eq_true_eq] at c1 c2
    obtain ⟨base, hbase⟩ : ∃ b0 : Nat, min (e : Int) 11 = (b0 : Int) := ⟨min e 11, by omega⟩
    rw [hbase] at c1 c2
    have hb0 : base ≤ e ∧ base ≤ 11 := by omega
    rw [show ((e : Int) - base).toNat = e - base by omega, show ((11 : Int) - base).toNat = 11 - base by omega, signed_eq, signed_eq] at c1 c2
    have hpb : 0 < 2 ^ base := Nat.pow_pos (by omega)
    have eV : fMant b * 2 ^ e = fMant b * 2 ^ (e - base) * 2 ^ base := by rw [Nat.mul_assoc, ← Nat.pow_add, show e - base + base = e by omega]
    have eT : (9223372036854775808 : Nat) = 4503599627370496 * 2 ^ (11 - base) * 2 ^ base := by rw [Nat.mul_assoc, ← Nat.pow_add, show 11 - base + base = 11 by omega]
    have hV0 : 0 < fMant b * 2 ^ e := Nat.mul_pos (by omega) (Nat.pow_pos (by omega))
    have hn1 : -9223372036854775808 ≤ Ieee.signed (fNeg b) (fMant b * 2 ^ e) 0 ∧ Ieee.signed (fNeg b) (fMant b * 2 ^ e) 0 ≤ 9223372036854775807 := by
      rw [signed_eq, Nat.pow_zero, Nat.mul_one]
      cases hs : fNeg b
      · rw [hs] at c2
        simp only [Bool.false_eq_true, if_false] at c2 ⊢
        have : fMant b * 2 ^ (e - base) < 4503599627370496 * 2 ^ (11 - base) := by omega
        have := Nat.mul_lt_mul_of_pos_right this hpb
        rw [← eV, ← eT] at this
        omega
      · rw [hs] at c1
        simp only [if_true] at c1 ⊢
        have : fMant b * 2 ^ (e - base) ≤ 4503599627370496 * 2 ^ (11 - base) := by omega
        have := Nat.mul_le_mul_right (2 ^ base) this
        rw [← eV, ← eT] at this
        omega
    refine ⟨_, toIntVal b _ ht hn1.1 hn1.2, ?_⟩
    rw [floatOf]
    have hsg : decide (Ieee.signed (fNeg b) (fMant b * 2 ^ e) 0 < 0) = fNeg b ∧ (Ieee.signed (fNeg b) (fMant b * 2 ^ e) 0).natAbs = fMant b * 2 ^ e := by
      rw [signed_eq, Nat.pow_zero, Nat.mul_one]
      cases fNeg b
      · exact ⟨decide_eq_false (by simp only [Bool.false_eq_true, if_false]; omega), by simp only [Bool.false_eq_true, if_false]; omega⟩
      · exact ⟨decide_eq_true (by simp only [if_true]; omega), by simp only [if_true]; omega⟩
    rw [hsg.1, hsg.2, ord_num hr (read_great _ _ _ hn hm (by omega)), cmp_eqd]
    exact decide_eq_true rfl
  · have hm := hf.m
    have hr := hf.rd
    rw [hk] at hr
    have hp : 0 < 2 ^ k := Nat.pow_pos (by omega)
    have hp2 : 2 ≤ 2 ^ k := by have := Nat.pow_le_pow_right (show 0 < 2 by omega) hk1; simpa using this
    have hQ : fMant b / 2 ^ k ≤ 4503599627370496 := by
      refine Nat.le_of_lt ((Nat.div_lt_iff_lt_mul hp).2 ?_)
      have := Nat.mul_le_mul_left 4503599627370496 hp2
      omega
    have hcut : Ieee.Toward.zero.cut (fNeg b) (fMant b <<< (fe1 b - 1075).toNat) (-(fe1 b - 1075)).toNat = fMant b / 2 ^ k := by
      rw [cut_zero, hk, show (- -(k : Int)).toNat = k by omega, show (-(k : Int)).toNat = 0 by omega, Nat.shiftLeft_zero]
      by_cases h0 : fMant b = 0
      · rw [h0]; simp
      · rw [min_k _ _ (Nat.le_of_dvd (by omega) (Nat.dvd_of_mod_eq_zero hmod))]
    have ht := toInt_whole b hf _ hcut
    have hn1 : -9223372036854775808 ≤ Ieee.signed (fNeg b) (fMant b / 2 ^ k) 0 ∧ Ieee.signed (fNeg b) (fMant b / 2 ^ k) 0 ≤ 9223372036854775807 := by
      rw [signed_eq, Nat.pow_zero, Nat.mul_one]
      split <;> omega
    refine ⟨_, toIntVal b _ ht hn1.1 hn1.2, ?_⟩
    rw [floatOf]
    by_cases h0 : fMant b / 2 ^ k = 0
    · have hm0 : fMant b = 0 := by
        have := Nat.div_mul_cancel (Nat.dvd_of_mod_eq_zero hmod)
        rw [h0] at this; omega
      rw [h0]
      have : Ieee.signed (fNeg b) 0 0 = 0 := by rw [signed_eq]; simp
      rw [this]
      have hz : Ieee.double.read (Ieee.double.nearest (decide ((0 : Int) < 0)) (0 : Int).natAbs 0) = .number false 0 (-1074) := by decide
      rw [hm0] at hr
      rw [ord_num hr hz, cmp_eqd, signed_eq, signed_eq]
      simp
    · have hsg : decide (Ieee.signed (fNeg b) (fMant b / 2 ^ k) 0 < 0) = fNeg b ∧ (Ieee.signed (fNeg b) (fMant b / 2 ^ k) 0).natAbs = fMant b / 2 ^ k := by
        rw [signed_eq, Nat.pow_zero, Nat.mul_one]
        cases fNeg b
        · exact ⟨decide_eq_false (by simp only [Bool.false_eq_true, if_false]; omega), by simp only [Bool.false_eq_true, if_false]; omega⟩
        · exact ⟨decide_eq_true (by simp only [if_true]; omega), by simp only [if_true]; omega⟩
      rw [hsg.1, hsg.2, cmp_small _ _ _ _ h0 hQ b hr]
      exact decide_eq_true (Nat.div_mul_cancel (Nat.dvd_of_mod_eq_zero hmod))
theorem not_whole (b k : Nat) (hf : Fin b) (hk : fe1 b - 1075 = -(k : Int)) (hk1 : 1 ≤ k) (hw : fMant b % 2 ^ k ≠ 0) (hM : 1000000 * 2 ^ k ≤ fMant b) : NotS b := by
  have hm := hf.m
  have hr := hf.rd
  rw [hk] at hr
  have hp : 0 < 2 ^ k := Nat.pow_pos (by omega)
  have hp2 : 2 ≤ 2 ^ k := by have := Nat.pow_le_pow_right (show 0 < 2 by omega) hk1; simpa using this
  have hk33 : k ≤ 33 := by
    rcases Nat.lt_or_ge 33 k with c | c
    · have : 2 ^ 34 ≤ 2 ^ k := Nat.pow_le_pow_right (by omega) c
      omega
    · exact c
  have hE : fE b + k = 1075 := by
    unfold fe1 at hk
    split at hk <;> omega
  refine ⟨?_, long_text b k hk1 hk33 hE hw hM⟩
  have hQ : fMant b / 2 ^ k ≤ 4503599627370496 := by
    refine Nat.le_of_lt ((Nat.div_lt_iff_lt_mul hp).2 ?_)
    have := Nat.mul_le_mul_left 4503599627370496 hp2
    omega
  have hQ0 : fMant b / 2 ^ k ≠ 0 := by
    have := (Nat.le_div_iff_mul_le hp).2 (show 1 * 2 ^ k ≤ fMant b by omega)
    omega
  have hcut : Ieee.Toward.zero.cut (fNeg b) (fMant b <<< (fe1 b - 1075).toNat) (-(fe1 b - 1075)).toNat = fMant b / 2 ^ k := by
    rw [cut_zero, hk, show (- -(k : Int)).toNat = k by omega, show (-(k : Int)).toNat = 0 by omega, Nat.shiftLeft_zero, min_k _ _ (by omega)]
  have ht := toInt_whole b hf _ hcut
  have hn1 : -9223372036854775808 ≤ Ieee.signed (fNeg b) (fMant b / 2 ^ k) 0 ∧ Ieee.signed (fNeg b) (fMant b / 2 ^ k) 0 ≤ 9223372036854775807 := by
    rw [signed_eq, Nat.pow_zero, Nat.mul_one]
    split <;> omega
  refine ⟨_, toIntVal b _ ht hn1.1 hn1.2, ?_⟩
  rw [floatOf]
  have hsg : decide (Ieee.signed (fNeg b) (fMant b / 2 ^ k) 0 < 0) = fNeg b ∧ (Ieee.signed (fNeg b) (fMant b / 2 ^ k) 0).natAbs = fMant b / 2 ^ k := by
    rw [signed_eq, Nat.pow_zero, Nat.mul_one]
    cases fNeg b
    · exact ⟨decide_eq_false (by simp only [Bool.false_eq_true, if_false]; omega), by simp only [Bool.false_eq_true, if_false]; omega⟩
    · exact ⟨decide_eq_true (by simp only [if_true]; omega), by simp only [if_true]; omega⟩
  rw [hsg.1, hsg.2, cmp_small _ _ _ _ hQ0 hQ b hr]
  refine decide_eq_false fun h => hw ?_
  rw [← h]; exact Nat.mul_mod_left _ _
/-! ## Infinities and NaN -/
theorem bitsMax : Ieee.double.read 9218868437227405311 = .number false 9007199254740991 971 := by decide
theorem bitsMin : Ieee.double.read 18442240474082181119 = .number true 9007199254740991 971 := by decide
theorem fin_not_inf (b : Nat) (hf : Fin b) : (FloatKind.f64.format.order b 9218868437227405311 == some .gt) = false ∧ (FloatKind.f64.format.order b 18442240474082181119 == some .lt) = false := by
  have hm := hf.m
  have e2 := hf.e2
  have hp : 1 ≤ 2 ^ (971 - (fe1 b - 1075)).toNat := Nat.pow_pos (by omega)
  have := Nat.mul_le_mul_left 9007199254740991 hp
  rw [ord_num hf.rd bitsMax, ord_num hf.rd bitsMin, cmp_gt, cmp_lt, show min (fe1 b - 1075) 971 = fe1 b - 1075 by omega, signed_eq, signed_eq, signed_eq, show (fe1 b - 1075 - (fe1 b - 1075)).toNat = 0 by omega, Nat.pow_zero, Nat.mul_one]
  constructor
  · refine decide_eq_false ?_
    simp only [Bool.false_eq_true, if_false]
    split <;> omega
  · refine decide_eq_false ?_
    simp only [if_true]
    split <;> omega
theorem inf_or_nan (b : Nat) (hb : b < 18446744073709551616) (h : fE b = 2047) : (FloatKind.f64.format.order b b != some .eq) = true ∨ (FloatKind.f64.format.order b 9218868437227405311 == some .gt) = true ∨ (FloatKind.f64.format.order b 18442240474082181119 == some .lt) = true := by
  have hrd : Ieee.double.read b = .infinity (b / 9223372036854775808 % 2 == 1) ∨ ∃ f, Ieee.double.read b = .nan (b / 9223372036854775808 % 2 == 1) f := by
    unfold Ieee.Format.read
    rw [dSign, dBin, dInf, dLeast]
    unfold fE at h
    dsimp only
    rw [if_neg (by omega), if_neg (by omega)]
    by_cases c : b % 9223372036854775808 = 9218868437227405312
    · rw [if_pos c]; exact .inl rfl
    · rw [if_neg c]; exact .inr ⟨_, rfl⟩
  rcases hrd with hr | ⟨f, hr⟩
  · right
    have h1 : FloatKind.f64.format.order b 9218868437227405311 = (Ieee.double.read b).order (.number false 9007199254740991 971) := by rw [← bitsMax]; rfl
    have h2 : FloatKind.f64.format.order b 18442240474082181119 = (Ieee.double.read b).order (.number true 9007199254740991 971) := by rw [← bitsMin]; rfl
    rw [h1, h2, hr]
    cases (b / 9223372036854775808 % 2 == 1)
    · left; rfl
    · right; rfl
  · left
    have h1 : FloatKind.f64.format.order b b = (Ieee.double.read b).order (Ieee.double.read b) := rfl
    rw [h1, hr]
    rfl
end Go.Proofs.YtmlgfhdjdmfdbaaDoor
