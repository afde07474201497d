/-
  Proved: the text of a number that is not whole and is at least a million has more than eight letters: plain arithmetic. No statement of the seat stands here.
-/
import Derived.Test.YtmlgfhdjdmfdbaaDoorFtO
namespace Go.Proofs.YtmlgfhdjdmfdbaaDoor
set_option linter.unusedSimpArgs false
set_option linter.unusedVariables false
set_option maxRecDepth 100000
theorem or_one (n : Nat) : n ||| 1 = if n % 2 = 0 then n + 1 else n := by
  have h1 : (n ||| 1) / 2 = n / 2 := by rw [Nat.or_div_two]; simp
  have h2 : (n ||| 1) % 2 = 1 := by
    have := @Nat.or_mod_two_eq_one n 1
    exact this.2 (.inr rfl)
  split <;> omega
/-- What the scaled product is, without and with a rest. -/
theorem usc_cases (x hi s : Nat) (hev : hi % 2 = 0) : (x * hi % (2 ^ (64 + s)) = 0 ∧ usc x hi 0 s = x * hi / 2 ^ (64 + s)) ∨
    (x * hi % (2 ^ (64 + s)) ≠ 0 ∧ usc x hi 0 s % 2 = 1 ∧ (usc x hi 0 s = x * hi / 2 ^ (64 + s) ∨ usc x hi 0 s = x * hi / 2 ^ (64 + s) + 1)) := by
  have hpe : x * hi % 2 = 0 := by rw [Nat.mul_mod, hev, Nat.mul_zero]; 
  generalize hP : x * hi = P at *
  have hD : (2 : Nat) ^ (64 + s) = 18446744073709551616 * 2 ^ s := by rw [Nat.pow_add]
  have hdd : P / 2 ^ (64 + s) = P / 18446744073709551616 / 2 ^ s := by rw [hD, Nat.div_div_eq_div_mul]
  have hmm : P % 2 ^ (64 + s) = P % 18446744073709551616 + 18446744073709551616 * (P / 18446744073709551616 % 2 ^ s) := by rw [hD, Nat.mod_mul]
  have hs0 : 0 < 2 ^ s := Nat.pow_pos (by omega)
  unfold usc
  rw [hP, hdd, hmm, Nat.mul_zero, Nat.zero_div]
  have hdm := Nat.div_add_mod (P / 18446744073709551616) (2 ^ s)
  have hml : P / 18446744073709551616 % 2 ^ s < 2 ^ s := Nat.mod_lt _ hs0
  generalize hA : P / 18446744073709551616 = A at *
  generalize hm : P % 18446744073709551616 = m at *
  have hme : m % 2 = 0 := by omega
  have hml2 : m < 18446744073709551616 := by omega
  rw [if_neg (show ¬ m < 0 by omega)]
  by_cases c : A / 2 ^ s * 2 ^ s = A
  · rw [if_pos c]
    have c0 : A % 2 ^ s = 0 := by rw [Nat.mul_comm] at c; omega
    rw [c0]
    by_cases cm : m = 0
    · left
      subst cm
      simp
    · right
      refine ⟨by omega, ?_⟩
      rw [if_neg (show ¬ (m + 18446744073709551616 - 0) % 18446744073709551616 ≤ 1 by omega), or_one]
      split <;> omega
  · rw [if_neg c]
    have c0 : A % 2 ^ s ≠ 0 := fun h => c (by rw [Nat.mul_comm]; omega)
    right
    refine ⟨by omega, ?_⟩
    rw [or_one]
    split <;> omega
/-- The scaled product's bounds, in whole units. -/
structure Usc (P D U : Nat) : Prop where
  up : ∀ d, U ≤ 4 * d → P ≤ 4 * d * D
  dn : ∀ d, 4 * d ≤ U → 4 * d * D ≤ P
  tight : ∀ d odd, odd ≤ 1 → 4 * d < U + odd → 4 * d * D ≤ P
  r1 : ∀ d, 4 * d ≤ U + 2 → 4 * d * D ≤ P + 2 * D
  r2 : ∀ d, U ≤ 4 * d + 2 → P ≤ 4 * d * D + 2 * D
theorem usc_bounds (x hi s : Nat) (hev : hi % 2 = 0) : Usc (x * hi) (2 ^ (64 + s)) (usc x hi 0 s) := by
  have hD0 : 0 < 2 ^ (64 + s) := Nat.pow_pos (by omega)
  have hdm := Nat.div_add_mod (x * hi) (2 ^ (64 + s))
  have hml : x * hi % 2 ^ (64 + s) < 2 ^ (64 + s) := Nat.mod_lt _ hD0
  have hc := usc_cases x hi s hev
  generalize 2 ^ (64 + s) = D at *
  generalize x * hi = P at *
  generalize usc x hi 0 s = U at *
  generalize hF : P / D = F at *
  generalize hR : P % D = R at *
  rw [Nat.mul_comm] at hdm
  have up : ∀ a b, a ≤ b → a * D ≤ b * D := fun a b h => Nat.mul_le_mul_right _ h
  have s1 : ∀ a, (a + 1) * D = a * D + D := fun a => Nat.succ_mul a D
  have s2 : ∀ a, (a + 2) * D = a * D + 2 * D := fun a => Nat.add_mul a 2 D
  have sF := s1 F
  have sF2 := s2 F
  refine ⟨fun d h => ?_, fun d h => ?_, fun d odd ho h => ?_, fun d h => ?_, fun d h => ?_⟩
  · rcases hc with ⟨r0, u⟩ | ⟨r0, u, v⟩
    · have := up F (4 * d) (by omega); omega
    · have := up (F + 1) (4 * d) (by omega); omega
  · have := up (4 * d) F (by omega); omega
  · have := up (4 * d) F (by omega); omega
  · rcases hc with ⟨r0, u⟩ | ⟨r0, u, v⟩
    · have := up (4 * d) (F + 2) (by omega); omega
    · have := up (4 * d) (F + 2) (by omega); omega
  · have s4 := s2 (4 * d)
    have s3 := s1 (4 * d)
    rcases hc with ⟨r0, u⟩ | ⟨r0, u, v⟩
    · have := up F (4 * d + 2) (by omega); omega
    · have := up F (4 * d + 1) (by omega); omega
/-- The shortest digits lie in the interval. -/
theorem short_in (M k hi s p odd : Nat) (P : Int) (h : hi * 2 ^ (11 + k) = 10 ^ p * 2 ^ (66 + s)) (hev : hi % 2 = 0) (hp : 2 ^ k < 10 ^ p) (hM : 1 ≤ M) (ho : odd ≤ 1) :
    ∃ d' : Nat, (((shortR (2048 * M - 1024) (2048 * M + 1024) (2048 * M) odd hi 0 s P).2 = -P ∧ d' = (shortR (2048 * M - 1024) (2048 * M + 1024) (2048 * M) odd hi 0 s P).1) ∨
        ((shortR (2048 * M - 1024) (2048 * M + 1024) (2048 * M) odd hi 0 s P).2 = -(P - 1) ∧ d' = 10 * (shortR (2048 * M - 1024) (2048 * M + 1024) (2048 * M) odd hi 0 s P).1)) ∧
      (2 * M - 1) * 10 ^ p ≤ d' * 2 ^ (k + 1) ∧ d' * 2 ^ (k + 1) ≤ (2 * M + 1) * 10 ^ p := by
  have hD0 : 0 < 2 ^ (64 + s) := Nat.pow_pos (by omega)
  have h4 : (2 : Nat) ^ (66 + s) = 4 * 2 ^ (64 + s) := by rw [show 66 + s = 2 + (64 + s) by omega, Nat.pow_add]
  have hk1 : (2 : Nat) ^ (11 + k) = 1024 * 2 ^ (k + 1) := by rw [show 11 + k = 10 + (k + 1) by omega, Nat.pow_add]
  have hk0 : 0 < 2 ^ (k + 1) := Nat.pow_pos (by omega)
  have hk2 : (2 : Nat) ^ (k + 1) = 2 * 2 ^ k := by rw [Nat.pow_succ, Nat.mul_comm]
  rw [h4, hk1] at h
  have bn := usc_bounds (2048 * M - 1024) hi s hev
  have bx := usc_bounds (2048 * M + 1024) hi s hev
  have bm := usc_bounds (2048 * M) hi s hev
  have en : (2048 * M - 1024) * hi = (2 * M - 1) * (1024 * hi) := by rw [← Nat.mul_assoc]; congr 1; omega
  have ex : (2048 * M + 1024) * hi = (2 * M + 1) * (1024 * hi) := by rw [← Nat.mul_assoc]; congr 1; omega
  have em : 2048 * M * hi = 2 * M * (1024 * hi) := by rw [← Nat.mul_assoc]; congr 1; omega
  rw [en] at bn
  rw [ex] at bx
  rw [em] at bm
  generalize hUn : usc (2048 * M - 1024) hi 0 s = Un at *
  generalize hUx : usc (2048 * M + 1024) hi 0 s = Ux at *
  generalize hUm : usc (2048 * M) hi 0 s = Um at *
  generalize hDD : 2 ^ (64 + s) = D at *
  generalize hK : 2 ^ (k + 1) = K at *
  generalize hT : 10 ^ p = T at *
  have h' : 1024 * hi * K = T * (4 * D) := by rw [← h]; simp [Nat.mul_comm, Nat.mul_assoc, Nat.mul_left_comm]
  generalize hH : 1024 * hi = Hh at *
  -- the width: one unit and more
  have wide : 4 * D < 2 * Hh := by
    refine Nat.lt_of_mul_lt_mul_right (a := K) ?_
    have e2 : 2 * Hh * K = 2 * T * (4 * D) := by rw [Nat.mul_assoc, h', Nat.mul_assoc]
    rw [e2, Nat.mul_comm (4 * D) K]
    exact Nat.mul_lt_mul_of_pos_right (by omega) (by omega)
  have fin : ∀ d' : Nat, (2 * M - 1) * Hh ≤ 4 * d' * D → 4 * d' * D ≤ (2 * M + 1) * Hh → (2 * M - 1) * T ≤ d' * K ∧ d' * K ≤ (2 * M + 1) * T := by
    intro d' h1 h2
    have e0 : ∀ a, a * T * (4 * D) = a * Hh * K := fun a => by rw [Nat.mul_assoc, ← h', Nat.mul_assoc]
    have e1 : d' * K * (4 * D) = 4 * d' * D * K := by simp [Nat.mul_comm, Nat.mul_assoc, Nat.mul_left_comm]
    constructor
    · refine Nat.le_of_mul_le_mul_right (c := 4 * D) ?_ (by omega)
      rw [e0, e1]; exact Nat.mul_le_mul_right _ h1
    · refine Nat.le_of_mul_le_mul_right (c := 4 * D) ?_ (by omega)
      rw [e0, e1]; exact Nat.mul_le_mul_right _ h2
  have x1 : (2 * M + 1) * Hh = 2 * M * Hh + Hh := by rw [Nat.add_mul, Nat.one_mul]
  have x2 : 2 * M * Hh = (2 * M - 1) * Hh + Hh := by
    have : 2 * M = (2 * M - 1) + 1 := by omega
    conv => lhs; rw [this]
    rw [Nat.add_mul, Nat.one_mul]
  have four : ∀ a : Nat, 4 * a * D = 4 * (a * D) := fun a => Nat.mul_assoc 4 a D
  unfold shortR
  rw [hUn, hUx, hUm]
  by_cases c1 : (Un + odd + 3) / 4 ≤ (Ux - odd) / 4 / 10 * 10
  · rw [if_pos c1]
    refine ⟨_, .inr ⟨rfl, rfl⟩, fin _ (bn.up _ ?_) (bx.dn _ ?_)⟩
    · show Un ≤ 4 * (10 * ((Ux - odd) / 4 / 10))
      omega
    · show 4 * (10 * ((Ux - odd) / 4 / 10)) ≤ Ux
      omega
  · rw [if_neg c1]
    by_cases c2 : (Un + odd + 3) / 4 < (Ux - odd) / 4
    · rw [if_pos c2]
      have l1 := bn.up ((Un + odd + 3) / 4) (by omega)
      have l2 := bx.dn ((Un + odd + 3) / 4 + 1) (by omega)
      have l3 : 4 * ((Un + odd + 3) / 4 + 1) * D = 4 * ((Un + odd + 3) / 4) * D + 4 * D := by rw [Nat.mul_add, Nat.add_mul]
      have hr1 := bm.r1 ((Um + 1 + Um / 4 % 2) / 4) (by omega)
      have hr2 := bm.r2 ((Um + 1 + Um / 4 % 2) / 4) (by omega)
      exact ⟨_, .inl ⟨rfl, rfl⟩, fin _ (by show _ ≤ 4 * ((Um + 1 + Um / 4 % 2) / 4) * D; omega) (by show 4 * ((Um + 1 + Um / 4 % 2) / 4) * D ≤ _; omega)⟩
    · rw [if_neg c2]
      refine ⟨_, .inl ⟨rfl, rfl⟩, fin _ (bn.up _ (by show _ ≤ 4 * ((Un + odd + 3) / 4); omega)) ?_⟩
      show 4 * ((Un + odd + 3) / 4) * D ≤ _
      by_cases z : (Un + odd + 3) / 4 = 0
      · rw [z]; simp
      · have t := bn.tight ((Un + odd + 3) / 4 - 1) odd ho (by omega)
        have l3 : 4 * ((Un + odd + 3) / 4) * D = 4 * ((Un + odd + 3) / 4 - 1) * D + 4 * D := by
          have : 4 * ((Un + odd + 3) / 4) = 4 * ((Un + odd + 3) / 4 - 1) + 4 := by omega
          rw [this, Nat.add_mul]
        omega
/-- The digits that are cut are zeros. -/
theorem cut_zeros (ds : List UInt8) : ∀ n j, cut ds n ≤ j → j < n → ds.getD j 0 = 48
  | 0, j, _, h => by omega
  | n + 1, j, h1, h2 => by
    unfold cut at h1
    split at h1
    · rename_i h48
      by_cases e : j = n
      · rw [e]; exact h48
      · exact cut_zeros ds n j h1 (by omega)
    · omega
theorem dvd_of_zeros (u : Nat) : ∀ z, (∀ i, i < z → u / 10 ^ i % 10 = 0) → u % 10 ^ z = 0
  | 0, _ => by simp [Nat.mod_one]
  | z + 1, h => by
    have ih := dvd_of_zeros u z (fun i hi => h i (by omega))
    have hz := h z (by omega)
    rw [Nat.pow_succ, Nat.mod_mul, ih, hz]; simp
theorem tail_zeros (d : Nat) : d % 10 ^ (Lib.nDigits d - (dsOf d).length) = 0 := by
  rw [dsOf_len]
  refine dvd_of_zeros d _ fun i hi => ?_
  have hc := cut_le (Lib.decDigits d) (Lib.nDigits d)
  have hz := cut_zeros (Lib.decDigits d) (Lib.nDigits d) (Lib.nDigits d - 1 - i) (by omega) (by omega)
  rw [Lib.decDigits_eq, List.getD_eq_getElem?_getD, List.getElem?_map, List.getElem?_range (by omega)] at hz
  simp only [Option.map_some, Option.getD_some] at hz
  rw [show Lib.nDigits d - 1 - (Lib.nDigits d - 1 - i) = i by omega] at hz
  unfold Lib.dg at hz
  have h10 : d / 10 ^ i % 10 < 10 := Nat.mod_lt _ (by omega)
  have := congrArg UInt8.toNat hz
  simp at this
  omega
/-- The closed facts of the table's rows that come to use. -/
def rowOk (k : Nat) : Bool :=
  let t : Int := -k
  let p : Int := -(l10 t)
  let s : Nat := (-(t - 11 + l2 p + 3)).toNat
  let hi := rowHi (p + 348).toNat
  decide (1 ≤ p) && decide (hi * 2 ^ (11 + k) = 10 ^ p.toNat * 2 ^ (66 + s)) && decide (hi % 2 = 0) && decide (rowLo (p + 348).toNat = 0) && decide (2 ^ k < 10 ^ p.toNat)
theorem rows_ok : ((List.range 33).all fun i => rowOk (i + 1)) = true := by kernel_rfl
theorem expD_len (x : Nat) : 2 ≤ (expD x).length := by
  unfold expD
  split
  · simp
  · split <;> simp
/-- THE LAW: not whole, at least a million: more than eight letters. -/
theorem long_text (b k : Nat) (h1 : 1 ≤ k) (h2 : k ≤ 33) (hE : fE b + k = 1075) (hw : fMant b % 2 ^ k ≠ 0) (hm : 1000000 * 2 ^ k ≤ fMant b) : 8 < (ffText b).length := by
  have hE0 : fE b ≠ 0 := by omega
  have hM0 : 4503599627370496 ≤ fMant b := by unfold fMant; rw [if_neg hE0]; omega
  have mv := moved b (by omega)
  have hs := mv.norm hE0
  have hK0 : 0 < 2 ^ k := Nat.pow_pos (by omega)
  have hfe : fe2 b + fs b = -(k : Int) := by unfold fe2 fe1; rw [if_neg hE0, hs]; omega
  have hsk : fskew b = false := by
    unfold fskew
    refine decide_eq_false fun h => hw ?_
    have hfm := h.1
    unfold fm at hfm
    rw [hs] at hfm
    have : fMant b = 4503599627370496 := by omega
    rw [this, show (4503599627370496 : Nat) = 2 ^ k * 2 ^ (52 - k) by rw [← Nat.pow_add, show k + (52 - k) = 52 by omega]]
    exact Nat.mul_mod_right _ _
  have hfm : fm b = 2048 * fMant b := by unfold fm; rw [hs]; omega
  have hfmn : fmn b = 2048 * fMant b - 1024 := by unfold fmn; rw [hsk, hs, hfm]; rfl
  have hfmx : fmx b = 2048 * fMant b + 1024 := by unfold fmx; rw [hs, hfm]
  have hfp : fp b = -(l10 (-(k : Int))) := by unfold fp; rw [hsk, hfe]; rfl
  have hfe2 : fe2 b = -(k : Int) - 11 := by omega
  have hrow : rowOk k = true := by
    have := List.all_eq_true.1 rows_ok (k - 1) (List.mem_range.2 (by omega))
    rwa [show k - 1 + 1 = k by omega] at this
  unfold rowOk at hrow
  simp only [Bool.and_eq_true, decide_eq_true_eq] at hrow
  obtain ⟨⟨⟨⟨hp1, r1⟩, r2⟩, r3⟩, r4⟩ := hrow
  rw [← hfp] at hp1 r1 r2 r3 r4
  have hsc : fsc b = (-(-(k : Int) - 11 + l2 (fp b) + 3)).toNat := by unfold fsc; rw [hfe2]
  rw [← hsc] at r1
  have hR : fR b = shortR (2048 * fMant b - 1024) (2048 * fMant b + 1024) (2048 * fMant b) (fMant b % 2) (rowHi (fIdx b)) 0 (fsc b) (fp b) := by
    unfold fR
    rw [hfmn, hfmx, hfm, show rowLo (fIdx b) = 0 from r3]
  have hpN : ((fp b).toNat : Int) = fp b := by omega
  obtain ⟨d', hd, lo, hi⟩ := short_in (fMant b) k (rowHi (fIdx b)) (fsc b) (fp b).toNat (fMant b % 2) (fp b) r1 r2 r4 (by omega) (by omega)
  rw [← hR] at hd
  generalize hp : (fp b).toNat = p at *
  -- the places behind the point
  obtain ⟨n10, hn10, hpd, hd2⟩ : ∃ n10 : Nat, (fR b).2 = -(n10 : Int) ∧ n10 ≤ p ∧ d' = (fR b).1 * 10 ^ (p - n10) := by
    rcases hd with ⟨e, rfl⟩ | ⟨e, rfl⟩
    · exact ⟨p, by omega, Nat.le_refl _, by simp⟩
    · refine ⟨p - 1, by omega, by omega, ?_⟩
      rw [show p - (p - 1) = 1 by omega]; omega
  have hkk : (2 : Nat) ^ (k + 1) = 2 * 2 ^ k := by rw [Nat.pow_succ, Nat.mul_comm]
  have hT0 : 0 < 10 ^ p := Nat.pow_pos (by omega)
  have hTn : 10 ^ p = 10 ^ n10 * 10 ^ (p - n10) := by rw [← Nat.pow_add, show n10 + (p - n10) = p by omega]
  have hTp : 0 < 10 ^ (p - n10) := Nat.pow_pos (by omega)
  have hlt := Lib.lt_pow_nDigits (fR b).1
  have hMn : 1000000 * 2 ^ k ≠ fMant b := fun h => hw (by rw [← h]; exact Nat.mul_mod_left _ _)
  -- the point lies behind the seventh digit or later
  have hdp : n10 + 7 ≤ Lib.nDigits (fR b).1 := by
    rcases Nat.lt_or_ge (Lib.nDigits (fR b).1) (n10 + 7) with hc | hc
    · exfalso
      have q1 : (fR b).1 < 10 ^ (n10 + 6) := Nat.lt_of_lt_of_le hlt (Nat.pow_le_pow_right (by omega) (by omega))
      have q2 : d' < 1000000 * 10 ^ p := by
        rw [hd2, hTn, ← Nat.mul_assoc]
        refine Nat.mul_lt_mul_of_pos_right ?_ hTp
        rw [Nat.pow_add] at q1; omega
      have q3 : (2 * fMant b - 1) * 10 ^ p < 1000000 * 2 ^ (k + 1) * 10 ^ p := by
        refine Nat.lt_of_le_of_lt lo ?_
        have := Nat.mul_lt_mul_of_pos_right q2 (show 0 < 2 ^ (k + 1) by omega)
        rw [Nat.mul_right_comm] at this
        exact this
      have q4 := Nat.lt_of_mul_lt_mul_right q3
      rw [hkk] at q4
      omega
    · exact hc
  have hnd : 4 ≤ (dsOf (fR b).1).length := by
    rcases Nat.lt_or_ge (dsOf (fR b).1).length 4 with hc | hc
    · exfalso
      have tz := tail_zeros (fR b).1
      have q1 : (fR b).1 % 10 ^ n10 = 0 := by
        have : 10 ^ (Lib.nDigits (fR b).1 - (dsOf (fR b).1).length) = 10 ^ n10 * 10 ^ (Lib.nDigits (fR b).1 - (dsOf (fR b).1).length - n10) := by rw [← Nat.pow_add]; congr 1; omega
        rw [this] at tz
        exact Nat.mod_eq_zero_of_dvd (Nat.dvd_trans (Nat.dvd_mul_right _ _) (Nat.dvd_of_mod_eq_zero tz))
      obtain ⟨q, hq⟩ := Nat.dvd_of_mod_eq_zero q1
      have hdq : d' = q * 10 ^ p := by rw [hd2, hq, hTn]; simp [Nat.mul_comm, Nat.mul_assoc, Nat.mul_left_comm]
      rw [hdq, Nat.mul_right_comm] at lo hi
      have l1 := Nat.le_of_mul_le_mul_right lo hT0
      have l2 := Nat.le_of_mul_le_mul_right hi hT0
      rw [hkk, Nat.mul_left_comm] at l1 l2
      have : fMant b = q * 2 ^ k := by omega
      exact hw (by rw [this]; exact Nat.mul_mod_left _ _)
    · exact hc
  unfold ffText
  rw [if_neg (by omega)]
  have hD7 : 7 ≤ fDp b := by unfold fDp; omega
  unfold txtG
  rw [if_neg (by omega), if_pos hD7]
  unfold txtE fracE
  rw [if_neg (by omega)]
  have := expD_len (fDp b - 1).toNat
  simp only [List.length_append, List.length_cons, List.length_nil, List.length_drop]
  omega
end Go.Proofs.YtmlgfhdjdmfdbaaDoor
