/-
  Proved: plain facts on the parts of a 64-bit float's bits and on Go's table of powers of ten. No program and no statement of the seat stands here.
-/
import Derived.Test.YtmlgfhdjdmfdbaaDoorFtM
import GoSem.PinnedTables
namespace Go.Proofs.YtmlgfhdjdmfdbaaDoor
open Go.RowKit Go.ChangeAt Go.Sort
set_option linter.unusedSimpArgs false
set_option linter.unusedVariables false
set_option maxRecDepth 100000
def rowHi (i : Nat) : Nat := (Go.Pinned.pow10Rows.getD i (0, 0)).1
def rowLo (i : Nat) : Nat := (Go.Pinned.pow10Rows.getD i (0, 0)).2
theorem rows_len : Go.Pinned.pow10Rows.length = 696 := by decide +kernel
theorem rows_all : Go.Pinned.pow10Rows.all (fun x => decide (9223372036854775808 ≤ x.1) && decide (x.1 < 18446744073709551616) && decide (x.2 < 18446744073709551616)) = true := by decide +kernel
theorem row_ok (i : Nat) (h : i < 696) : 9223372036854775808 ≤ rowHi i ∧ rowHi i < 18446744073709551616 ∧ rowLo i < 18446744073709551616 := by
  have hl : i < Go.Pinned.pow10Rows.length := by rw [rows_len]; exact h
  have := List.all_eq_true.1 rows_all _ (List.getElem_mem hl)
  simp only [Bool.and_eq_true, decide_eq_true_eq] at this
  unfold rowHi rowLo
  rw [List.getD_eq_getElem?_getD, List.getElem?_eq_getElem hl, Option.getD_some]
  exact ⟨this.1.1, this.1.2, this.2⟩
/-! ## The parts of the bits -/
def fE (b : Nat) : Nat := b / 4503599627370496 % 2048
def fM (b : Nat) : Nat := b % 4503599627370496
def fNeg (b : Nat) : Bool := decide (9223372036854775808 ≤ b)
def fMant (b : Nat) : Nat := if fE b = 0 then fM b else fM b + 4503599627370496
def fe1 (b : Nat) : Int := if fE b = 0 then 1 else (fE b : Int)
def fs (b : Nat) : Nat := 64 - Lib.bitLen (fMant b)
def fm (b : Nat) : Nat := fMant b * 2 ^ fs b
def fe2 (b : Nat) : Int := fe1 b - 1023 - (fs b : Int) - 52
theorem bits_E (b : Nat) (hb : b < 18446744073709551616) : bits .and .i64 (wrap64 ((b : Int) / 4503599627370496)) 2047 = (fE b : Int) := by
  have h1 : wrap64 ((b : Int) / 4503599627370496) = ((b / 4503599627370496 : Nat) : Int) := by unfold wrap64; omega
  rw [h1]
  have hq : b / 4503599627370496 < 4096 := by omega
  unfold fE
  generalize b / 4503599627370496 = q at hq
  have h2 : (BitVec.ofInt 64 (q : Int)).toNat = q := by
    rw [BitVec.ofInt_natCast, BitVec.toNat_ofNat]; exact Nat.mod_eq_of_lt (by omega)
  show IntKind.i64.wrap ((BitVec.ofInt 64 (q : Int) &&& BitVec.ofInt 64 2047).toNat : Int) = _
  have h3 : (BitVec.ofInt 64 2047).toNat = 2 ^ 11 - 1 := by decide
  rw [BitVec.toNat_and, h2, h3, Nat.and_two_pow_sub_one_eq_mod]
  exact IntWalk.i64_in _ (by omega)
theorem bits_M (b : Nat) (hb : b < 18446744073709551616) : bits .and .u64 (b : Int) 4503599627370495 = (fM b : Int) := by
  have h := bits_and_u64_nat b 4503599627370495 hb (by omega)
  rw [show (4503599627370495 : Nat) = 2 ^ 52 - 1 by decide, Nat.and_two_pow_sub_one_eq_mod] at h
  exact h
theorem bits_orM (M : Nat) (h : M < 4503599627370496) : bits .or .u64 (M : Int) 4503599627370496 = ((M + 4503599627370496 : Nat) : Int) := by
  have h1 := bits_or_u64_nat M 4503599627370496 (by omega) (by omega)
  have h2 : M ||| 4503599627370496 = M + 4503599627370496 := by
    have h3 := Nat.two_pow_add_eq_or_of_lt (i := 52) (b := M) (by omega) 1
    rw [Nat.mul_one, Nat.or_comm] at h3
    show M ||| 2 ^ 52 = M + 2 ^ 52
    rw [← h3, Nat.add_comm]
  rw [h2] at h1
  exact h1
theorem neg_b (b : Nat) (hb : b < 18446744073709551616) : ((b : Int) / 9223372036854775808 != 0) = fNeg b := by
  unfold fNeg
  by_cases h : 9223372036854775808 ≤ b
  · rw [decide_eq_true h]; simp; omega
  · rw [decide_eq_false h]; simp; omega
theorem bitLen_bounds (x : Nat) (h0 : x ≠ 0) (h : x < 18446744073709551616) : 1 ≤ Lib.bitLen x ∧ 2 ^ (Lib.bitLen x - 1) ≤ x ∧ x < 2 ^ Lib.bitLen x := Lib.bitLenAux_bounds 64 x (by omega) h0
/-- The mantissa, moved left. -/
structure Moved (b : Nat) : Prop where
  m1 : 1 ≤ fMant b
  m2 : fMant b < 9007199254740992
  s1 : 11 ≤ fs b
  s2 : fs b ≤ 63
  sum : Lib.bitLen (fMant b) + fs b = 64
  lo : 9223372036854775808 ≤ fm b
  hi : fm b + 2 ^ fs b ≤ 18446744073709551616
  norm : fE b ≠ 0 → fs b = 11
  sub : fE b = 0 → 12 ≤ fs b
theorem moved (b : Nat) (hz : fMant b ≠ 0) : Moved b := by
  have hM : fM b < 4503599627370496 := Nat.mod_lt _ (by omega)
  have h2 : fMant b < 9007199254740992 := by unfold fMant; split <;> omega
  obtain ⟨b1, b2, b3⟩ := bitLen_bounds (fMant b) hz (by omega)
  have hl : Lib.bitLen (fMant b) ≤ 53 := Lib.bitLen_le _ 53 (by omega) (by omega)
  have hs : Lib.bitLen (fMant b) + fs b = 64 := by unfold fs; omega
  have hpow : 2 ^ Lib.bitLen (fMant b) * 2 ^ fs b = 18446744073709551616 := by rw [← Nat.pow_add, hs]
  have hpow2 : 2 ^ (Lib.bitLen (fMant b) - 1) * 2 ^ fs b = 9223372036854775808 := by rw [← Nat.pow_add, show Lib.bitLen (fMant b) - 1 + fs b = 63 by omega]
  refine ⟨by omega, h2, by omega, by omega, hs, ?_, ?_, fun hE => ?_, fun hE => ?_⟩
  · unfold fm; rw [← hpow2]; exact Nat.mul_le_mul_right _ b2
  · unfold fm; rw [← hpow, ← Nat.succ_mul]; exact Nat.mul_le_mul_right _ b3
  · have : 4503599627370496 ≤ fMant b := by unfold fMant; rw [if_neg hE]; omega
    have h53 : ¬ Lib.bitLen (fMant b) ≤ 52 := fun h => by
      have : 2 ^ Lib.bitLen (fMant b) ≤ 2 ^ 52 := Nat.pow_le_pow_right (by omega) h
      omega
    omega
  · have : fMant b < 2 ^ 52 := by unfold fMant; rw [if_pos hE]; omega
    have := Lib.bitLen_le _ 52 (by omega) this
    omega
/-! ## The digits -/
theorem cut_pos (d : Nat) (hd : 1 ≤ d) : 1 ≤ cut (Lib.decDigits d) (Lib.nDigits d) := by
  have key : ∀ n, cut (Lib.decDigits d) n = 0 → ∀ j, j < n → (Lib.decDigits d).getD j 0 = 48 := by
    intro n
    induction n with
    | zero => intro _ j hj; omega
    | succ n ih =>
      intro h j hj
      unfold cut at h
      by_cases h48 : (Lib.decDigits d).getD n 0 = 48
      · rw [if_pos h48] at h
        by_cases e : j = n
        · rw [e]; exact h48
        · exact ih h j (by omega)
      · rw [if_neg h48] at h; omega
  have hp := Lib.nDigits_pos d
  rcases Nat.eq_zero_or_pos (cut (Lib.decDigits d) (Lib.nDigits d)) with h | h
  · have h0 := key _ h 0 hp
    rw [Lib.decDigits_eq, List.getD_eq_getElem?_getD, List.getElem?_map, List.getElem?_range hp] at h0
    simp only [Option.map_some, Option.getD_some, Nat.sub_zero] at h0
    have hlt := Lib.lt_pow_nDigits d
    have hge : 10 ^ (Lib.nDigits d - 1) ≤ d := by
      rcases Nat.lt_or_ge d (10 ^ (Lib.nDigits d - 1)) with hc | hc
      · exfalso
        have : ∀ k u, u < 10 ^ k → 1 ≤ k → Lib.nDigits u ≤ k := by
          intro k
          induction k with
          | zero => intro u _ h; omega
          | succ k ih2 =>
            intro u hu _
            by_cases hs : u < 10
            · rw [Lib.nDigits_small hs]; omega
            · rw [Lib.nDigits_big hs]
              rw [Nat.pow_succ] at hu
              rcases Nat.eq_zero_or_pos k with rfl | hk
              · omega
              · have := ih2 (u / 10) (by omega) hk; omega
        by_cases h1 : Lib.nDigits d = 1
        · rw [h1] at hc; simp at hc; omega
        · have := this _ d hc (by omega); omega
      · exact hc
    have hpp : 0 < 10 ^ (Lib.nDigits d - 1) := Nat.pow_pos (by omega)
    have hq1 : 1 ≤ d / 10 ^ (Lib.nDigits d - 1) := (Nat.one_le_div_iff hpp).2 hge
    have hq2 : d / 10 ^ (Lib.nDigits d - 1) < 10 := by
      refine Nat.div_lt_of_lt_mul ?_
      rw [← Nat.pow_succ]
      show d < 10 ^ (Lib.nDigits d - 1 + 1)
      rw [show Lib.nDigits d - 1 + 1 = Lib.nDigits d by omega]
      exact hlt
    unfold Lib.dg at h0
    generalize d / 10 ^ (Lib.nDigits d - 1) = q at h0 hq1 hq2
    have h1 := congrArg UInt8.toNat h0
    rw [UInt8.toNat_ofNat', Nat.mod_eq_of_lt hq2] at h1
    have : (48 : UInt8).toNat = 48 := rfl
    omega
  · exact h
theorem nDigits_le (u k : Nat) (hu : u < 10 ^ k) (hk : 1 ≤ k) : Lib.nDigits u ≤ k := by
  induction k generalizing u with
  | zero => omega
  | succ k ih2 =>
    by_cases hs : u < 10
    · rw [Lib.nDigits_small hs]; omega
    · rw [Lib.nDigits_big hs]
      rw [Nat.pow_succ] at hu
      rcases Nat.eq_zero_or_pos k with rfl | hk
      · omega
      · have := ih2 (u / 10) (by omega) hk; omega
/-! ## The scaling's sizes -/
theorem p_bounds (t p : Int) (h : -1074 ≤ t ∧ t ≤ 971) (hp : p = -(l10 t) ∨ p = -(skw t)) : -292 ≤ p ∧ p ≤ 325 ∧ -1 ≤ t + l2 p ∧ t + l2 p ≤ 4 := by
  unfold l10 skw at hp
  unfold l2
  omega
theorem usc_ge (x hi lo s : Nat) (hx : 4611686018427387904 ≤ x) (hhi : 9223372036854775808 ≤ hi) (hs : s ≤ 58) : 7 ≤ usc x hi lo s := by
  have hprod : 4611686018427387904 * 9223372036854775808 ≤ x * hi := Nat.mul_le_mul hx hhi
  have hh : 2305843009213693952 ≤ x * hi / 18446744073709551616 := by omega
  have hp : 2 ^ s ≤ 2 ^ 58 := Nat.pow_le_pow_right (by omega) hs
  have hp0 : 0 < 2 ^ s := Nat.pow_pos (by omega)
  have key : ∀ h, 2305843009213693951 ≤ h → 7 ≤ h / 2 ^ s := fun h hh => by
    rw [Nat.le_div_iff_mul_le hp0]
    omega
  unfold usc
  split
  · refine Nat.le_trans (key _ ?_) (Nat.left_le_or)
    split <;> omega
  · exact Nat.le_trans (key _ (by omega)) (Nat.left_le_or)
end Go.Proofs.YtmlgfhdjdmfdbaaDoor
