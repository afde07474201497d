/-
  Proved: FormatFloat at the shortest 'g' form, at every 64-bit float that is no zero: its text is one function of the bits. The tables' cells are as Go's text lays them. No statement of the seat stands here.
-/
import Derived.Test.YtmlgfhdjdmfdbaaDoorFtN
namespace Go.Proofs.YtmlgfhdjdmfdbaaDoor
open Go.RowKit Go.ChangeAt Go.Sort
set_option linter.unusedSimpArgs false
set_option linter.unusedVariables false
set_option maxRecDepth 100000
/-- The shortest digits out of the scaled bounds. -/
def shortR (mn mx m odd hi lo s : Nat) (p : Int) : Nat × Int :=
  if (usc mn hi lo s + odd + 3) / 4 ≤ (usc mx hi lo s - odd) / 4 / 10 * 10 then ((usc mx hi lo s - odd) / 4 / 10, -(p - 1))
  else if (usc mn hi lo s + odd + 3) / 4 < (usc mx hi lo s - odd) / 4 then ((usc m hi lo s + 1 + usc m hi lo s / 4 % 2) / 4, -p)
  else ((usc mn hi lo s + odd + 3) / 4, -p)
def fskew (b : Nat) : Bool := decide (fm b = 9223372036854775808 ∧ -1085 < fe2 b)
def fp (b : Nat) : Int := if fskew b then -(skw (fe2 b + fs b)) else -(l10 (fe2 b + fs b))
def fmn (b : Nat) : Nat := if fskew b then fm b - 512 else fm b - 2 ^ (fs b - 1)
def fmx (b : Nat) : Nat := fm b + 2 ^ (fs b - 1)
def fsc (b : Nat) : Nat := (-(fe2 b + l2 (fp b) + 3)).toNat
def fIdx (b : Nat) : Nat := (fp b + 348).toNat
def fR (b : Nat) : Nat × Int := shortR (fmn b) (fmx b) (fm b) (fMant b % 2) (rowHi (fIdx b)) (rowLo (fIdx b)) (fsc b) (fp b)
def fDp (b : Nat) : Int := (Lib.nDigits (fR b).1 : Int) + (fR b).2
def ffText (b : Nat) : List UInt8 :=
  if fE b = 2047 then (if fM b = 0 then (if fNeg b then [45, 73, 110, 102] else [43, 73, 110, 102]) else [78, 97, 78])
  else txtG (fNeg b) (dsOf (fR b).1) (fDp b)
def TabP (w : World) : Prop := ∀ i, i < 696 → w.cell? ⟨3, i * 2, none⟩ = some (.int .u64 (rowHi i)) ∧ w.cell? ⟨3, i * 2 + 1, none⟩ = some (.int .u64 (rowLo i))
theorem TabP.keep {w w' : World} (h : TabP w) (hc : Chg Nowhere w w') : TabP w' := fun i hi => ⟨hc.cell (h i hi).1 (fun h => h), hc.cell (h i hi).2 (fun h => h)⟩
/-- What the bits of a finite number that is no zero give. -/
structure Fin64 (b : Nat) : Prop where
  mv : Moved b
  t : -1074 ≤ fe2 b + fs b ∧ fe2 b + fs b ≤ 971
  p : -292 ≤ fp b ∧ fp b ≤ 325 ∧ -1 ≤ fe2 b + fs b + l2 (fp b) ∧ fe2 b + fs b + l2 (fp b) ≤ 4
  sc : 4 ≤ fsc b ∧ fsc b ≤ 58 ∧ -(fe2 b + l2 (fp b) + 3) = (fsc b : Int)
  idx : fIdx b < 696 ∧ fp b + 348 = (fIdx b : Int)
  e2 : -1200 ≤ fe2 b ∧ fe2 b ≤ 1000
  mn : 4611686018427387904 ≤ fmn b ∧ fmn b < 18446744073709551616
  mx : 9223372036854775808 ≤ fmx b ∧ fmx b < 18446744073709551616
  two : 2 ^ fs b = 2 * 2 ^ (fs b - 1)
theorem fin64 (b : Nat) (hb : b < 18446744073709551616) (hE : fE b ≠ 2047) (hz : fMant b ≠ 0) : Fin64 b := by
  have mv := moved b hz
  have hE2 : fE b < 2048 := Nat.mod_lt _ (by omega)
  have two : 2 ^ fs b = 2 * 2 ^ (fs b - 1) := by rw [← Nat.pow_succ']; congr 1; have := mv.s1; omega
  have ht : -1074 ≤ fe2 b + fs b ∧ fe2 b + fs b ≤ 971 := by unfold fe2 fe1; split <;> omega
  have hp : -292 ≤ fp b ∧ fp b ≤ 325 ∧ -1 ≤ fe2 b + fs b + l2 (fp b) ∧ fe2 b + fs b + l2 (fp b) ≤ 4 := by
    refine p_bounds _ _ ht ?_
    unfold fp
    by_cases h : fskew b = true
    · rw [if_pos h]; exact .inr rfl
    · rw [if_neg h]; exact .inl rfl
  have hsk : fskew b = true → fs b = 11 := fun h => by
    have := of_decide_eq_true h
    by_cases e : fE b = 0
    · have := mv.sub e; have h2 : fe2 b = 1 - 1023 - (fs b : Int) - 52 := by unfold fe2 fe1; rw [if_pos e]
      omega
    · exact mv.norm e
  have hsc : 4 ≤ fsc b ∧ fsc b ≤ 58 ∧ -(fe2 b + l2 (fp b) + 3) = (fsc b : Int) := by
    have h1 := mv.s1
    have h2 := mv.s2
    have hup : fs b ≤ 59 ∨ fsc b ≤ 58 := by
      by_cases e : fE b = 0
      · right
        have het : fe2 b + fs b = -1074 := by unfold fe2 fe1; rw [if_pos e]; omega
        have hns : fskew b = false := by
          unfold fskew; refine decide_eq_false fun h => ?_
          have := mv.sub e; omega
        have hpv : fp b = 324 := by unfold fp; rw [hns, het]; decide
        unfold fsc
        rw [hpv, show l2 324 = 1076 by decide]
        omega
      · left; have := mv.norm e; omega
    unfold fsc at hup ⊢
    omega
  have hpow : 2 ^ (fs b - 1) ≤ 2 ^ 62 := Nat.pow_le_pow_right (by omega) (by have := mv.s2; omega)
  have hm1 := mv.lo
  have hm2 := mv.hi
  have hpp : 0 < 2 ^ fs b := Nat.pow_pos (by omega)
  have hm3 : fm b < 18446744073709551616 := by omega
  refine ⟨mv, ht, hp, hsc, ⟨by unfold fIdx; omega, by unfold fIdx; omega⟩, ?_, ?_, ⟨by unfold fmx; omega, by unfold fmx; have : 0 < 2 ^ (fs b - 1) := Nat.pow_pos (by omega); omega⟩, two⟩
  · have h1 := mv.s1
    have h2 := mv.s2
    unfold fe2 fe1; split <;> omega
  · unfold fmn
    split <;> omega
theorem odd_bits (mant s : Nat) (hm : mant < 9007199254740992) : bits .and .i64 (wrap64 ((mant : Int))) 1 = ((mant % 2 : Nat) : Int) := by
  have h1 : wrap64 (mant : Int) = (mant : Int) := by unfold wrap64; omega
  rw [h1]
  have h2 : (BitVec.ofInt 64 (mant : Int)).toNat = mant := by
    rw [BitVec.ofInt_natCast, BitVec.toNat_ofNat]; exact Nat.mod_eq_of_lt (by omega)
  show IntKind.i64.wrap ((BitVec.ofInt 64 (mant : Int) &&& BitVec.ofInt 64 1).toNat : Int) = _
  have h3 : (BitVec.ofInt 64 1).toNat = 1 := by decide
  rw [BitVec.toNat_and, h2, h3, Nat.and_one_is_mod]
  exact IntWalk.i64_in _ (by omega)
theorem div_fm (b : Nat) : fm b / 2 ^ fs b = fMant b := by unfold fm; exact Nat.mul_div_cancel _ (Nat.pow_pos (by omega))
/-- The digits' number and the place. -/
structure Short (b : Nat) : Prop where
  d1 : 1 ≤ (fR b).1
  d2 : (fR b).1 < 10000000000000000000
  k : -330 ≤ (fR b).2 ∧ (fR b).2 ≤ 330
theorem short_sizes (b : Nat) (h : Fin64 b) : Short b := by
  obtain ⟨r1, r2, r3⟩ := row_ok (fIdx b) h.idx.1
  have hp := h.p
  have u1 := usc_ge (fmn b) (rowHi (fIdx b)) (rowLo (fIdx b)) (fsc b) h.mn.1 r1 h.sc.2.1
  have u2 := usc_ge (fmx b) (rowHi (fIdx b)) (rowLo (fIdx b)) (fsc b) (by have := h.mx.1; omega) r1 h.sc.2.1
  have u3 := usc_ge (fm b) (rowHi (fIdx b)) (rowLo (fIdx b)) (fsc b) (by have := h.mv.lo; omega) r1 h.sc.2.1
  have v1 := usc_lt (fmn b) (rowHi (fIdx b)) (rowLo (fIdx b)) (fsc b) (by have := h.sc.1; omega) h.mn.2 r2
  have v2 := usc_lt (fmx b) (rowHi (fIdx b)) (rowLo (fIdx b)) (fsc b) (by have := h.sc.1; omega) h.mx.2 r2
  have v3 := usc_lt (fm b) (rowHi (fIdx b)) (rowLo (fIdx b)) (fsc b) (by have := h.sc.1; omega) (by have := h.mv.hi; have : 0 < 2 ^ fs b := Nat.pow_pos (by omega); omega) r2
  have ho : fMant b % 2 < 2 := Nat.mod_lt _ (by omega)
  have key : 1 ≤ (fR b).1 ∧ (fR b).1 < 10000000000000000000 ∧ -330 ≤ (fR b).2 ∧ (fR b).2 ≤ 330 := by
    unfold fR shortR
    split
    · dsimp only; omega
    · split
      · dsimp only; omega
      · dsimp only; omega
  exact ⟨key.1, key.2.1, key.2.2⟩
theorem short33 (b : Nat) (h : Fin64 b) (hE : fE b ≠ 2047) (w : World) (hT : TabP w) : Calls Tryd.prog 36 #[.int .u64 (fm b), .int .i64 (fe2 b)] w (PairOut (fR b).1 (fR b).2 w) := by
  obtain ⟨r1, r2, r3⟩ := row_ok (fIdx b) h.idx.1
  obtain ⟨c0, c1⟩ := hT (fIdx b) h.idx.1
  have u1 := usc_ge (fmn b) (rowHi (fIdx b)) (rowLo (fIdx b)) (fsc b) h.mn.1 r1 h.sc.2.1
  have u2 := usc_ge (fmx b) (rowHi (fIdx b)) (rowLo (fIdx b)) (fsc b) (by have := h.mx.1; omega) r1 h.sc.2.1
  have v1 := usc_lt (fmn b) (rowHi (fIdx b)) (rowLo (fIdx b)) (fsc b) (by have := h.sc.1; omega) h.mn.2 r2
  have v2 := usc_lt (fmx b) (rowHi (fIdx b)) (rowLo (fIdx b)) (fsc b) (by have := h.sc.1; omega) h.mx.2 r2
  have ho : fMant b % 2 < 2 := Nat.mod_lt _ (by omega)
  have mv := h.mv
  have hp := h.p
  have he := h.e2
  have htt := h.t
  have big : ∀ x, 4611686018427387904 ≤ x → 18446744073709551616 ≤ x * rowHi (fIdx b) := fun x hx => Nat.le_trans (by omega) (Nat.mul_le_mul hx r1)
  have T : Hid (fp b + 348 = (fIdx b : Int) ∧ fIdx b < 696 ∧ w.cell? ⟨3, fIdx b * 2, none⟩ = some (.int .u64 (rowHi (fIdx b))) ∧ w.cell? ⟨3, fIdx b * 2 + 1, none⟩ = some (.int .u64 (rowLo (fIdx b))) ∧ -(fe2 b + l2 (fp b) + 3) = (fsc b : Int) ∧ (-4000 ≤ fe2 b ∧ fe2 b ≤ 4000 ∧ -4000 ≤ l2 (fp b) ∧ l2 (fp b) ≤ 4000 ∧ -4000 ≤ fp b ∧ fp b ≤ 4000)) :=
    Lib.hid ⟨h.idx.2, h.idx.1, c0, c1, h.sc.2.2, by omega⟩
  have U : Hid (fsc b < 64 ∧ fmn b < 18446744073709551616 ∧ rowHi (fIdx b) < 18446744073709551616 ∧ rowLo (fIdx b) < 18446744073709551616 ∧ True ∧ fMant b % 2 ≤ 1 ∧ True) :=
    Lib.hid ⟨by have := h.sc.2.1; omega, h.mn.2, r2, r3, trivial, by omega, trivial⟩
  have V : Hid (18446744073709551616 ≤ fmn b * rowHi (fIdx b) ∧ fmx b < 18446744073709551616 ∧ 18446744073709551616 ≤ fmx b * rowHi (fIdx b) ∧ fm b < 18446744073709551616 ∧ 18446744073709551616 ≤ fm b * rowHi (fIdx b) ∧ 1 ≤ fsc b) :=
    Lib.hid ⟨big _ h.mn.1, h.mx.2, big _ (by have := h.mx.1; omega), by have := mv.hi; have : 0 < 2 ^ fs b := Nat.pow_pos (by omega); omega, big _ (by have := mv.lo; omega), by have := h.sc.1; omega⟩
  have v1' : usc (fmn b) (rowHi (fIdx b)) (rowLo (fIdx b)) (fsc b) < 4611686018427387904 := by
    have hh : fmn b * rowHi (fIdx b) / 18446744073709551616 < 18446744073709551616 := Nat.div_lt_of_lt_mul (Nat.mul_lt_mul'' h.mn.2 r2)
    have key : ∀ x, x < 18446744073709551616 → x / 2 ^ fsc b < 2 ^ 62 := fun x hb => by
      refine Nat.div_lt_of_lt_mul (Nat.lt_of_lt_of_le hb ?_)
      have : 2 ^ 2 ≤ 2 ^ fsc b := Nat.pow_le_pow_right (by omega) (by have := h.sc.1; omega)
      omega
    have h1 : usc (fmn b) (rowHi (fIdx b)) (rowLo (fIdx b)) (fsc b) < 2 ^ 62 := by
      unfold usc
      split
      · refine Nat.or_lt_two_pow (key _ ?_) ?_
        · split <;> omega
        · split <;> omega
      · exact Nat.or_lt_two_pow (key _ hh) (by omega)
    omega
  have W : Hid (usc (fmn b) (rowHi (fIdx b)) (rowLo (fIdx b)) (fsc b) + fMant b % 2 < 9223372036854775808 ∧ usc (fmx b) (rowHi (fIdx b)) (rowLo (fIdx b)) (fsc b) - fMant b % 2 < 9223372036854775808) := Lib.hid ⟨by omega, by omega⟩
  have D : Hid (usc (fmn b) (rowHi (fIdx b)) (rowLo (fIdx b)) (fsc b) + fMant b % 2 = usc (fmn b) (rowHi (fIdx b)) (rowLo (fIdx b)) (fsc b) + fMant b % 2 ∧ (usc (fmn b) (rowHi (fIdx b)) (rowLo (fIdx b)) (fsc b) + fMant b % 2 + 3) / 4 = (usc (fmn b) (rowHi (fIdx b)) (rowLo (fIdx b)) (fsc b) + fMant b % 2 + 3) / 4 ∧ (usc (fmx b) (rowHi (fIdx b)) (rowLo (fIdx b)) (fsc b) - fMant b % 2) / 4 / 10 = (usc (fmx b) (rowHi (fIdx b)) (rowLo (fIdx b)) (fsc b) - fMant b % 2) / 4 / 10 ∧ usc (fmx b) (rowHi (fIdx b)) (rowLo (fIdx b)) (fsc b) - fMant b % 2 + fMant b % 2 = usc (fmx b) (rowHi (fIdx b)) (rowLo (fIdx b)) (fsc b) ∧ (usc (fmx b) (rowHi (fIdx b)) (rowLo (fIdx b)) (fsc b) - fMant b % 2) / 4 = (usc (fmx b) (rowHi (fIdx b)) (rowLo (fIdx b)) (fsc b) - fMant b % 2) / 4 ∧ (usc (fmx b) (rowHi (fIdx b)) (rowLo (fIdx b)) (fsc b) - fMant b % 2) / 4 < 4611686018427387904) :=
    Lib.hid ⟨rfl, rfl, rfl, by omega, rfl, by omega⟩
  have E : Hid (((usc (fmn b) (rowHi (fIdx b)) (rowLo (fIdx b)) (fsc b) + fMant b % 2 + 3) / 4 ≤ (usc (fmx b) (rowHi (fIdx b)) (rowLo (fIdx b)) (fsc b) - fMant b % 2) / 4 / 10 * 10 ∧ (fR b).1 = (usc (fmx b) (rowHi (fIdx b)) (rowLo (fIdx b)) (fsc b) - fMant b % 2) / 4 / 10 ∧ (fR b).2 = -(fp b - 1)) ∨ (¬ (usc (fmn b) (rowHi (fIdx b)) (rowLo (fIdx b)) (fsc b) + fMant b % 2 + 3) / 4 ≤ (usc (fmx b) (rowHi (fIdx b)) (rowLo (fIdx b)) (fsc b) - fMant b % 2) / 4 / 10 * 10 ∧ (usc (fmn b) (rowHi (fIdx b)) (rowLo (fIdx b)) (fsc b) + fMant b % 2 + 3) / 4 < (usc (fmx b) (rowHi (fIdx b)) (rowLo (fIdx b)) (fsc b) - fMant b % 2) / 4 ∧ (fR b).1 = (usc (fm b) (rowHi (fIdx b)) (rowLo (fIdx b)) (fsc b) + 1 + usc (fm b) (rowHi (fIdx b)) (rowLo (fIdx b)) (fsc b) / 4 % 2) / 4 ∧ (fR b).2 = -(fp b)) ∨ (¬ (usc (fmn b) (rowHi (fIdx b)) (rowLo (fIdx b)) (fsc b) + fMant b % 2 + 3) / 4 ≤ (usc (fmx b) (rowHi (fIdx b)) (rowLo (fIdx b)) (fsc b) - fMant b % 2) / 4 / 10 * 10 ∧ ¬ (usc (fmn b) (rowHi (fIdx b)) (rowLo (fIdx b)) (fsc b) + fMant b % 2 + 3) / 4 < (usc (fmx b) (rowHi (fIdx b)) (rowLo (fIdx b)) (fsc b) - fMant b % 2) / 4 ∧ (fR b).1 = (usc (fmn b) (rowHi (fIdx b)) (rowLo (fIdx b)) (fsc b) + fMant b % 2 + 3) / 4 ∧ (fR b).2 = -(fp b))) := by
    refine Lib.hid ?_
    unfold fR shortR
    split
    · rename_i c; exact .inl ⟨c, rfl, rfl⟩
    · rename_i c
      split
      · rename_i c2; exact .inr (.inl ⟨c, c2, rfl, rfl⟩)
      · rename_i c2; exact .inr (.inr ⟨c, c2, rfl, rfl⟩)
  have pow0 : 0 < 2 ^ (fs b - 1) := Nat.pow_pos (by omega)
  have y7 : bits .and .i64 (wrap64 ((fm b : Int) / 2 ^ fs b)) 1 = ((fMant b % 2 : Nat) : Int) := by
    rw [div_cast, div_fm]
    exact odd_bits _ 0 mv.m2
  have y6 : IntKind.u64.wrap ((fm b : Int) + ((2 ^ (fs b - 1) : Nat) : Int)) = (fmx b : Int) := by
    have h3 := h.mx.2
    unfold fmx at h3 ⊢
    rw [IntKind.wrap_u64]
    omega
  have two := h.two
  have hlo := mv.lo
  have hm3 : fm b < 18446744073709551616 := by have := mv.hi; have : 0 < 2 ^ fs b := Nat.pow_pos (by omega); omega
  have hpow : 2 ^ (fs b - 1) ≤ 2 ^ 62 := Nat.pow_le_pow_right (by omega) (by have := mv.s2; omega)
  by_cases e : fE b = 0
  · have h2 : fe2 b = 1 - 1023 - (fs b : Int) - 52 := by unfold fe2 fe1; rw [if_pos e]
    have hs12 := mv.sub e
    have hs63 := mv.s2
    have hns : fskew b = false := by unfold fskew; refine decide_eq_false fun h => ?_; omega
    have hmn : fmn b = fm b - 2 ^ (fs b - 1) := by unfold fmn; rw [hns]; rfl
    have hpe : fp b = -(l10 (-1074)) := by unfold fp; rw [hns, show fe2 b + (fs b : Int) = -1074 by omega]; rfl
    have hw : IntKind.u64.wrap (2 ^ (fs b - 1) : Int) = ((2 ^ (fs b - 1) : Nat) : Int) := by
      rw [show ((2 : Int) ^ (fs b - 1)) = ((2 ^ (fs b - 1) : Nat) : Int) by push_cast; rfl, IntKind.wrap_u64]
      omega
    exact short_sub (fIdx b) (rowHi (fIdx b)) (rowLo (fIdx b)) (fsc b) (fm b) (fmn b) (fmx b) (fMant b % 2) _ _ _ _ _ (fR b).1 (fe2 b) (fp b) (-1074) (fR b).2 w (fs b) (fs b - 1) (fun _ => by omega) (by omega) (by omega) (by omega) (by omega) (by omega) (by omega) (by omega) (by rw [hpe]; unfold wrap64 l10; decide) (by rw [hw, hmn, IntKind.wrap_u64]; omega) (by rw [hw]; exact y6) y7 (by omega) T U V W D E
  · have hs11 := mv.norm e
    have h2 : fe2 b = (fE b : Int) - 1086 := by unfold fe2 fe1; rw [if_neg e, hs11]; omega
    rw [hs11] at y7 y6 two htt hp
    have y7' : bits .and .i64 (wrap64 ((fm b : Int) / 2048)) 1 = ((fMant b % 2 : Nat) : Int) := y7
    have y6' : IntKind.u64.wrap ((fm b : Int) + 1024) = (fmx b : Int) := y6
    have hhi := mv.hi
    by_cases sk : fskew b = true
    · have hc : fm b = 9223372036854775808 ∧ -1085 < fe2 b := of_decide_eq_true sk
      have hmn : fmn b = fm b - 512 := by unfold fmn; rw [if_pos sk]
      have hpe : fp b = -(skw (fe2 b + 11)) := by unfold fp; rw [if_pos sk, hs11]; rfl
      exact short_skew (fIdx b) (rowHi (fIdx b)) (rowLo (fIdx b)) (fsc b) (fm b) (fmn b) (fmx b) (fMant b % 2) _ _ _ _ _ (fR b).1 (fe2 b) (fp b) (fe2 b + 11) (fR b).2 w ⟨hc.1, trivial⟩ hc.2 (by omega) rfl (by rw [← hpe]; unfold wrap64; omega) (by rw [hmn, IntKind.wrap_u64]; omega) y6' y7' (by omega) T U V W D E
    · have hmn : fmn b = fm b - 1024 := by unfold fmn; rw [if_neg sk, hs11]
      have hpe : fp b = -(l10 (fe2 b + 11)) := by unfold fp; rw [if_neg sk, hs11]; rfl
      have h0 : fm b = 9223372036854775808 → fe2 b ≤ -1085 := fun h => by
        unfold fskew at sk
        exact Int.not_lt.mp (fun h2 => sk (decide_eq_true ⟨h, h2⟩))
      exact short_norm (fIdx b) (rowHi (fIdx b)) (rowLo (fIdx b)) (fsc b) (fm b) (fmn b) (fmx b) (fMant b % 2) _ _ _ _ _ (fR b).1 (fe2 b) (fp b) (fe2 b + 11) (fR b).2 w h0 (by omega) (by omega) rfl (by rw [← hpe]; unfold wrap64; omega) (by rw [hmn, IntKind.wrap_u64]; omega) y6' y7' (by omega) T U V W D E
theorem named10 : Tryd.prog.globalNamed "internal/strconv.uint64pow10" = some 2 := by kernel_rfl
theorem tabIs_keep {w w' : World} (hT : TabP w) (hU : Lib.TabIs Tryd.prog w "internal/strconv.uint64pow10" .u64 Lib.pow10Tab) (hc : Chg Nowhere w w') : Lib.TabIs Tryd.prog w' "internal/strconv.uint64pow10" .u64 Lib.pow10Tab := by
  have hl : 3 < w.heap.size := World.block_lt_of_cell? w _ (hT 0 (by omega)).1
  exact var?_below (hc.below (Nat.le_refl _) (fun _ _ h => h.elim)) named10 (by omega) hU
theorem dsOf_len (d : Nat) : (dsOf d).length = cut (Lib.decDigits d) (Lib.nDigits d) := by
  unfold dsOf
  rw [List.length_take, Lib.decDigits_length]
  have := cut_le (Lib.decDigits d) (Lib.nDigits d)
  omega
theorem txtG_len (neg : Bool) (ds : List UInt8) (dp : Int) (h : 1 ≤ ds.length) : 1 ≤ (txtG neg ds dp).length := by
  unfold txtG txtE
  split
  · simp only [List.length_append, List.length_cons]; omega
  · split
    · simp only [List.length_append, List.length_cons]; omega
    · split
      · simp only [List.length_append, List.length_cons]; omega
      · split
        · simp only [List.length_append]; omega
        · simp only [List.length_append, List.length_cons]; omega
theorem ff15 (b : Nat) (hb : b < 18446744073709551616) (hz : fE b = 2047 ∨ fMant b ≠ 0) (w : World) (hT : TabP w) (hU : Lib.TabIs Tryd.prog w "internal/strconv.uint64pow10" .u64 Lib.pow10Tab) :
    Calls Tryd.prog 7 #[.float .f64 b, .int .u8 103, .int .i64 (-1), .int .i64 64] w (StrOut ⟨⟨ffText b⟩⟩ w) := by
  by_cases hE : fE b = 2047
  · refine ff16 b (ffText b) w ?_ fun w1 vo vc hr => ?_
    · unfold ffText; rw [if_pos hE]; split
      · split <;> decide
      · decide
    · have he := bits_E b hb
      rw [hE] at he
      by_cases hM : fM b = 0
      · cases hn : fNeg b
        · have h := ftoaOdd w w1 vo 0 vc b (fM b) (fNeg b) ⟨#[43, 73, 110, 102]⟩ [] (neg_b b hb) he (bits_M b hb) (.inr (.inr ⟨by rw [hM]; rfl, hn, rfl⟩)) (by omega) hr
          have e : ffText b = [43, 73, 110, 102] := by unfold ffText; rw [if_pos hE, if_pos hM, hn]; rfl
          rw [e]; exact h
        · have h := ftoaOdd w w1 vo 0 vc b (fM b) (fNeg b) ⟨#[45, 73, 110, 102]⟩ [] (neg_b b hb) he (bits_M b hb) (.inr (.inl ⟨by rw [hM]; rfl, hn, rfl⟩)) (by omega) hr
          have e : ffText b = [45, 73, 110, 102] := by unfold ffText; rw [if_pos hE, if_pos hM, hn]; rfl
          rw [e]; exact h
      · have h := ftoaOdd w w1 vo 0 vc b (fM b) (fNeg b) ⟨#[78, 97, 78]⟩ [] (neg_b b hb) he (bits_M b hb) (.inl ⟨by simp; omega, rfl⟩) (by omega) hr
        have e : ffText b = [78, 97, 78] := by unfold ffText; rw [if_pos hE, if_neg hM]
        rw [e]; exact h
  · have hz' : fMant b ≠ 0 := by
      rcases hz with h | h
      · exact absurd h hE
      · exact h
    have hf := fin64 b hb hE hz'
    have hs := short_sizes b hf
    have mv := hf.mv
    have hnd : Lib.nDigits (fR b).1 ≤ 19 := nDigits_le _ 19 (by have := hs.d2; omega) (by omega)
    have hE2 : fE b < 2048 := Nat.mod_lt _ (by omega)
    have e : ffText b = txtG (fNeg b) (dsOf (fR b).1) (fDp b) := by unfold ffText; rw [if_neg hE]
    rw [e]
    refine ff16 b _ w (txtG_len _ _ _ (by rw [dsOf_len]; exact cut_pos _ hs.d1)) fun w1 vo vc hr => ?_
    have hT1 := hT.keep hr.2.2
    have hU1 := tabIs_keep hT hU hr.2.2
    have h := ftoaFin w w1 vo 0 vc b (fE b) (fM b) (fMant b) (fs b) (fm b) (fR b).1 (Lib.nDigits (fR b).1) (cut (Lib.decDigits (fR b).1) (Lib.nDigits (fR b).1)) (fNeg b) [] (fe1 b) (fe2 b) (fR b).2 (fDp b)
      (neg_b b hb) (bits_E b hb) (bits_M b hb) (by simp; omega)
      (by
        by_cases h0 : fE b = 0
        · left; refine ⟨by rw [h0]; rfl, by unfold fe1; rw [if_pos h0], by unfold fMant; rw [if_pos h0]⟩
        · right; refine ⟨by simp; omega, by unfold fe1; rw [if_neg h0], by unfold fMant; rw [if_neg h0]; exact bits_orM _ (Nat.mod_lt _ (by omega))⟩)
      (by unfold fe1; split <;> omega) ⟨mv.m1, mv.m2⟩ (by have := mv.sum; omega)
      (by
        have hx := mv.hi
        have hpp : 0 < 2 ^ fs b := Nat.pow_pos (by omega)
        rw [show ((fMant b : Int) * 2 ^ fs b) = ((fm b : Nat) : Int) by unfold fm; push_cast; rfl, IntKind.wrap_u64]
        omega)
      rfl (fun w' hc => short33 b hf hE w' (hT1.keep hc)) (fun w' hc => (Tryd.internal_strconv_numDigits _ hs.d1 (by have := hs.d2; omega) w' (tabIs_keep hT1 hU1 hc)).mono fun e w'' h => ⟨h.1, h.2.symm⟩)
      rfl (by have := hs.d2; omega) (by omega) rfl (cut_pos _ hs.d1) (by have := hs.k; omega) rfl hr.1 (by omega) hr.2.1 hr.2.2
    simpa using h
end Go.Proofs.YtmlgfhdjdmfdbaaDoor
