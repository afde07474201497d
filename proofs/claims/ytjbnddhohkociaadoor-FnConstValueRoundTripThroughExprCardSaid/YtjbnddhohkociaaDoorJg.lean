/-
  Proved: contract of the law's test for numbers that must be inlined, at a number that was not. No statement of the seat stands here.
-/
import Derived.Test.YtjbnddhohkociaaDoorJf
namespace Go.Proofs.YtjbnddhohkociaaDoor
open Go.RowKit Go.ChangeAt
set_option linter.unusedSimpArgs false
set_option linter.unusedVariables false
set_option maxRecDepth 100000
theorem cmp_le {a b : Int} (h : ((some (compare a b) : Option Ordering) == some .lt || (some (compare a b) : Option Ordering) == some .eq) = true) : a ≤ b := by
  simp only [compare, compareOfLessAndEq] at h
  split at h
  · omega
  · split at h
    · omega
    · cases h
theorem cmp_ge {a b : Int} (h : ((some (compare a b) : Option Ordering) == some .gt || (some (compare a b) : Option Ordering) == some .eq) = true) : b ≤ a := by
  simp only [compare, compareOfLessAndEq] at h
  split at h
  · cases h
  · split at h
    · omega
    · omega
theorem read_lo : Ieee.double.read 14069245235905429504 = .number true 4503599627370496 1 := by decide
theorem read_hi : Ieee.double.read 4845873199050653696 = .number false 4503599627370496 1 := by decide
theorem valid53 (b : Nat) (hb : b < 18446744073709551616) (hE : fE b ≠ 2047) (c1 : (FloatKind.f64.format.order b 14069245235905429504 == some .gt || FloatKind.f64.format.order b 14069245235905429504 == some .eq) = true)
    (c2 : (FloatKind.f64.format.order b 4845873199050653696 == some .lt || FloatKind.f64.format.order b 4845873199050653696 == some .eq) = true) : ∃ n, floatToIntVal .f64 b .i64 = some n := by
  obtain ⟨s, m, e, hr, hm, he⟩ := read_fin b hb hE
  have c1' : ((Ieee.double.read b).order (Ieee.double.read 14069245235905429504) == some .gt || (Ieee.double.read b).order (Ieee.double.read 14069245235905429504) == some .eq) = true := c1
  have c2' : ((Ieee.double.read b).order (Ieee.double.read 4845873199050653696) == some .lt || (Ieee.double.read b).order (Ieee.double.read 4845873199050653696) == some .eq) = true := c2
  rw [hr, read_lo] at c1'
  rw [hr, read_hi] at c2'
  have d1 := cmp_ge c1'
  have d2 := cmp_le c2'
  have key : ∀ M : Nat, M ≤ 9007199254740992 → (FloatKind.f64.decode b).toInt .zero = some (Ieee.signed s M 0) → ∃ n, floatToIntVal .f64 b .i64 = some n := fun M hM h => by
    unfold floatToIntVal
    rw [h]
    have hb1 : IntKind.i64.min = -9223372036854775808 := by decide
    have hb2 : IntKind.i64.max = 9223372036854775807 := by decide
    refine ⟨Ieee.signed s M 0, if_pos ?_⟩
    rw [hb1, hb2]
    unfold Ieee.signed
    cases s <;> simp <;> omega
  have ht : (FloatKind.f64.decode b).toInt .zero = some (Ieee.signed s (Ieee.Toward.zero.cut s (m <<< e.toNat) (-e).toNat) 0) := by
    show (Ieee.double.read b).toInt .zero = _
    rw [hr]
    rfl
  refine key _ ?_ ht
  have hcut : Ieee.Toward.zero.cut s (m <<< e.toNat) (-e).toNat = (m <<< e.toNat) / (1 <<< min (-e).toNat ((m <<< e.toNat).log2 + 2)) := by
    simp [Ieee.Toward.cut]
  rw [hcut]
  refine Nat.le_trans (Nat.div_le_self _ _) ?_
  by_cases h0 : e ≤ 0
  · rw [show e.toNat = 0 by omega, Nat.shiftLeft_zero]; omega
  · have hmin : min e 1 = 1 := by omega
    rw [hmin] at d1 d2
    obtain ⟨k, hk⟩ : ∃ k, (e - 1).toNat = k := ⟨_, rfl⟩
    rw [hk] at d1 d2
    have hk2 : e.toNat = k + 1 := by omega
    rw [hk2, Nat.shiftLeft_succ]
    unfold Ieee.signed at d1 d2
    have z : ((1 : Int) - 1).toNat = 0 := by decide
    rw [z, Nat.shiftLeft_zero] at d1 d2
    generalize m <<< k = x at d1 d2 ⊢
    cases s
    · simp at d1 d2; omega
    · simp at d1 d2; omega
theorem ord00 : (FloatKind.f64.format.order 0 0 != some .eq) = false := by decide
set_option maxHeartbeats 2000000 in
theorem must13 (b : Nat) (hb : b < 18446744073709551616) (hN : NotInl b) (w : World) : Calls Tryd.prog 13 #[.float .f64 b] w (Same (.bool false) w) := by
  have hE := fE_le b hN.2
  have h1 : (FloatKind.f64.format.order b b != some .eq) = false := by rw [self_eq b hb hE]; rfl
  have hs : ∀ w, (binOp .sub 22 (.float .f64 b) (.float .f64 b)).run Tryd.prog w = .ok (.float .f64 0) w := fun w => run_float_arith w .sub 22 .f64 b b 0 (self_sub b hb hE)
  have h0 := ord00
  cases c1 : (FloatKind.f64.format.order b 14069245235905429504 == some .gt || FloatKind.f64.format.order b 14069245235905429504 == some .eq)
  · go_enter Tryd.func13, Tryd.ntmps13
    go_wp2_with fail
    go_ret
    exact ⟨rfl, rfl⟩
  · cases c2 : (FloatKind.f64.format.order b 4845873199050653696 == some .lt || FloatKind.f64.format.order b 4845873199050653696 == some .eq)
    · go_enter Tryd.func13, Tryd.ntmps13
      go_wp2_with fail
      go_ret
      exact ⟨rfl, rfl⟩
    · obtain ⟨n, hn⟩ := valid53 b hb hE c1 c2
      have hcv : ∀ w, (convert 22 2 (.float .f64 b)).run Tryd.prog w = .ok (.int .i64 n) w := fun w => run_convert_float_int w _ _ .f64 .i64 b n (by rw [Tryd.underlying22]; rfl) Tryd.underlying2 hn
      have hq := hN.1 n hn
      have HN := Lib.hid hN
      clear hN hn
      go_enter Tryd.func13, Tryd.ntmps13
      go_wp2_with fail
      go_ret
      exact ⟨rfl, rfl⟩
end Go.Proofs.YtjbnddhohkociaaDoor
