/-
  Proved: facts on floats and contracts of the law's float helpers. No statement of the seat stands here.
-/
import Derived.Test.YtgfeaejpleppkaaDoorQc
namespace Go.Proofs.YtgfeaejpleppkaaDoor
open Go.RowKit Go.ChangeAt
set_option linter.unusedSimpArgs false
set_option linter.unusedVariables false
set_option maxRecDepth 100000
theorem order_self (b : Nat) : FloatKind.f64.format.order b b = some .eq ∨ FloatKind.f64.format.order b b = none := by
  show Ieee.double.order b b = some .eq ∨ Ieee.double.order b b = none
  unfold Ieee.Format.order
  cases Ieee.double.read b with
  | number s m e => left; simp [Ieee.Datum.order, compare, compareOfLessAndEq]
  | infinity s => left; simp [Ieee.Datum.order, compare, compareOfLessAndEq]
  | nan s f => right; rfl
theorem cmp_eq {a b : Int} (h : compare a b = .eq) : a = b := by
  simp only [compare, compareOfLessAndEq] at h
  split at h
  · cases h
  · split at h
    · assumption
    · cases h
theorem read_zero : Ieee.double.read 0 = .number false 0 (-1074) := by decide
theorem read_one : Ieee.double.read 4607182418800017408 = .number false 4503599627370496 (-52) := by decide
theorem zero_of_eq (b : Nat) (h : FloatKind.f64.format.order b 0 = some .eq) : ∃ s e, Ieee.double.read b = .number s 0 e := by
  have h' : (Ieee.double.read b).order (Ieee.double.read 0) = some .eq := h
  rw [read_zero] at h'
  cases hr : Ieee.double.read b with
  | number s m e =>
    rw [hr] at h'
    simp only [Ieee.Datum.order, Option.some.injEq] at h'
    have h2 := cmp_eq h'
    refine ⟨s, e, ?_⟩
    have hm : m = 0 := by
      simp only [Ieee.signed, Nat.zero_shiftLeft, Bool.false_eq_true, if_false] at h2
      have h3 : (m <<< (e - min e (-1074)).toNat : Nat) = 0 := by
        split at h2 <;> omega
      rw [Nat.shiftLeft_eq] at h3
      rcases Nat.mul_eq_zero.1 h3 with h4 | h4
      · exact h4
      · have := Nat.pow_pos (n := (e - min e (-1074)).toNat) (show 0 < 2 by omega); omega
    rw [hm]
  | infinity s => rw [hr] at h'; cases s <;> cases h'
  | nan s f => rw [hr] at h'; cases h'
theorem quo_one (b : Nat) (h : FloatKind.f64.format.order b 0 = some .eq) : ∃ r, floatBits .quo .f64 4607182418800017408 b = some r := by
  obtain ⟨s, e, hr⟩ := zero_of_eq b h
  show ∃ r, ((Ieee.double.read 4607182418800017408).quotient _ (Ieee.double.read b)).map Ieee.double.write = some r
  rw [hr, read_one]
  exact ⟨_, rfl⟩
theorem sameF12 (b : Nat) (w : World) : Calls Tryd.prog 8 #[.float .f64 b, .float .f64 b] w (Same (.bool true) w) := by
  rcases order_self b with h | h
  · have h1 : (FloatKind.f64.format.order b b != some .eq) = false := by rw [h]; rfl
    have h2 : (FloatKind.f64.format.order b b == some .eq) = true := by rw [h]; rfl
    cases hz : (FloatKind.f64.format.order b 0 == some .eq)
    · clear h
      go_enter Tryd.func8, Tryd.ntmps8
      go_wp2_with fail
      go_ret
      exact ⟨rfl, rfl⟩
    · have hz2 : FloatKind.f64.format.order b 0 = some .eq := by simpa using hz
      have hz3 : (FloatKind.f64.format.order b 0 != some .eq) = false := by rw [hz2]; rfl
      obtain ⟨r, hr⟩ := quo_one b hz2
      have hq : ∀ w, (binOp .quo 22 (.float .f64 4607182418800017408) (.float .f64 b)).run Tryd.prog w = .ok (.float .f64 r) w := fun w => run_float_arith w .quo 22 .f64 _ b r hr
      clear h hz2 hr
      go_enter Tryd.func8, Tryd.ntmps8
      go_wp2_with fail
      go_ret
      exact ⟨by simp, rfl⟩
  · have h1 : (FloatKind.f64.format.order b b != some .eq) = true := by rw [h]; rfl
    clear h
    go_enter Tryd.func8, Tryd.ntmps8
    go_wp2_with fail
    go_ret
    exact ⟨rfl, rfl⟩
end Go.Proofs.YtgfeaejpleppkaaDoor
