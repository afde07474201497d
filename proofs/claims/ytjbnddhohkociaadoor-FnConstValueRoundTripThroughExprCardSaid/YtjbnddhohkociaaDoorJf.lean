/-
  Proved: contracts of the law's helpers. No statement of the seat stands here.
-/
import Derived.Test.YtjbnddhohkociaaDoorJe
namespace Go.Proofs.YtjbnddhohkociaaDoor
open Go.RowKit Go.ChangeAt
set_option linter.unusedSimpArgs false
set_option linter.unusedVariables false
set_option maxRecDepth 100000
theorem eqNil (a : Option Addr) (n c : Nat) (w : World) : (binOp .eql 23 (.slice a n c) (.slice none 0 0)).run Tryd.prog w = .ok (.bool a.isNone) w := Lib.run_eql_slice_nil w 23 43 a n c 0 0 Tryd.underlying23
theorem isZero10 (w : World) : Calls Tryd.prog 10 #[.agg cvZero] w (fun e w' => e = .returned (.bool true) ∧ Chg Nowhere w w') := by
  have h1 := eqNil none 0 0
  unfold cvZero
  go_enter Tryd.func10, Tryd.ntmps10
  go_wp2_with fail
  refine (sameF12 0 _).mono ?_
  rintro e1 w1 ⟨rfl, rfl⟩
  go_wp2_with fail
  go_ret
  exact ⟨rfl, (Chg.refl _ w).alloc _⟩
theorem fE_le (b : Nat) (h : 8 < (ffText b).length) : fE b ≠ 2047 := fun he => by
  unfold ffText at h
  rw [if_pos he] at h
  split at h
  · split at h <;> simp at h
  · simp at h
/-- A finite number, read. -/
theorem read_fin (b : Nat) (hb : b < 18446744073709551616) (h : fE b ≠ 2047) : ∃ s m e, Ieee.double.read b = .number s m e ∧ m < 9007199254740992 ∧ -1074 ≤ e := by
  have hE : fE b < 2048 := Nat.mod_lt _ (by omega)
  have h1 : Ieee.double.signWeight = 9223372036854775808 := by decide
  have h2 : Ieee.double.binade = 4503599627370496 := by decide
  have h3 : Ieee.double.infRung = 9218868437227405312 := by decide
  have h4 : Ieee.double.leastPlace = -1074 := by decide
  unfold Ieee.Format.read
  rw [h1, h2, h3, h4]
  have hr : b % 9223372036854775808 < 9218868437227405312 := by
    unfold fE at h hE
    omega
  dsimp only
  split
  · exact ⟨_, _, _, rfl, by omega, by omega⟩
  · exact ⟨_, _, _, rfl, by have : b % 9223372036854775808 % 4503599627370496 < 4503599627370496 := Nat.mod_lt _ (by omega); omega, by omega⟩
theorem self_eq (b : Nat) (hb : b < 18446744073709551616) (h : fE b ≠ 2047) : FloatKind.f64.format.order b b = some .eq := by
  obtain ⟨s, m, e, hr, _⟩ := read_fin b hb h
  show (Ieee.double.read b).order (Ieee.double.read b) = some .eq
  rw [hr]
  simp [Ieee.Datum.order, compare, compareOfLessAndEq]
theorem self_sub (b : Nat) (hb : b < 18446744073709551616) (h : fE b ≠ 2047) : floatBits .sub .f64 b b = some 0 := by
  obtain ⟨s, m, e, hr, _⟩ := read_fin b hb h
  show ((Ieee.double.read b).sum (Ieee.double.read b).opposite).map Ieee.double.write = some 0
  rw [hr]
  have ht : Ieee.signed s m (e - min e e).toNat + Ieee.signed (!s) m (e - min e e).toNat = 0 := by
    unfold Ieee.signed
    cases s <;> simp <;> omega
  simp only [Ieee.Datum.opposite, Ieee.Datum.sum, ht, Option.map_some, Ieee.Format.write]
  cases s <;> simp [Ieee.Format.nearest, Ieee.Format.word]
end Go.Proofs.YtjbnddhohkociaaDoor
