/-
  Proved: rows of rows of bytes as the walk takes them. No statement of the seat stands here.
-/
import Derived.Test.YtadmncfemgmioaaGreatFmtLaw
namespace Go.Proofs.YtadmncfemgmioaaGreatFmt
open Go.RowKit Go.ChangeAt
set_option linter.unusedSimpArgs false
set_option linter.unusedVariables false
theorem i32_lo {x : Int} (h : (Lit.int .i32 x).wf = true) : -2147483648 ≤ x := by
  have e1 : IntKind.i32.min = -2147483648 := rfl
  have e2 : IntKind.i32.max = 2147483647 := rfl
  simp [Lit.wf, e1, e2] at h
  omega
theorem nested_of_rows {w : World} {x : Addr} {len : Nat} {A : Nat → Option Addr} {L C : Nat → Nat} {Z : Nat → List Int}
    (h : ∀ r, r < len → w.cell? (x.add r) = some (.slice (A r) (L r) (C r)) ∧ L r ≤ C r ∧ (Z r).length = C r ∧ (∀ n ∈ Z r, (Lit.int .u8 n).wf = true) ∧ (A r = none → C r = 0) ∧ ∀ a', A r = some a' → ∀ c, c < C r → w.cell? (a'.add c) = some (.int .u8 ((Z r).getD c 0))) :
    ∃ X, Nested w (some x) len X A C := by
  refine ⟨fun r => (List.range (L r)).map fun i => UInt8.ofNat ((Z r).getD i 0).toNat, reads_of_cells fun i hi => ?_, fun i hi => ?_⟩
  · have hh := (h i hi).1
    simpa using hh
  · obtain ⟨_, h2, h3, h4, h5, h6⟩ := h i hi
    cases ha : A i with
    | none =>
      left
      have := h5 ha
      simp
      omega
    | some a' =>
      refine reads_of_cells fun j hj => ?_
      simp at hj
      have hc := h6 a' ha j (by omega)
      have e1 : IntKind.u8.min = 0 := rfl
      have e2 : IntKind.u8.max = 255 := rfl
      have hz : 0 ≤ (Z i).getD j 0 ∧ (Z i).getD j 0 ≤ 255 := by
        have hm : (Z i).getD j 0 ∈ Z i := by
          rw [List.getD_eq_getElem?_getD, List.getElem?_eq_getElem (by omega)]
          exact List.getElem_mem _
        have hw := h4 _ hm
        simpa only [Lit.wf, e1, e2, Bool.and_eq_true, decide_eq_true_eq] using hw
      have e : ((byteOf ((List.range (L i)).map fun q => UInt8.ofNat ((Z i).getD q 0).toNat) j : Nat) : Int) = (Z i).getD j 0 := by
        unfold byteOf
        rw [List.getD_eq_getElem?_getD, List.getElem?_map, List.getElem?_range hj]
        simp only [Option.map_some, Option.getD_some, UInt8.toNat_ofNat']
        omega
      unfold byteAt
      rw [e]
      exact hc
end Go.Proofs.YtadmncfemgmioaaGreatFmt
