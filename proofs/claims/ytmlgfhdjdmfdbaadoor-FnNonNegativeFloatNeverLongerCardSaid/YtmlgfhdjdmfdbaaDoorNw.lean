/-
  Proved: the text of a whole number below 1000 is no shorter than its numeral. No statement of the seat stands here.
-/
import Derived.Test.YtmlgfhdjdmfdbaaDoorNb
import Derived.Test.YtmlgfhdjdmfdbaaDoorFtO
namespace Go.Proofs.YtmlgfhdjdmfdbaaDoor
set_option linter.unusedSimpArgs false
set_option linter.unusedVariables false
set_option maxRecDepth 1000000
def chk1 (N k : Nat) : Bool := if 4503599627370496 ≤ N * 2 ^ k ∧ N * 2 ^ k < 9007199254740992 then decide (dl N ≤ (ffText ((1075 - k) * 4503599627370496 + (N * 2 ^ k - 4503599627370496))).length) else true
theorem chk_all : ((List.range 1000).all fun N => (List.range 53).all fun k => chk1 N k) = true := by decide +kernel
theorem chk_at (N k : Nat) (hN : N < 1000) (hk : k < 53) (h1 : 4503599627370496 ≤ N * 2 ^ k) (h2 : N * 2 ^ k < 9007199254740992) : dl N ≤ (ffText ((1075 - k) * 4503599627370496 + (N * 2 ^ k - 4503599627370496))).length := by
  have h := List.all_eq_true.1 (List.all_eq_true.1 chk_all N (List.mem_range.2 hN)) k (List.mem_range.2 hk)
  unfold chk1 at h
  rw [if_pos ⟨h1, h2⟩] at h
  exact of_decide_eq_true h
end Go.Proofs.YtmlgfhdjdmfdbaaDoor
