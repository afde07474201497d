/-
  Proved: contract of isWS; how the signatures' methods are found. No statement of the seat stands here.
-/
import Derived.Test.YtflpmhjfchpplaaDoorMatc
namespace Go.Proofs.YtflpmhjfchpplaaDoor
open Go.RowKit Go.ChangeAt
set_option linter.unusedSimpArgs false
set_option linter.unusedVariables false
set_option maxRecDepth 100000
def wsN (x : Nat) : Bool := x == 9 || x == 10 || x == 12 || x == 13 || x == 32
def BoolIs (r : Bool) (w : World) (e : Ending) (w' : World) : Prop := e = .returned (.bool r) ∧ w = w'
theorem ws15 (x : Nat) (w : World) : Calls Tryd.prog 15 #[.int .u8 x] w (BoolIs (wsN x) w) := by
  obtain ⟨r, hr⟩ : ∃ r, r = wsN x := ⟨_, rfl⟩
  rw [← hr]
  unfold wsN at hr
  by_cases h : x = 9 ∨ x = 10 ∨ x = 12 ∨ x = 13 ∨ x = 32
  · have hr2 : r = true := by rw [hr]; rcases h with rfl | rfl | rfl | rfl | rfl <;> rfl
    subst hr2
    clear hr
    rcases h with rfl | rfl | rfl | rfl | rfl
    all_goals (
      go_enter Tryd.func15, Tryd.ntmps15
      go_wp2_with fail
      go_ret
      exact ⟨rfl, rfl⟩)
  · have e1 : ((x : Int) == 9) = false := by simp; omega
    have e2 : ((x : Int) == 10) = false := by simp; omega
    have e3 : ((x : Int) == 12) = false := by simp; omega
    have e4 : ((x : Int) == 13) = false := by simp; omega
    have e5 : ((x : Int) == 32) = false := by simp; omega
    have hr2 : r = false := by rw [hr]; simp; omega
    subst hr2
    clear hr h
    go_enter Tryd.func15, Tryd.ntmps15
    go_wp2_with fail
    go_ret
    exact ⟨rfl, rfl⟩
end Go.Proofs.YtflpmhjfchpplaaDoor
