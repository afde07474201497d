/-
  Proved: contracts of css_lexer.IsNameStart and IsNameContinue at every rune. No statement of the seat stands here.
-/
import Derived.Test.YtgfiigonjleeeaaFmtZz
namespace Go.Proofs.YtgfiigonjleeeaaFmt
open Go.RowKit Go.ChangeAt
set_option linter.unusedSimpArgs false
set_option linter.unusedVariables false
set_option maxRecDepth 100000
def BoolOut (r : Bool) (w : World) (e : Ending) (w' : World) : Prop := e = .returned (.bool r) ∧ w = w'
def isStart (c : Nat) : Bool := decide ((97 ≤ c ∧ c ≤ 122) ∨ (65 ≤ c ∧ c ≤ 90) ∨ c = 95 ∨ 128 ≤ c ∨ c = 0)
def isCont (c : Nat) : Bool := decide (isStart c = true ∨ (48 ≤ c ∧ c ≤ 57) ∨ c = 45)
theorem start_any (c : Nat) (w : World) : Calls Tryf.prog 43 #[.int .i32 c] w (BoolOut (isStart c) w) := by
  have hpart : (0 ≤ c ∧ c ≤ 0) ∨ (1 ≤ c ∧ c ≤ 64) ∨ (65 ≤ c ∧ c ≤ 90) ∨ (91 ≤ c ∧ c ≤ 94) ∨ (95 ≤ c ∧ c ≤ 95) ∨ (96 ≤ c ∧ c ≤ 96) ∨ (97 ≤ c ∧ c ≤ 122) ∨ (123 ≤ c ∧ c ≤ 127) ∨ (128 ≤ c) := by omega
  rcases hpart with h | h | h | h | h | h | h | h | h
  · have e0 : ((97 : Int) ≤ (c : Int)) = False := eq_false (by omega)
    have e1 : ((c : Int) ≤ 122) = True := eq_true (by omega)
    have e2 : ((65 : Int) ≤ (c : Int)) = False := eq_false (by omega)
    have e3 : ((c : Int) ≤ 90) = True := eq_true (by omega)
    have e4 : ((c : Int) == 95) = false := by simp; omega
    have e5 : ((128 : Int) ≤ (c : Int)) = False := eq_false (by omega)
    have e6 : ((c : Int) == 0) = true := by simp; omega
    have hv : isStart c = true := decide_eq_true (by omega)
    rw [hv]
    go_enter Tryf.func43, Tryf.ntmps43
    go_wp2
    go_ret
    exact ⟨rfl, rfl⟩
  · have e0 : ((97 : Int) ≤ (c : Int)) = False := eq_false (by omega)
    have e1 : ((c : Int) ≤ 122) = True := eq_true (by omega)
    have e2 : ((65 : Int) ≤ (c : Int)) = False := eq_false (by omega)
    have e3 : ((c : Int) ≤ 90) = True := eq_true (by omega)
    have e4 : ((c : Int) == 95) = false := by simp; omega
    have e5 : ((128 : Int) ≤ (c : Int)) = False := eq_false (by omega)
    have e6 : ((c : Int) == 0) = false := by simp; omega
    have hv : isStart c = false := decide_eq_false (by omega)
    rw [hv]
    go_enter Tryf.func43, Tryf.ntmps43
    go_wp2
    go_ret
    exact ⟨rfl, rfl⟩
  · have e0 : ((97 : Int) ≤ (c : Int)) = False := eq_false (by omega)
    have e1 : ((c : Int) ≤ 122) = True := eq_true (by omega)
    have e2 : ((65 : Int) ≤ (c : Int)) = True := eq_true (by omega)
    have e3 : ((c : Int) ≤ 90) = True := eq_true (by omega)
    have e4 : ((c : Int) == 95) = false := by simp; omega
    have e5 : ((128 : Int) ≤ (c : Int)) = False := eq_false (by omega)
    have e6 : ((c : Int) == 0) = false := by simp; omega
    have hv : isStart c = true := decide_eq_true (by omega)
    rw [hv]
    go_enter Tryf.func43, Tryf.ntmps43
    go_wp2
    go_ret
    exact ⟨rfl, rfl⟩
  · have e0 : ((97 : Int) ≤ (c : Int)) = False := eq_false (by omega)
    have e1 : ((c : Int) ≤ 122) = True := eq_true (by omega)
    have e2 : ((65 : Int) ≤ (c : Int)) = True := eq_true (by omega)
    have e3 : ((c : Int) ≤ 90) = False := eq_false (by omega)
    have e4 : ((c : Int) == 95) = false := by simp; omega
    have e5 : ((128 : Int) ≤ (c : Int)) = False := eq_false (by omega)
    have e6 : ((c : Int) == 0) = false := by simp; omega
    have hv : isStart c = false := decide_eq_false (by omega)
    rw [hv]
    go_enter Tryf.func43, Tryf.ntmps43
    go_wp2
    go_ret
    exact ⟨rfl, rfl⟩
  · have e0 : ((97 : Int) ≤ (c : Int)) = False := eq_false (by omega)
    have e1 : ((c : Int) ≤ 122) = True := eq_true (by omega)
    have e2 : ((65 : Int) ≤ (c : Int)) = True := eq_true (by omega)
    have e3 : ((c : Int) ≤ 90) = False := eq_false (by omega)
    have e4 : ((c : Int) == 95) = true := by simp; omega
    have e5 : ((128 : Int) ≤ (c : Int)) = False := eq_false (by omega)
    have e6 : ((c : Int) == 0) = false := by simp; omega
    have hv : isStart c = true := decide_eq_true (by omega)
    rw [hv]
    go_enter Tryf.func43, Tryf.ntmps43
    go_wp2
    go_ret
    exact ⟨rfl, rfl⟩
  · have e0 : ((97 : Int) ≤ (c : Int)) = False := eq_false (by omega)
    have e1 : ((c : Int) ≤ 122) = True := eq_true (by omega)
    have e2 : ((65 : Int) ≤ (c : Int)) = True := eq_true (by omega)
    have e3 : ((c : Int) ≤ 90) = False := eq_false (by omega)
    have e4 : ((c : Int) == 95) = false := by simp; omega
    have e5 : ((128 : Int) ≤ (c : Int)) = False := eq_false (by omega)
    have e6 : ((c : Int) == 0) = false := by simp; omega
    have hv : isStart c = false := decide_eq_false (by omega)
    rw [hv]
    go_enter Tryf.func43, Tryf.ntmps43
    go_wp2
    go_ret
    exact ⟨rfl, rfl⟩
  · have e0 : ((97 : Int) ≤ (c : Int)) = True := eq_true (by omega)
    have e1 : ((c : Int) ≤ 122) = True := eq_true (by omega)
    have e2 : ((65 : Int) ≤ (c : Int)) = True := eq_true (by omega)
    have e3 : ((c : Int) ≤ 90) = False := eq_false (by omega)
    have e4 : ((c : Int) == 95) = false := by simp; omega
    have e5 : ((128 : Int) ≤ (c : Int)) = False := eq_false (by omega)
    have e6 : ((c : Int) == 0) = false := by simp; omega
    have hv : isStart c = true := decide_eq_true (by omega)
    rw [hv]
    go_enter Tryf.func43, Tryf.ntmps43
    go_wp2
    go_ret
    exact ⟨rfl, rfl⟩
  · have e0 : ((97 : Int) ≤ (c : Int)) = True := eq_true (by omega)
    have e1 : ((c : Int) ≤ 122) = False := eq_false (by omega)
    have e2 : ((65 : Int) ≤ (c : Int)) = True := eq_true (by omega)
    have e3 : ((c : Int) ≤ 90) = False := eq_false (by omega)
    have e4 : ((c : Int) == 95) = false := by simp; omega
    have e5 : ((128 : Int) ≤ (c : Int)) = False := eq_false (by omega)
    have e6 : ((c : Int) == 0) = false := by simp; omega
    have hv : isStart c = false := decide_eq_false (by omega)
    rw [hv]
    go_enter Tryf.func43, Tryf.ntmps43
    go_wp2
    go_ret
    exact ⟨rfl, rfl⟩
  · have e0 : ((97 : Int) ≤ (c : Int)) = True := eq_true (by omega)
    have e1 : ((c : Int) ≤ 122) = False := eq_false (by omega)
    have e2 : ((65 : Int) ≤ (c : Int)) = True := eq_true (by omega)
    have e3 : ((c : Int) ≤ 90) = False := eq_false (by omega)
    have e4 : ((c : Int) == 95) = false := by simp; omega
    have e5 : ((128 : Int) ≤ (c : Int)) = True := eq_true (by omega)
    have e6 : ((c : Int) == 0) = false := by simp; omega
    have hv : isStart c = true := decide_eq_true (by omega)
    rw [hv]
    go_enter Tryf.func43, Tryf.ntmps43
    go_wp2
    go_ret
    exact ⟨rfl, rfl⟩
theorem cont_any (c : Nat) (w : World) : Calls Tryf.prog 25 #[.int .i32 c] w (BoolOut (isCont c) w) := by
  have hpart : (0 ≤ c ∧ c ≤ 44) ∨ (45 ≤ c ∧ c ≤ 45) ∨ (46 ≤ c ∧ c ≤ 47) ∨ (48 ≤ c ∧ c ≤ 57) ∨ (58 ≤ c) := by omega
  rcases hpart with h | h | h | h | h
  · have e0 : ((48 : Int) ≤ (c : Int)) = False := eq_false (by omega)
    have e1 : ((c : Int) ≤ 57) = True := eq_true (by omega)
    have e2 : ((c : Int) == 45) = false := by simp; omega
    have hs := start_any c w
    have hv : ∀ r : Bool, isStart c = r → isCont c = r := fun r hr => by
      subst hr; unfold isCont; cases hq : isStart c <;> simp <;> omega
    generalize hr : isStart c = r at hs
    rw [hv r hr]
    clear hv hr
    go_enter Tryf.func25, Tryf.ntmps25
    go_wp2_with fail
    refine hs.mono ?_
    rintro ex w1 ⟨rfl, rfl⟩
    cases r <;> (go_wp2_with fail; go_ret; exact ⟨rfl, rfl⟩)
  · have e0 : ((48 : Int) ≤ (c : Int)) = False := eq_false (by omega)
    have e1 : ((c : Int) ≤ 57) = True := eq_true (by omega)
    have e2 : ((c : Int) == 45) = true := by simp; omega
    have hs := start_any c w
    have hv : ∀ r : Bool, isStart c = r → isCont c = true := fun r hr => by
      exact decide_eq_true (by omega)
    generalize hr : isStart c = r at hs
    rw [hv r hr]
    clear hv hr
    go_enter Tryf.func25, Tryf.ntmps25
    go_wp2_with fail
    refine hs.mono ?_
    rintro ex w1 ⟨rfl, rfl⟩
    cases r <;> (go_wp2_with fail; go_ret; exact ⟨rfl, rfl⟩)
  · have e0 : ((48 : Int) ≤ (c : Int)) = False := eq_false (by omega)
    have e1 : ((c : Int) ≤ 57) = True := eq_true (by omega)
    have e2 : ((c : Int) == 45) = false := by simp; omega
    have hs := start_any c w
    have hv : ∀ r : Bool, isStart c = r → isCont c = r := fun r hr => by
      subst hr; unfold isCont; cases hq : isStart c <;> simp <;> omega
    generalize hr : isStart c = r at hs
    rw [hv r hr]
    clear hv hr
    go_enter Tryf.func25, Tryf.ntmps25
    go_wp2_with fail
    refine hs.mono ?_
    rintro ex w1 ⟨rfl, rfl⟩
    cases r <;> (go_wp2_with fail; go_ret; exact ⟨rfl, rfl⟩)
  · have e0 : ((48 : Int) ≤ (c : Int)) = True := eq_true (by omega)
    have e1 : ((c : Int) ≤ 57) = True := eq_true (by omega)
    have e2 : ((c : Int) == 45) = false := by simp; omega
    have hs := start_any c w
    have hv : ∀ r : Bool, isStart c = r → isCont c = true := fun r hr => by
      exact decide_eq_true (by omega)
    generalize hr : isStart c = r at hs
    rw [hv r hr]
    clear hv hr
    go_enter Tryf.func25, Tryf.ntmps25
    go_wp2_with fail
    refine hs.mono ?_
    rintro ex w1 ⟨rfl, rfl⟩
    cases r <;> (go_wp2_with fail; go_ret; exact ⟨rfl, rfl⟩)
  · have e0 : ((48 : Int) ≤ (c : Int)) = True := eq_true (by omega)
    have e1 : ((c : Int) ≤ 57) = False := eq_false (by omega)
    have e2 : ((c : Int) == 45) = false := by simp; omega
    have hs := start_any c w
    have hv : ∀ r : Bool, isStart c = r → isCont c = r := fun r hr => by
      subst hr; unfold isCont; cases hq : isStart c <;> simp <;> omega
    generalize hr : isStart c = r at hs
    rw [hv r hr]
    clear hv hr
    go_enter Tryf.func25, Tryf.ntmps25
    go_wp2_with fail
    refine hs.mono ?_
    rintro ex w1 ⟨rfl, rfl⟩
    cases r <;> (go_wp2_with fail; go_ret; exact ⟨rfl, rfl⟩)
end Go.Proofs.YtgfiigonjleeeaaFmt
