/-
  Proved: contract of ExprToConstValue at a number. No statement of the seat stands here.
-/
import Derived.Test.YtgfeaejpleppkaaDoorFtO
import Derived.Laws.FloatArith
namespace Go.Proofs.YtgfeaejpleppkaaDoor
open Go.RowKit Go.ChangeAt
set_option linter.unusedSimpArgs false
set_option linter.unusedVariables false
set_option maxRecDepth 100000
theorem conv_any (src dst : TypeId) (P : Program) (b : Nat) (w : World) (hs : P.underlying src = some (.float .f64)) (hd : P.underlying dst = some (.int .i64)) (h : floatToIntVal .f64 b .i64 = none) :
    ∃ n : Int, (convert src dst (.float .f64 b)).run P w = .ok (.int .i64 n) w.drew := by
  unfold floatToIntVal at h
  have key : (convert src dst (.float .f64 b)).run P w = (Conv.floatToInt .f64 b .i64).run P w := by
    simp [convert, run_underlying hs, run_underlying hd]
  rw [key]
  unfold Conv.floatToInt
  split at h
  · rename_i m he
    split at h
    · cases h
    · rename_i hb
      simp only [he, if_neg hb]
      simp [choose, Sem.run, Question.forced]
  · rename_i he
    simp only [he]
    simp [choose, Sem.run, Question.forced]
/-- Type assertions. -/
theorem ta_hit (T : TypeId) (p : Option Addr) (w : World) (h : T = 46 ∨ T = 47 ∨ T = 48 ∨ T = 51 ∨ T = 55 ∨ T = 58) :
    (Instr.typeAssert (.iface T (.pointer p)) 29 T true).run Tryd.prog w = .ok (.tuple #[.pointer p, .bool true]) w := by
  rcases h with rfl | rfl | rfl | rfl | rfl | rfl <;> kernel_rfl
end Go.Proofs.YtgfeaejpleppkaaDoor
