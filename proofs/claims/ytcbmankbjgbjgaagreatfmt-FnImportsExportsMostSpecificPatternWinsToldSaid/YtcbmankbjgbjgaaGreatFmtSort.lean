/-
  Proved: sort.Stable at an empty slice of expansion keys; the entry of a string. No statement of the seat stands here.
-/
import Derived.Test.YtcbmankbjgbjgaaGreatFmtHelp
namespace Go.Proofs.YtcbmankbjgbjgaaGreatFmt
open Go.RowKit Go.ChangeAt
set_option linter.unusedSimpArgs false
set_option linter.unusedVariables false
set_option maxRecDepth 100000
def NoneOut (w : World) (e : Ending) (w' : World) : Prop := e = .returned (.tuple #[]) ∧ w = w'
theorem results_no {fn : Func} (h : fn.results = #[]) (tmps : Array Value) (P : Program) (w : World) : (results fn tmps).run P w = .ok (.tuple #[]) w := by simp [results, h]
theorem ins54 (v : Value) (w : World) : Calls Tryz.prog 54 #[v, .int .i64 0, .int .i64 0] w (NoneOut w) := by
  go_enter Tryz.func54, Tryz.ntmps54
  go_wp2_with fail
  go_loop [6] (fun i => i = .int .i64 1) (fun _ => 0)
  case atStart => rfl
  case round =>
    subst hrel
    go_wp2_with fail
    refine bodyPost_ret (v := .tuple #[]) (results_no (by rfl) _ _ _) rfl ⟨rfl, rfl⟩
theorem stable43 (v : Value) (w : World) : Calls Tryz.prog 43 #[v, .int .i64 0] w (NoneOut w) := by
  go_enter Tryz.func43, Tryz.ntmps43
  go_wp2_with fail
  go_loop [5, 6] (fun i j => i = .int .i64 0 ∧ j = .int .i64 20) (fun _ _ => 0)
  case atStart => exact ⟨rfl, rfl⟩
  case round =>
    obtain ⟨rfl, rfl⟩ := hrel
    go_wp2_with fail
    refine (ins54 v w).mono ?_
    rintro e1 w1 ⟨rfl, rfl⟩
    go_wp2_with fail
    go_loop [4] (fun i => i = .int .i64 20) (fun _ => 0)
    case atStart => rfl
    case round =>
      subst hrel
      go_wp2_with fail
      refine bodyPost_ret (v := .tuple #[]) (results_no (by rfl) _ _ _) rfl ⟨rfl, rfl⟩
theorem len56 (a : Option Addr) (n c : Nat) (w : World) : (method 703 56 (.slice a n c) "Len").run Tryz.prog w = .ok (107, .slice a n c) w := by kernel_rfl
theorem len107 (a : Option Addr) (n c : Nat) (w : World) : Calls Tryz.prog 107 #[.slice a n c] w (fun e w' => e = .returned (.int .i64 n) ∧ w = w') := by
  go_enter Tryz.func107, Tryz.ntmps107
  go_wp2_with fail
  go_ret
  exact ⟨rfl, rfl⟩
theorem sort31 (a : Option Addr) (c : Nat) (w : World) : Calls Tryz.prog 31 #[.iface 56 (.slice a 0 c)] w (NoneOut w) := by
  have hm := len56 a 0 c w
  go_enter Tryz.func31, Tryz.ntmps31
  go_wp2_with fail
  refine (len107 a 0 c w).mono ?_
  rintro e1 w1 ⟨rfl, rfl⟩
  go_wp2_with fail
  refine (stable43 _ w).mono ?_
  rintro e2 w2 ⟨rfl, rfl⟩
  go_wp2_with fail
  first
    | exact bodyPost_ret (v := .tuple #[]) (results_no (by rfl) _ _ _) rfl ⟨rfl, rfl⟩
    | exact bodyPost_end (v := .tuple #[]) (results_no (by rfl) _ _ _) rfl ⟨rfl, rfl⟩
theorem entry24 (t : ByteArray) (w : World) : Calls Tryz.prog 24 #[.string t] w (fun e w' => e = .returned (.agg (sent t)) ∧ Chg Nowhere w w') := by
  go_enter Tryz.func24, Tryz.ntmps24
  go_wp2_with fail
  refine bodyPost_ret (v := .agg (sent t)) ?_ rfl ⟨rfl, (Chg.refl _ w).alloc _⟩
  exact (results_c (p := 2) (ty := 59) (by rfl) _ _ _ w.heap.size (.agg (sent t)) (by rfl) (load59 (heap_at w _ _ rfl) (by rfl))).trans (by rfl)
end Go.Proofs.YtcbmankbjgbjgaaGreatFmt
