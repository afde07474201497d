/-
  Proved: fmt.Sprintf in the branch of the invalid segment. No statement of the seat stands here.
-/
import Derived.Test.YtcbmankbjgbjgaaGreatFmtTgt
import Derived.Stop.CallBack
import Derived.Stop.IfaceNil
import Derived.WalkSpells
import Derived.Stop.AnyFormat
import Derived.Stop.AnswerFmt
namespace Go.Proofs.YtcbmankbjgbjgaaGreatFmt
open Go.RowKit Go.ChangeAt
open Go.Extern.Stop Go.Stop Go.Extern
set_option linter.unusedSimpArgs false
set_option linter.unusedVariables false
set_option maxRecDepth 100000
theorem call30 (args : Array Value) (w : World) : (callFunc 30 args).run Tryz.prog w = ((FmtStop.sprintf #[9, 228] #[9] args).run Tryz.prog w).andThen fun v w' => .ok (.value v) w' :=
  run_callFunc_extern Tryz.func30 (by kernel_rfl) (by kernel_rfl) (by kernel_rfl) (by kernel_rfl) args w
theorem guardS (name : String) (w : World) : (FmtStop.guard name).run Tryz.prog w = .ok () w := by kernel_rfl
def segFmt : ByteArray := ⟨#[32, 98, 101, 99, 97, 117, 115, 101, 32, 105, 116, 32, 99, 111, 110, 116, 97, 105, 110, 115, 32, 105, 110, 118, 97, 108, 105, 100, 32, 115, 101, 103, 109, 101, 110, 116, 32, 37, 113]⟩
theorem fmtS : FmtStop.printed? segFmt 1 = some [(0, 113, false)] := by kernel_rfl
theorem fmtSr (w : World) : (FmtDoors.printed segFmt 1).run Tryz.prog w = .ok [(0, 113, false)] w := by kernel_rfl
def shape9 : List UInt8 := [12, 6, 0, 0, 0, 0, 0, 0, 0, 115, 116, 114, 105, 110, 103]
theorem op9 (name : String) (x : ByteArray) (w : World) : (FmtStop.operand name false 113 false (.iface 9 (.string x))).run Tryz.prog w = .ok (shape9, FmtStop.pack x.data.toList) w := by kernel_rfl
theorem cells1 (x : Value) (w : World) (b : Nat) (hc : w.cell? ⟨b, 0, none⟩ = some x) : (FmtStop.cells (.slice (some ⟨b, 0, none⟩) 1 1)).run Tryz.prog w = .ok [x] w := by
  unfold FmtStop.cells
  simp [go_sem, hc]
def segText (F : Interp) (x : ByteArray) : ByteArray := FmtStop.textOf (F "fmt.Sprintf" [segFmt.data.toList, shape9, FmtStop.pack x.data.toList] 0)
theorem spr30 (F : Interp) (x : ByteArray) (w : World) (b : Nat) (hF : F.answers w.tape) (hc : w.cell? ⟨b, 0, none⟩ = some (.iface 9 (.string x))) :
    (callFunc 30 #[.string segFmt, .slice (some ⟨b, 0, none⟩) 1 1]).run Tryz.prog w = .ok (.value (.string (segText F x))) w.drew := by
  have h1 := cells1 _ w b hc
  have h2 : (FmtStop.readAll "fmt.Sprintf" false [.iface 9 (.string x)] [(0, 113, false)]).run Tryz.prog w = .ok [(shape9, FmtStop.pack x.data.toList)] w := by
    simp [FmtStop.readAll, op9]
  have h3 := FmtStop.run_text (P := Tryz.prog) F "fmt.Sprintf" [segFmt.data.toList] [(shape9, FmtStop.pack x.data.toList)] w hF
  have h4 : FmtStop.printed? segFmt ([Value.iface 9 (.string x)]).length = some [(0, 113, false)] := fmtS
  rw [call30, FmtStop.sprintf_lit]
  simp only [Sem.run_bind, guardS, Result.andThen_ok, h1, h4, h2, h3]
  rfl
end Go.Proofs.YtcbmankbjgbjgaaGreatFmt
