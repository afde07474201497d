/-
  Proved: fmt.Sprintf of a rune in hexadecimal at this program; its text where it is told. No statement of the seat stands here.
-/
import Derived.Test.YtgfiigonjleeeaaFmtSlash
import Derived.Stop.AnswerFmt
import Derived.Stop.FmtTextBases
import Derived.Stop.JoinedTold
import Derived.Stop.Texts
namespace Go.Proofs.YtgfiigonjleeeaaFmt
open Go.RowKit Go.ChangeAt
open Go.Extern.Stop Go.Stop Go.Extern
set_option linter.unusedSimpArgs false
set_option linter.unusedVariables false
set_option maxRecDepth 100000
theorem call45 (args : Array Value) (w : World) : (callFunc 45 args).run Tryf.prog w = ((FmtStop.sprintf #[9, 218] #[9] args).run Tryf.prog w).andThen fun v w' => .ok (.value v) w' :=
  run_callFunc_extern Tryf.func45 (by kernel_rfl) (by kernel_rfl) (by kernel_rfl) (by kernel_rfl) args w
theorem guardS (name : String) (w : World) : (FmtStop.guard name).run Tryf.prog w = .ok () w := by kernel_rfl
theorem fmtS : FmtStop.printed? hexFmt 1 = some [(0, 120, false)] := by kernel_rfl
theorem op21 (name : String) (c : Int) (w : World) : (FmtStop.operand name false 120 false (.iface 21 (.int .i32 c))).run Tryf.prog w = .ok (shape21, digits 8 (c % 2 ^ 64).toNat) w := by kernel_rfl
theorem cells1 (x : Value) (w : World) (b : Nat) (hc : w.cell? ⟨b, 0, none⟩ = some x) : (FmtStop.cells (.slice (some ⟨b, 0, none⟩) 1 1)).run Tryf.prog w = .ok [x] w := by
  unfold FmtStop.cells
  simp [go_sem, hc]
theorem spr45 (F : Interp) (c : Nat) (hc : c ≤ 1114111) (w : World) (b : Nat) (hF : F.answers w.tape) (hx : w.cell? ⟨b, 0, none⟩ = some (.iface 21 (.int .i32 (c : Int)))) :
    (callFunc 45 #[.string hexFmt, .slice (some ⟨b, 0, none⟩) 1 1]).run Tryf.prog w = .ok (.value (.string (hexS F c))) w.drew := by
  have h1 := cells1 _ w b hx
  have e : ((c : Int) % 2 ^ 64).toNat = c := by omega
  have h2 : (FmtStop.readAll "fmt.Sprintf" false [.iface 21 (.int .i32 (c : Int))] [(0, 120, false)]).run Tryf.prog w = .ok [(shape21, digits 8 c)] w := by
    have h5 := fun w => op21 "fmt.Sprintf" (c : Int) w
    rw [e] at h5
    simp [FmtStop.readAll, h5]
  have h3 := FmtStop.run_text (P := Tryf.prog) F "fmt.Sprintf" [hexFmt.data.toList] [(shape21, digits 8 c)] w hF
  have h4 : FmtStop.printed? hexFmt ([Value.iface 21 (.int .i32 (c : Int))]).length = some [(0, 120, false)] := fmtS
  rw [call45, FmtStop.sprintf_lit]
  simp only [Sem.run_bind, guardS, Result.andThen_ok, h1, h4, h2, h3]
  rfl
theorem t_parse : (FmtText.parse hexFmt.data.toList).map FmtText.glue = some [.lit [92], .verb {} 120] := by rfl
theorem hex_text (c : Nat) (hc : c ≤ 1114111) : FmtText.text "fmt.Sprintf" [hexFmt.data.toList, shape21, digits 8 c] = some (92 :: FmtText.inBase 16 false (c : Int)) := by
  have hw : (Lit.int .i32 (c : Int)).wf = true := by
    have e1 : IntKind.i32.min = -2147483648 := rfl
    have e2 : IntKind.i32.max = 2147483647 := rfl
    simp [Lit.wf, e1, e2]
    omega
  have e : ((c : Int) % 18446744073709551616).toNat = c := by omega
  have hi := FmtText.operand_int_at (sh := shape21) (k := .i32) rfl rfl (c : Int) hw
  rw [e] at hi
  have hp := FmtText.printArg_x false [105, 110, 116, 51, 50] hw
  rw [e] at hp
  rw [FmtText.text_sprintf_glued t_parse (FmtText.operands_cons hi FmtText.operands_nil)]
  simp [FmtText.render, hp]
theorem hex_ok (F : Interp) : HexOk F.told := by
  have ht : ∀ c, c ≤ 1114111 → (hexS F.told c).data.toList = 92 :: FmtText.inBase 16 false (c : Int) := fun c hc => by
    have h := told_string F (hex_text c hc) (by have := FmtText.inBase_length_le 16 false (c : Int); simp; omega)
    have h2 : (hexS F.told c).data.toList = F.told.string "fmt.Sprintf" [hexFmt.data.toList, shape21, digits 8 c] 0 := by
      unfold hexS
      rw [Go.Kit.textOf_list]
    rw [h2, h]
  refine ⟨fun c hc => ?_, fun c hc => ⟨_, ht c hc⟩⟩
  have h := congrArg List.length (ht c hc)
  have h3 : (hexS F.told c).data.toList.length = (hexS F.told c).size := by rw [Array.length_toList]; rfl
  have := FmtText.inBase_length_le 16 false (c : Int)
  rw [h3] at h
  simp at h
  omega
end Go.Proofs.YtgfiigonjleeeaaFmt
