/-
  Proved: the witness' world of the rows: the map as the door's own run leaves it, the pinned tables laid. No statement of the seat stands here.
-/
import Derived.Test.YtflpmhjfchpplaaDoorLaid
import Derived.Test.YtflpmhjfchpplaaDoorTie
import Derived.Test.YtflpmhjfchpplaaDoorCards
import Derived.OpenShut
import Derived.OpenVars
import Derived.SevenTiedAt
import Derived.Stop.Joined
import Derived.Lay
import Derived.Lib.LaidIn
namespace Go.Proofs.YtflpmhjfchpplaaDoor
open Go.ChangeShapes Go.WideShapes Go.ChangeAt Go.RowKit
set_option linter.unusedVariables false
set_option maxRecDepth 100000
theorem own : ownKnob Tryd.prog.godebug = none := by kernel_rfl
theorem laidOut : laidOutB Tryd.prog = true := by kernel_rfl
def great : List String := ["unicode.CaseRanges", "unicode/utf8.first"]
noncomputable def laidL : List (String × DataW Unit) := Rows.fnGuessMimeTypePlainTextForUnknownExtRow.laid
noncomputable def door (os : Os) : World := World.doorLaid Tryd.prog 400 os
noncomputable def others (os : Os) : List Nat := (List.range (door os).heap.size).filter fun i => i != 1 && i != 3
noncomputable def startW (os : Os) : World := (door os).layVars Tryd.prog (laidL.filter fun x => great.contains x.1)
theorem u8_lo {x : Int} (h : (Lit.int .u8 x).wf = true) : 0 ≤ x := by
  have e1 : IntKind.u8.min = 0 := rfl
  have e2 : IntKind.u8.max = 255 := rfl
  simp [Lit.wf, e1, e2] at h
  omega
theorem u8_hi {x : Int} (h : (Lit.int .u8 x).wf = true) : x ≤ 255 := by
  have e1 : IntKind.u8.min = 0 := rfl
  have e2 : IntKind.u8.max = 255 := rfl
  simp [Lit.wf, e1, e2] at h
  omega
theorem start_os (os : Os) : (startW os).os = os := (World.layVars_os _ _ _).trans rfl
theorem met (os : Os) (args : Array Value) : laidMetH Tryd.prog laidL ((startW os).forCall (fun _ _ => 0) ⟨#[], args, []⟩).memory := by
  rw [MakeChecks.laidMetH_plain _ _ _ (by kernel_rfl)]
  have h : laidMet Tryd.prog laidL (startW os) := laidMet_layVars (w0 := door os) great (others os) rfl (by kernel_rfl) (by kernel_rfl) (LaidIn.of_run (others os) 8 (by kernel_rfl) (by kernel_rfl) (by kernel_rfl) (by kernel_rfl))
  exact h.of_heap (by simp [World.memory, World.forCall, Input.heap])
end Go.Proofs.YtflpmhjfchpplaaDoor
