/-
  Proved: what the frames of the laws share (the witness' world). No statement of the seat stands here.
-/
import Derived.Test.YtcbmankbjgbjgaaGreatFmtCards
import Derived.Test.YtcbmankbjgbjgaaGreatFmtBase
import Derived.WalkKit
import Derived.ProofKit
import Derived.OpenShut
import Derived.OpenVars
import Derived.SliceStrings
import Derived.Lay
import Derived.Deep.DeepHandedRow
import Derived.Stop.JoinedAt
import Derived.Stop.JoinedTold
import Derived.Deep.DeepWitnessRef
import Derived.SevenToldRow
namespace Go.Proofs.YtcbmankbjgbjgaaGreatFmt
open Go.ChangeShapes Go.WideShapes Go.ChangeAt Go.RowKit
open Go.Extern.Stop Go.Stop Go.Extern
theorem own : ownKnob Tryz.prog.godebug = none := by kernel_rfl
theorem laidOut : laidOutB Tryz.prog = true := by kernel_rfl
theorem stops : Tryz.pinned.checked.prog.stops = ["fmt.Sprintf"] := by kernel_rfl
theorem stopKnobs : Tryz.pinned.checked.prog.stopKnobs = [] := by kernel_rfl
theorem quietAt (os : Os) : Stop.quiet Tryz.pinned.checked.prog os := by
  intro k hk
  rw [stopKnobs] at hk
  cases hk
theorem rowed : varsRowed Tryz.prog [] = true := by kernel_rfl
theorem u8_nonneg {x : Int} (h : (Lit.int .u8 x).wf = true) : 0 ≤ x := by
  have e1 : IntKind.u8.min = 0 := rfl
  have e2 : IntKind.u8.max = 255 := rfl
  simp [Lit.wf, e1, e2] at h
  omega
/-- Bytes read as whole numbers are bytes. -/
theorem bytes_of_ints {W : World} {a : Option Addr} {n : Nat} {zs : List Int} (hR : Reads W a n fun i => .int .u8 (zs.getD i 0)) (hw : ∀ i, (Lit.int .u8 (zs.getD i 0)).wf = true) :
    ∃ pre : List UInt8, pre.length = n ∧ Reads W a n fun i => .int .u8 ((pre.getD i 0).toNat : Int) := by
  refine ⟨(List.range n).map fun i => UInt8.ofNat (zs.getD i 0).toNat, by simp, ?_⟩
  rcases hR with h | ⟨g, o, h1, h2⟩
  · exact .inl h
  · refine .inr ⟨g, o, h1, fun i hi => ?_⟩
    have e1 : IntKind.u8.min = 0 := rfl
    have e2 : IntKind.u8.max = 255 := rfl
    have hz := hw i
    simp only [Lit.wf, e1, e2, Bool.and_eq_true, decide_eq_true_eq] at hz
    have e : ((((List.range n).map fun i => UInt8.ofNat (zs.getD i 0).toNat).getD i 0).toNat : Int) = zs.getD i 0 := by
      rw [List.getD_eq_getElem?_getD, List.getElem?_map, List.getElem?_range hi]
      simp only [Option.map_some, Option.getD_some, UInt8.toNat_ofNat']
      omega
    exact (h2 i hi).trans (congrArg (fun z => some (Value.int .u8 z)) e.symm)
/-- 'OpenSpec.witness_stopped_atRef' with the world's shape looked at in one pass. -/
theorem witness_zip {H : Type} {enc : TypeId × Value → H} {C : Checked} {os : Os} {f : FuncId} {fn : Func} {s : OpenSpec} {conds : List PathCond} {apart : Bool} {laid : List (String × DataW Unit)} (w0 : World) (args : Array Value) (hos : w0.os = os)
    (hv : ∀ tape, (w0.forCall tape ⟨#[], args, []⟩).variablesZipB C.prog = true)
    (hr : ((w0.forCall (fun _ _ => 0) ⟨#[], args, []⟩).heap.toList.drop C.prog.globals.size).take ((begin C.prog (fun _ _ => 0) default).world.heap.size - C.prog.globals.size) =
      (begin C.prog (fun _ _ => 0) default).world.heap.toList.drop C.prog.globals.size)
    (hok : Input.okWideB C.prog (w0.forCall (fun _ _ => 0) ⟨#[], args, []⟩) f ⟨#[], args, []⟩ = true)
    (hrow : s.preRow enc C.prog fn conds apart laid (w0.forCall (fun _ _ => 0) ⟨#[], args, []⟩).memory args) (F : Stop.Interp) :
    ∃ (w : World) (tape : Tape) (i : Input), w.os = os ∧ (w.forCall tape i).Shaped C.prog ∧ i.vars = [] ∧ Input.okWide C.prog (w.forCall tape i) .any w.heap.size f i ∧
      s.preRow enc C.prog fn conds apart laid (w.forCall tape i).memory i.args ∧ ({} : Assume).holds C.prog (lone (Frame.enter C.prog f i.args .normal) [] (w.forCall tape i)) ∧ F.answers tape :=
  ⟨w0, F.over fun _ _ => 0, ⟨#[], args, []⟩, hos, World.shaped_of_ZipB (hv _) hr, (Input.okWide_of_okWideB (base := 0) hok).1, (Input.okWide_of_okWideB hok).2, hrow, by
    simp only [Assume.holds]
    exact ⟨by simp, by simp, fun _ => F.over_modest Modest.zero, by simp, by simp⟩, F.over_answers _⟩
end Go.Proofs.YtcbmankbjgbjgaaGreatFmt
