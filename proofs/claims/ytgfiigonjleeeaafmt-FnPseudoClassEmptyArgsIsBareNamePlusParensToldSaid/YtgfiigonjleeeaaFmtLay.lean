/-
  Proved: the library's utf8.EncodeRune, DecodeRuneInString and RuneLen at this program, laid from the shelf. No statement of the seat stands here.
-/
import Derived.Test.YtgfiigonjleeeaaFmtText
import Derived.Shelf.Spec.EncodeRune
import Derived.Test.YtgfiigonjleeeaaFmtProg
namespace Go.Proofs.YtgfiigonjleeeaaFmt
open Go.Shelf Go.RowKit Go.ChangeAt
set_option maxRecDepth 100000
def ren30 : Go.Shelf.Ren := ⟨fun | 30 => 44 | 47 => 59 | n => n, fun | 25 => 168 | 27 => 39 | 30 => 28 | n => n, fun | n => n⟩
theorem lay30 : Lays7.n30 Tryf.prog ren30 := {
  mixed := by kernel_rfl
  f30 := Tryf.func44.trans (congrArg some (by kernel_rfl))
  f47 := Tryf.func59.trans (congrArg some (by kernel_rfl))
  t0 := Tryf.underlying0
  a0 := Tryf.isAgg0
  z0 := Tryf.sizeOf0
  v0 := Tryf.zeroValue0
  i0 := by kernel_rfl
  t3 := Tryf.underlying3
  a3 := Tryf.isAgg3
  z3 := Tryf.sizeOf3
  v3 := Tryf.zeroValue3
  i3 := by kernel_rfl
  t4 := Tryf.underlying4
  a4 := Tryf.isAgg4
  z4 := Tryf.sizeOf4
  v4 := Tryf.zeroValue4
  i4 := by kernel_rfl
  t5 := Tryf.underlying5
  a5 := Tryf.isAgg5
  z5 := Tryf.sizeOf5
  v5 := Tryf.zeroValue5
  i5 := by kernel_rfl
  t21 := Tryf.underlying21
  a21 := Tryf.isAgg21
  z21 := Tryf.sizeOf21
  v21 := Tryf.zeroValue21
  i21 := by kernel_rfl
  t25 := Tryf.underlying168
  a25 := Tryf.isAgg168
  z25 := Tryf.sizeOf168
  v25 := Tryf.zeroValue168
  i25 := by kernel_rfl
  t27 := Tryf.underlying39
  a27 := Tryf.isAgg39
  z27 := Tryf.sizeOf39
  v27 := Tryf.zeroValue39
  i27 := by kernel_rfl
  t30 := Tryf.underlying28
  a30 := Tryf.isAgg28
  z30 := Tryf.sizeOf28
  v30 := Tryf.zeroValue28
  i30 := by kernel_rfl
  }
theorem encode44 (b c : Nat) (hc : c ≤ 1114111) (w : World) (e : TypeId) (h : w.heap[b]? = some (.cells #[.int .u8 0, .int .u8 0, .int .u8 0, .int .u8 0] e (0, 0))) :
    Calls Tryf.prog 44 #[.slice (some ⟨b, 0, none⟩) 4 4, .int .i32 c] w fun e w' => e = .returned (.int .i64 (Lib.runeCells (c : Int)).length) ∧ w' = w.setCells b 0 (Lib.runeCells (c : Int)) := by
  have hl := Lib.encodeRuneZ_length (c : Int)
  have hl2 : (Lib.runeCells (c : Int)).length = (Lib.encodeRuneZ (c : Int)).length := by simp [Lib.runeCells]
  refine Any7.utf8_EncodeRune lay30 b 0 4 4 (c : Int) (by omega) (by omega) w (by omega) ?_ ?_
  · intro j hj
    have h4 : j = 0 ∨ j = 1 ∨ j = 2 ∨ j = 3 := by omega
    rw [Nat.zero_add, cell_of_heap h]
    rcases h4 with rfl | rfl | rfl | rfl <;> rfl
  · intro j hj
    exact frozen_of_heap h _
end Go.Proofs.YtgfiigonjleeeaaFmt
