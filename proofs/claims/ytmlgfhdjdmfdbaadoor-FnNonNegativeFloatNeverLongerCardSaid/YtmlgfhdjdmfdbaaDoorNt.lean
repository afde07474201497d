/-
  Proved: printNonNegativeFloat at a whole number below 1000. No statement of the seat stands here.
-/
import Derived.Test.YtmlgfhdjdmfdbaaDoorNr
namespace Go.Proofs.YtmlgfhdjdmfdbaaDoor
open Go.RowKit Go.ChangeAt
set_option linter.unusedSimpArgs false
set_option linter.unusedVariables false
set_option maxRecDepth 1000000
set_option maxHeartbeats 16000000 in
theorem quick8 (b f N : Nat) (mn : Bool) (hN : N < 1000) (w : World) (hP : Pn b mn w) (he : (FloatKind.f64.format.order f 4652007308841189376 == some Ordering.lt) = true) (he2 : floatToIntVal .f64 f .i64 = some (N : Int)) (he3 : (FloatKind.f64.format.order f (floatOfInt .f64 (N : Int)) == some .eq) = true) :
    Calls Tryd.prog 8 #[.pointer (some ⟨b, 0, none⟩), .float .f64 f] w (TailOut b mn (dl N) w) := by
  have hPl := hP.lt
  have HP := Lib.hid hP
  have hcv9 : (convert 22 2 (.float .f64 f)).run Tryd.prog w = .ok (.int .i64 (N : Int)) w := run_convert_float_int w _ _ .f64 .i64 f (N : Int) (by rw [Tryd.underlying22]; rfl) Tryd.underlying2 he2
  have hsl : sLen (N : Int) = dl N := by unfold sLen; simp
  have HSL := Lib.hid hsl
  clear hP he2 hsl
  go_enter Tryd.func8, Tryd.ntmps8
  go_wp2_with fail
  refine (small11 b mn (N : Int) (by omega) (by omega) w HP.out).mono ?_
  rintro ex w1 ⟨s, l, rfl, hl, hbuf, hp1, hc1⟩
  have hd4 := (dl_bd N).2
  rw [HSL.out] at hl
  rw [HSL.out]
  have HB := Lib.hid hbuf
  have HP1 := Lib.hid hp1
  have HC1 := Lib.hid hc1
  clear hbuf hp1 hc1
  go_wp2_with fail
  refine (print10 b b (71 + s) (dl N) mn l hl.symm w1 HP1.out HB.out (by omega)).mono ?_
  rintro ex w6 ⟨rfl, hPj, hch6⟩
  have hC6 := HC1.out.trans hch6 (fun k hk hs => hs)
  obtain ⟨cs, vo, vc, hb6, hsz6, h96⟩ := hPj
  have c9 := cell_of_heap hb6 9
  rw [h96] at c9
  have c66 : w6.cell? ⟨b, 66, none⟩ = some cs[66] := by rw [cell_of_heap hb6, Array.getElem?_eq_getElem (by omega)]
  have z66 := frozen_of_heap hb6 66
  have s6 := heap_lt hb6
  have H6 := Lib.hid (And.intro hb6 (And.intro hsz6 h96))
  have HC6 := Lib.hid hC6
  clear hC6 hch6 hb6 h96
  go_wp2_with fail
  go_end0
  exact ⟨rfl, _, ⟨fun _ => rfl, Nat.le_refl _⟩, ⟨_, vo, vc, heap_setCell H6.out.1 66 _, by simpa using H6.out.2.1, by rw [Array.getElem?_setIfInBounds_ne (by omega)]; exact H6.out.2.2⟩, Chg.setCell (S := fun k => k = b) (p := ⟨b, 66, none⟩) HC6.out (fun _ => rfl) _⟩
end Go.Proofs.YtmlgfhdjdmfdbaaDoor
