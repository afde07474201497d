/-
  Proved: contract of b2Sep. No statement of the seat stands here.
-/
import Derived.Test.YtadmncfemgmioaaGreatFmtHelp
namespace Go.Proofs.YtadmncfemgmioaaGreatFmt
open Go.RowKit Go.ChangeAt
set_option linter.unusedSimpArgs false
set_option linter.unusedVariables false
set_option maxRecDepth 100000
set_option maxHeartbeats 1000000 in
theorem sep_m (w0 w : World) (vo : Option Addr) (L vc : Nat) (out : List UInt8) (lay : Int) (ind : Int) (h : RowAt w0 w vo L vc out) (hL : L ≤ 100000000) (hi1 : ind ≤ 65536) (hi0 : -2147483648 ≤ ind) :
    Calls Tryz.prog 10 #[.slice vo L vc, .bool true, .int .u8 lay, .int .i32 ind] w (SepOut w0 (out ++ [44])) := by
  obtain ⟨i0, hi, hz0, hz1, hz2⟩ := info_parts info5
  have Hrow := Lib.hid h
  have hsz := h.chg.size
  clear h
  go_enter Tryz.func10, Tryz.ntmps10
  go_wp2_with (at_builtin; go_loud (refine wpList_append_fresh _ rfl (.tmp 10) (.tmp 11) 27 rfl w0.heap.size 5 i0 _ 1 1 Tryz.underlying27 hi hz0 hz1 hz2 rfl (by decide) vo L vc _ rfl (Hrow.out.own.alloc _) (some ⟨w.heap.size, 0, none⟩) 1 1 (Lib.byteCells [44]) rfl rfl (by simp) (newBytes w [44] _ (by simp)) (oneBytes _) (by unfold maxLen; omega) (by omega) (by have := Hrow.out.chg.size; simp; omega) ?_; intro vp vcp wp hown1 hg1 hf1; have Hr := Lib.hid (RowAt.more (new := [44]) 1 rfl Hrow.out hown1 hg1); clear hown1 hg1 hf1))
  go_ret
  exact ⟨vp, L + 1, vcp, rfl, Hr.out⟩
set_option maxHeartbeats 1000000 in
theorem sep_s (w0 w : World) (vo : Option Addr) (L vc : Nat) (out : List UInt8) (lay : Int) (hl : lay ≠ 0) (ind : Int) (h : RowAt w0 w vo L vc out) (hL : L ≤ 100000000) (hi1 : ind ≤ 65536) (hi0 : -2147483648 ≤ ind) :
    Calls Tryz.prog 10 #[.slice vo L vc, .bool false, .int .u8 lay, .int .i32 ind] w (SepOut w0 (out ++ [44, 32])) := by
  have el : (lay == 0) = false := beq_eq_false_iff_ne.2 hl
  clear hl
  obtain ⟨i0, hi, hz0, hz1, hz2⟩ := info_parts info5
  have Hrow := Lib.hid h
  have hsz := h.chg.size
  clear h
  go_enter Tryz.func10, Tryz.ntmps10
  go_wp2_with (at_builtin; go_loud (refine wpList_append_fresh _ rfl (.tmp 22) (.tmp 23) 27 rfl w0.heap.size 5 i0 _ 1 1 Tryz.underlying27 hi hz0 hz1 hz2 rfl (by decide) vo L vc _ rfl (Hrow.out.own.alloc _) (some ⟨w.heap.size, 0, none⟩) 2 2 (Lib.byteCells [44, 32]) rfl rfl (by simp) (newBytes w [44, 32] _ (by simp)) (oneBytes _) (by unfold maxLen; omega) (by omega) (by have := Hrow.out.chg.size; simp; omega) ?_; intro vp vcp wp hown1 hg1 hf1; have Hr := Lib.hid (RowAt.more (new := [44, 32]) 2 rfl Hrow.out hown1 hg1); clear hown1 hg1 hf1))
  go_ret
  exact ⟨vp, L + 2, vcp, rfl, Hr.out⟩
set_option maxHeartbeats 1000000 in
theorem sep_l (w0 w : World) (vo : Option Addr) (L vc : Nat) (out : List UInt8) (ind : Int) (h : RowAt w0 w vo L vc out) (hL : L ≤ 100000000) (hi1 : ind ≤ 65536) (hi0 : -2147483648 ≤ ind) :
    Calls Tryz.prog 10 #[.slice vo L vc, .bool false, .int .u8 0, .int .i32 ind] w (SepOut w0 (out ++ ([44, 10] ++ spaces ind.toNat))) := by
  obtain ⟨i0, hi, hz0, hz1, hz2⟩ := info_parts info5
  have Hrow := Lib.hid h
  have hsz := h.chg.size
  clear h
  go_enter Tryz.func10, Tryz.ntmps10
  go_wp2_with (at_builtin; go_loud (refine wpList_append_fresh _ rfl (.tmp 15) (.tmp 16) 27 rfl w0.heap.size 5 i0 _ 1 1 Tryz.underlying27 hi hz0 hz1 hz2 rfl (by decide) vo L vc _ rfl (Hrow.out.own.alloc _) (some ⟨w.heap.size, 0, none⟩) 2 2 (Lib.byteCells [44, 10]) rfl rfl (by simp) (newBytes w [44, 10] _ (by simp)) (oneBytes _) (by unfold maxLen; omega) (by omega) (by have := Hrow.out.chg.size; simp; omega) ?_; intro vp vcp wp hown1 hg1 hf1; have Hr := Lib.hid (RowAt.more (new := [44, 10]) 2 rfl Hrow.out hown1 hg1); clear hown1 hg1 hf1))
  refine (lev6 ind hi0 hi1 wp).mono ?_
  rintro ex w1 ⟨rfl, rfl⟩
  go_wp2_with fail
  rw [show max ind 0 = (ind.toNat : Int) by omega]
  refine (spaces14 w0 wp vp (L + 2) vcp (out ++ [44, 10]) ind.toNat Hr.out (by omega) (by omega)).mono ?_
  rintro ex w1 ⟨v3, L3, c3, rfl, h3⟩
  go_wp2_with fail
  go_ret
  exact ⟨v3, L3, c3, rfl, by rw [List.append_assoc] at h3; exact h3⟩
theorem sep10 (w0 w : World) (vo : Option Addr) (L vc : Nat) (out : List UInt8) (m : Bool) (lay ind : Int) (h : RowAt w0 w vo L vc out) (hL : L ≤ 100000000) (hi1 : ind ≤ 65536) (hi0 : -2147483648 ≤ ind) :
    Calls Tryz.prog 10 #[.slice vo L vc, .bool m, .int .u8 lay, .int .i32 ind] w (SepOut w0 (out ++ sepT m lay ind)) := by
  cases m
  · by_cases hl : lay = 0
    · subst hl
      exact sep_l w0 w vo L vc out ind h hL hi1 hi0
    · have e : sepT false lay ind = [44, 32] := by simp [sepT, hl]
      rw [e]
      exact sep_s w0 w vo L vc out lay hl ind h hL hi1 hi0
  · exact sep_m w0 w vo L vc out lay ind h hL hi1 hi0
end Go.Proofs.YtadmncfemgmioaaGreatFmt
