/-
  Proved: the walk of FnMediaQueryNotTable: it answers true. The frame and the card stand in a later text.
-/
import Derived.Test.YtogkpfdnfjlflaaGreatFmtZnot
namespace Go.Proofs.YtogkpfdnfjlflaaGreatFmt
open Go.RowKit Go.ChangeAt
set_option linter.unusedSimpArgs false
set_option linter.unusedVariables false
def TrueOut (w : World) (e : Ending) (w' : World) : Prop := e = .returned (.bool true) ∧ Chg Nowhere w w'
theorem zb5 (s0 : ByteArray) (v1 : Value) (v2 : Value) (w : World)  :
    Calls Tryz.prog 5 #[.string s0, v1, v2] w (SomeBool w) := by
  go_enter Tryz.func5, Tryz.ntmps5
  go_wp2
  all_goals (go_ret; exact ⟨_, rfl, rfl⟩)

theorem txt0 {f : Int} {t : ByteArray} (c1 : bits .and .u8 f 1 = 0) (c2 : bits .and .u8 f 2 = 0) : (⟨(notText f t.data.toList).toArray⟩ : ByteArray) = ⟨#[110, 111, 116, 32]⟩ ++ t := by
  apply ByteArray.ext
  rw [ByteArray.data_append]
  simp [notText, c1, c2]
theorem txt2 {f : Int} {t : ByteArray} (c1 : bits .and .u8 f 1 = 0) (c2 : ¬ bits .and .u8 f 2 = 0) : (⟨(notText f t.data.toList).toArray⟩ : ByteArray) = ⟨#[32, 110, 111, 116, 32]⟩ ++ t := by
  apply ByteArray.ext
  rw [ByteArray.data_append]
  simp [notText, c1, c2]
theorem txt1 {f : Int} {t : ByteArray} (c1 : ¬ bits .and .u8 f 1 = 0) : (⟨(notText f t.data.toList).toArray⟩ : ByteArray) = ⟨#[40, 110, 111, 116, 32]⟩ ++ t ++ ⟨#[41]⟩ := by
  apply ByteArray.ext
  rw [ByteArray.data_append, ByteArray.data_append]
  simp [notText, c1]
set_option maxRecDepth 100000 in
set_option maxHeartbeats 4000000 in
theorem law3 (f : Int) (m : Bool) (t : ByteArray) (w : World) :
    Calls Tryz.prog 3 #[.string t, .int .u8 f, .bool m] w (TrueOut w) := by
  by_cases c1 : bits .and .u8 f 1 = 0
  · by_cases c2 : bits .and .u8 f 2 = 0
    · go_enter Tryz.func3, Tryz.ntmps3
      go_wp2_with fail
      refine (zb5 t _ _ w).mono ?_
      rintro e w1 ⟨r, rfl, rfl⟩
      cases r
      · go_wp2_with fail
        go_ret
        exact ⟨rfl, Chg.refl _ _⟩
      · go_wp2_with fail
        · go_ret
          exact ⟨rfl, Chg.refl _ _⟩
        · refine (znot f m t w (by omega)).mono ?_
          rintro e w1 ⟨rfl, hc⟩
          rw [txt0 c1 c2]
          go_wp2_with fail
          refine (znot f _ t w1 (by omega)).mono ?_
          rintro e w2 ⟨rfl, hd⟩
          rw [txt0 c1 c2]
          go_wp2_with fail
          all_goals go_ret
          all_goals exact ⟨rfl, hc.trans hd (fun _ _ h => h)⟩
    · go_enter Tryz.func3, Tryz.ntmps3
      go_wp2_with fail
      refine (zb5 t _ _ w).mono ?_
      rintro e w1 ⟨r, rfl, rfl⟩
      cases r
      · go_wp2_with fail
        go_ret
        exact ⟨rfl, Chg.refl _ _⟩
      · go_wp2_with fail
        · go_ret
          exact ⟨rfl, Chg.refl _ _⟩
        · refine (znot f m t w (by omega)).mono ?_
          rintro e w1 ⟨rfl, hc⟩
          rw [txt2 c1 c2]
          go_wp2_with fail
          refine (znot f _ t w1 (by omega)).mono ?_
          rintro e w2 ⟨rfl, hd⟩
          rw [txt2 c1 c2]
          go_wp2_with fail
          all_goals go_ret
          all_goals exact ⟨rfl, hc.trans hd (fun _ _ h => h)⟩
  · go_enter Tryz.func3, Tryz.ntmps3
    go_wp2_with fail
    refine (zb5 t _ _ w).mono ?_
    rintro e w1 ⟨r, rfl, rfl⟩
    cases r
    · go_wp2_with fail
      go_ret
      exact ⟨rfl, Chg.refl _ _⟩
    · go_wp2_with fail
      · go_ret
        exact ⟨rfl, Chg.refl _ _⟩
      · refine (znot f m t w (by omega)).mono ?_
        rintro e w1 ⟨rfl, hc⟩
        rw [txt1 c1]
        go_wp2_with fail
        refine (znot f _ t w1 (by omega)).mono ?_
        rintro e w2 ⟨rfl, hd⟩
        rw [txt1 c1]
        go_wp2_with fail
        all_goals go_ret
        all_goals exact ⟨rfl, hc.trans hd (fun _ _ h => h)⟩
end Go.Proofs.YtogkpfdnfjlflaaGreatFmt
