/-
  Proved: the walk of FnGuessMimeTypeSniffsMagicForUnknownExt. No statement of the seat stands here.
-/
import Derived.Test.YtflpmhjfchpplaaDoorLaw
namespace Go.Proofs.YtflpmhjfchpplaaDoor
open Go.RowKit Go.ChangeAt
set_option linter.unusedSimpArgs false
set_option linter.unusedVariables false
set_option maxRecDepth 100000
theorem app_list (m : List UInt8) (s : ByteArray) : (strB m ++ s).data.toList = m ++ s.data.toList := by
  rw [ByteArray.data_append, Array.toList_append]; rfl
theorem gmag (f s R : ByteArray) (m ct : List UInt8) (h bm : Nat) (w : World) (hM : MapP w bm) (hf : f.size ≤ 1048576) (hs : s.size ≤ 1048576) (hd : NoDot f) (hm : m.length ≤ 100) (hS : ∀ t, Sniff (m ++ t) 0 h ct) (hR : ∀ w, Calls Tryd.prog 13 #[.string (strB ct), .string ⟨#[59, 32]⟩, .string ⟨#[59]⟩] w (TxtOut R w)) :
    Calls Tryd.prog 8 #[.string f, .string (strB m ++ s)] w (TxtOut R w) := by
  refine zz8 f (strB m ++ s) R w (guess10 f (strB m ++ s) R bm 0 h ct w hM hf hd ?_ ?_ hR)
  · have : (strB m).size = m.length := by unfold strB; show m.toArray.size = _; simp
    rw [ByteArray.size_append]; omega
  · rw [app_list]; exact hS _
set_option maxHeartbeats 16000000 in
theorem law4 (f s : ByteArray) (x : Int) (hx0 : 0 ≤ x) (hx1 : x ≤ 255) (bm : Nat) (w : World) (hM : MapP w bm) : Calls Tryd.prog 4 #[.string f, .string s, .int .u8 x] w (TrueOut w) := by
  have HM := Lib.hid hM
  clear hM
  go_enter Tryd.func4, Tryd.ntmps4
  go_wp2_with fail
  refine (zb9 f s _ w).mono ?_
  rintro e1 w1 ⟨r, rfl, rfl, hr⟩
  cases r
  · clear hr
    go_wp2_with fail
    go_ret
    exact ⟨rfl, Chg.refl _ _⟩
  obtain ⟨hf, hs⟩ := hr rfl
  clear hr
  by_cases ht : (1048576 : Int) < (f.size : Int) + (s.size : Int)
  · go_wp2_with fail
    go_ret
    exact ⟨rfl, Chg.refl _ _⟩
  go_wp2_with fail
  refine (nodot6 f w hf).mono ?_
  rintro e2 w2 ⟨r, rfl, rfl, hr⟩
  cases r
  · clear hr
    go_wp2_with fail
    go_ret
    exact ⟨rfl, Chg.refl _ _⟩
  have Hd := Lib.hid (hr rfl)
  clear hr
  have hm : x % 4 = 0 ∨ x % 4 = 1 ∨ x % 4 = 2 ∨ x % 4 = 3 := by omega
  rcases hm with hm | hm | hm | hm
  · have h8 : Calls Tryd.prog 8 #[.string f, .string ((⟨#[37, 80, 68, 70, 45]⟩ : ByteArray) ++ s)] w (TxtOut ⟨#[97, 112, 112, 108, 105, 99, 97, 116, 105, 111, 110, 47, 112, 100, 102]⟩ w) := gmag f s _ [37, 80, 68, 70, 45] _ 18 bm w HM.out hf hs Hd.out (by decide) sniff_pdf rep_pdf
    have H8 := Lib.hid h8
    clear h8
    go_wp2_with fail
    refine H8.out.mono ?_
    rintro e4 w4 ⟨rfl, hc⟩
    have HC := Lib.hid hc
    clear hc
    go_wp2_with fail
    go_ret
    exact ⟨rfl, HC.out⟩
  · have h8 : Calls Tryd.prog 8 #[.string f, .string ((⟨#[137, 80, 78, 71, 13, 10, 26, 10]⟩ : ByteArray) ++ s)] w (TxtOut ⟨#[105, 109, 97, 103, 101, 47, 112, 110, 103]⟩ w) := gmag f s _ [137, 80, 78, 71, 13, 10, 26, 10] _ 29 bm w HM.out hf hs Hd.out (by decide) sniff_png rep_png
    have H8 := Lib.hid h8
    clear h8
    go_wp2_with fail
    refine H8.out.mono ?_
    rintro e4 w4 ⟨rfl, hc⟩
    have HC := Lib.hid hc
    clear hc
    go_wp2_with fail
    go_ret
    exact ⟨rfl, HC.out⟩
  · have h8 : Calls Tryd.prog 8 #[.string f, .string ((⟨#[71, 73, 70, 56, 57, 97]⟩ : ByteArray) ++ s)] w (TxtOut ⟨#[105, 109, 97, 103, 101, 47, 103, 105, 102]⟩ w) := gmag f s _ [71, 73, 70, 56, 57, 97] _ 27 bm w HM.out hf hs Hd.out (by decide) sniff_gif rep_gif
    have H8 := Lib.hid h8
    clear h8
    go_wp2_with fail
    refine H8.out.mono ?_
    rintro e4 w4 ⟨rfl, hc⟩
    have HC := Lib.hid hc
    clear hc
    go_wp2_with fail
    go_ret
    exact ⟨rfl, HC.out⟩
  · have h8 : Calls Tryd.prog 8 #[.string f, .string ((⟨#[255, 216, 255]⟩ : ByteArray) ++ s)] w (TxtOut ⟨#[105, 109, 97, 103, 101, 47, 106, 112, 101, 103]⟩ w) := gmag f s _ [255, 216, 255] _ 30 bm w HM.out hf hs Hd.out (by decide) sniff_jpg rep_jpg
    have H8 := Lib.hid h8
    clear h8
    go_wp2_with fail
    refine H8.out.mono ?_
    rintro e4 w4 ⟨rfl, hc⟩
    have HC := Lib.hid hc
    clear hc
    go_wp2_with fail
    go_ret
    exact ⟨rfl, HC.out⟩
end Go.Proofs.YtflpmhjfchpplaaDoor
