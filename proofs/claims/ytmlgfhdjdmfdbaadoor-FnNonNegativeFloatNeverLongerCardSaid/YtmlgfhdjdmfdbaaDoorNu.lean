/-
  Proved: FormatFloat at the two zeros. No condition but the tables' cells; no statement of the seat stands here.
-/
import Derived.Test.YtmlgfhdjdmfdbaaDoorFtO
namespace Go.Proofs.YtmlgfhdjdmfdbaaDoor
open Go.RowKit Go.ChangeAt Go.Sort
set_option linter.unusedSimpArgs false
set_option linter.unusedVariables false
set_option maxRecDepth 100000
set_option maxHeartbeats 8000000 in
theorem fmt26z (w0 w : World) (vo : Option Addr) (L vc g : Nat) (out : List UInt8) (neg : Bool) (hL : L ≤ 1000) (hR : RowD w0 w vo L vc out g []) :
    Calls Tryd.prog 26 #[.slice vo L vc, .bool neg, .slice none 0 0, .int .i64 0, .int .i64 0, .int .i64 (-1), .int .u8 103, .bool true] w (FmtOut w0 (out ++ (signB neg ++ [48]))) := by
  have HR := Lib.hid hR
  clear hR
  go_enter Tryd.func26, Tryd.ntmps26
  go_upto_if 178 with fail
  cases neg
  · go_wp2_with (first | (at_builtin; go_loud (refine wp_appB rfl (.tmp 209) (.tmp 210) rfl w0 w vo L vc g (out) [] [48] 1 (by rfl) _ (by first | rfl | simp [Lib.byteCells, *]) (HR.out) rfl _ rfl rfl (by omega) ?_; intro vo1 vc1 w1 hn; have HN1 := Lib.hid hn; clear hn)))
    go_ret
    exact HN1.out.fmt
  · go_upto_if 183 with (at_builtin; go_loud (refine wp_appB rfl (.tmp 179) (.tmp 180) rfl w0 w vo L vc g (out) [] [45] 1 (by rfl) _ (by first | rfl | simp [Lib.byteCells, *]) (HR.out) rfl _ rfl rfl (by omega) ?_; intro vo1 vc1 w1 hn; have HN1 := Lib.hid hn; clear hn))
    go_wp2_with (at_builtin; go_loud (refine wp_appB rfl (.tmp 209) (.tmp 210) rfl w0 w1 vo1 (L + 1) vc1 g (out ++ [45]) [] [48] 1 (by rfl) _ (by first | rfl | simp [Lib.byteCells, *]) (HN1.out) rfl _ rfl rfl (by omega) ?_; intro vo2 vc2 w2 hn; have HN2 := Lib.hid hn; clear hn))
    go_ret
    have h := HN2.out.fmt
    rw [List.append_assoc] at h
    exact h
set_option maxHeartbeats 8000000 in
theorem ftoaZ (w0 w : World) (vo : Option Addr) (L vc b g : Nat) (neg : Bool) (out : List UInt8)
    (hneg : ((b : Int) / 9223372036854775808 != 0) = neg) (hE : bits .and .i64 (wrap64 ((b : Int) / 4503599627370496)) 2047 = 0) (hM : bits .and .u64 (b : Int) 4503599627370495 = 0)
    (hL : L ≤ 1000) (hR : RowD w0 w vo L vc out g []) :
    Calls Tryd.prog 18 #[.slice vo L vc, .float .f64 b, .int .u8 103, .int .i64 (-1)] w (FmtOut w0 (out ++ (signB neg ++ [48]))) := by
  have hfb := bits64 b
  have HR := Lib.hid hR
  clear hR
  go_enter Tryd.func18, Tryd.ntmps18
  go_wp2_with fail
  go_region
  clear hfb
  go_wp2_with fail
  have hRD : RowD w0 w.drew vo L vc out g [] := ⟨HR.out.len, HR.out.own, HR.out.chg.drew, fun j hj => by simp at hj, HR.out.off, HR.out.lt⟩
  refine (fmt26z w0 w.drew vo L vc g out neg hL hRD).mono ?_
  rintro e w' ⟨v1, L1, c1, rfl, r1⟩
  have HRR := Lib.hid r1
  clear r1
  go_wp2_with fail
  go_ret
  exact ⟨v1, L1, c1, rfl, HRR.out⟩
theorem ffz (b : Nat) (hb : b < 18446744073709551616) (hE : fE b = 0) (hM : fM b = 0) (w : World) (hT : TabP w) :
    Calls Tryd.prog 7 #[.float .f64 b, .int .u8 103, .int .i64 (-1), .int .i64 64] w (StrOut ⟨⟨signB (fNeg b) ++ [48]⟩⟩ w) := by
  have hlt : 3 < w.heap.size := World.block_lt_of_cell? w _ (hT 0 (by omega)).1
  refine ff16 b (signB (fNeg b) ++ [48]) w (by simp) fun w1 vo vc hr => ?_
  have he := bits_E b hb
  rw [hE] at he
  have hm := bits_M b hb
  rw [hM] at hm
  have h := ftoaZ w w1 vo 0 vc b 3 (fNeg b) [] (neg_b b hb) he hm (by omega) ⟨hr.1, hr.2.1, hr.2.2, fun j hj => by simp at hj, fun h => by have := (inRow_own hr.2.1 _ h).1; omega, Nat.lt_of_lt_of_le hlt hr.2.2.size⟩
  simpa using h
end Go.Proofs.YtmlgfhdjdmfdbaaDoor
