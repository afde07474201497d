/-
  Proved: the walk of FnConstValueRoundTripThroughExpr at every kind: it returns true. The tables' cells are as Go's text lays them. No statement of the seat stands here.
-/
import Derived.Test.YtjbnddhohkociaaDoorJi
namespace Go.Proofs.YtjbnddhohkociaaDoor
open Go.RowKit Go.ChangeAt
set_option linter.unusedSimpArgs false
set_option linter.unusedVariables false
set_option maxRecDepth 100000
theorem zero_bits (b : Nat) (hb : b < 18446744073709551616) (hE : fE b ≠ 2047) (hm : fMant b = 0) : b = 0 ∨ b = 9223372036854775808 := by
  unfold fMant at hm
  split at hm
  · rename_i h0
    unfold fE at h0
    unfold fM at hm
    omega
  · omega
theorem hz_of (b : Nat) (hb : b < 18446744073709551616) : (∃ n, floatToIntVal .f64 b .i64 = some n ∧ (FloatKind.f64.format.order b (floatOfInt .f64 n) == some .eq) = true) ∨ fE b = 2047 ∨ fMant b ≠ 0 := by
  by_cases hE : fE b = 2047
  · exact .inr (.inl hE)
  by_cases hm : fMant b = 0
  · rcases zero_bits b hb hE hm with rfl | rfl
    · exact .inl ⟨0, by kernel_rfl, by kernel_rfl⟩
    · exact .inl ⟨0, by kernel_rfl, by kernel_rfl⟩
  · exact .inr (.inr hm)
set_option maxHeartbeats 8000000 in
theorem lawLong (s k : Int) (b : Nat) (a : Option Addr) (n c : Nat) (w : World) (hn : ¬ n ≤ 65536) :
    Calls Tryd.prog 4 #[.int .i32 s, .int .u8 k, .float .f64 b, .slice a n c] w (LawOut w) := by
  have hn0 : (65536 : Int) < (n : Int) := by omega
  go_enter Tryd.func4, Tryd.ntmps4
  go_wp2_with fail
  refine (zb11 _ _ _ a n c w).mono ?_
  rintro e1 w1 ⟨r, rfl, rfl, hr⟩
  clear hr
  cases r
  · go_wp2_with fail
    go_ret
    exact ⟨rfl, Chg.refl _ _⟩
  go_wp2_with fail
  go_ret
  exact ⟨rfl, Chg.refl _ _⟩
set_option maxHeartbeats 8000000 in
theorem lawOdd (s k : Int) (b : Nat) (a : Option Addr) (n c : Nat) (w : World) (hn : n ≤ 65536) (hk : k < 1 ∨ 6 < k) :
    Calls Tryd.prog 4 #[.int .i32 s, .int .u8 k, .float .f64 b, .slice a n c] w (LawOut w) := by
  have hn0 : ¬ (65536 : Int) < (n : Int) := by omega
  go_enter Tryd.func4, Tryd.ntmps4
  go_wp2_with fail
  refine (zb11 _ _ _ a n c w).mono ?_
  rintro e1 w1 ⟨r, rfl, rfl, hr⟩
  clear hr
  cases r
  · go_wp2_with fail
    go_ret
    exact ⟨rfl, Chg.refl _ _⟩
  by_cases h1 : k < 1
  · go_wp2_with fail
    go_ret
    exact ⟨rfl, Chg.refl _ _⟩
  · have h6 : 6 < k := by omega
    go_wp2_with fail
    go_ret
    exact ⟨rfl, Chg.refl _ _⟩
theorem lawAll (s k : Int) (b : Nat) (a : Option Addr) (n c : Nat) (zs : Nat → Int) (w : World) (hnil : a = none → n = 0 ∧ c = 0) (hR : Reads w a n (U16 zs)) (hb : b < 18446744073709551616) (hT : TabP w) (hU : Lib.TabIs Tryd.prog w "internal/strconv.uint64pow10" .u64 Lib.pow10Tab) :
    Calls Tryd.prog 4 #[.int .i32 s, .int .u8 k, .float .f64 b, .slice a n c] w (LawOut w) := by
  by_cases hn : n ≤ 65536
  · by_cases hk : k < 1 ∨ 6 < k
    · exact lawOdd s k b a n c w hn hk
    · rcases (by omega : k = 1 ∨ k = 2 ∨ k = 3 ∨ k = 4 ∨ k = 5 ∨ k = 6) with rfl | rfl | rfl | rfl | rfl | rfl
      · exact law1 s b a n c zs w hnil hn hR hb hT hU
      · exact law2 s b a n c zs w hnil hn hR hb hT hU
      · exact law3 s b a n c zs w hnil hn hR hb hT hU
      · exact law4 s b a n c zs w hnil hn hR hb hT hU
      · exact law5 s b a n c zs w hnil hn hR hb hT hU (hz_of b hb)
      · exact law6 s b a n c zs w hnil hn hR hb hT hU
  · exact lawLong s k b a n c w hn
end Go.Proofs.YtjbnddhohkociaaDoor
