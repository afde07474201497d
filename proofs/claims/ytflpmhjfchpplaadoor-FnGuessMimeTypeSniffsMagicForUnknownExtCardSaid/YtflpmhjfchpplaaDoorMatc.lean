/-
  Proved: contract of the mp4 signature's match. No statement of the seat stands here.
-/
import Derived.Test.YtflpmhjfchpplaaDoorMatb
namespace Go.Proofs.YtflpmhjfchpplaaDoor
open Go.RowKit Go.ChangeAt
set_option linter.unusedSimpArgs false
set_option linter.unusedVariables false
set_option maxRecDepth 100000
theorem bits_or_u32_nat (a b : Nat) (ha : a < 4294967296) (hb : b < 4294967296) : bits .or .u32 (a : Int) (b : Int) = ((a ||| b : Nat) : Int) := by
  have hx : a ||| b < 2 ^ 32 := Nat.or_lt_two_pow (by omega) (by omega)
  have h1 : (BitVec.ofInt 32 (a : Int)).toNat = a := by
    rw [BitVec.ofInt_natCast, BitVec.toNat_ofNat]; exact Nat.mod_eq_of_lt (by omega)
  have h2 : (BitVec.ofInt 32 (b : Int)).toNat = b := by
    rw [BitVec.ofInt_natCast, BitVec.toNat_ofNat]; exact Nat.mod_eq_of_lt (by omega)
  show IntKind.u32.wrap ((BitVec.ofInt 32 (a : Int) ||| BitVec.ofInt 32 (b : Int)).toNat : Int) = _
  rw [BitVec.toNat_or, h1, h2, IntKind.wrap_u32]
  omega
/-- The size that stands in the first four bytes. -/
theorem box_size (a b c d : Nat) (ha : a < 256) (hb : b < 256) (hc : c < 256) (hd : d < 256) (h1 : 1 ≤ a) : ∃ y1 y2 y : Nat, bits .or .u32 (d : Int) ((c : Int) * 256) = (y1 : Int) ∧ bits .or .u32 (y1 : Int) ((b : Int) * 65536) = (y2 : Int) ∧ bits .or .u32 (y2 : Int) ((a : Int) * 16777216) = (y : Int) ∧ 16777216 ≤ y ∧ y ≤ 4294967295 := by
  have o1 : d ||| c * 256 < 2 ^ 32 := Nat.or_lt_two_pow (by omega) (by omega)
  have o2 : (d ||| c * 256) ||| b * 65536 < 2 ^ 32 := Nat.or_lt_two_pow o1 (by omega)
  have o3 : ((d ||| c * 256) ||| b * 65536) ||| a * 16777216 < 2 ^ 32 := Nat.or_lt_two_pow o2 (by omega)
  have o4 : a * 16777216 ≤ ((d ||| c * 256) ||| b * 65536) ||| a * 16777216 := Nat.right_le_or
  refine ⟨d ||| c * 256, (d ||| c * 256) ||| b * 65536, ((d ||| c * 256) ||| b * 65536) ||| a * 16777216, ?_, ?_, ?_, by omega, by omega⟩
  · exact bits_or_u32_nat d (c * 256) (by omega) (by omega)
  · exact bits_or_u32_nat _ (b * 65536) (by omega) (by omega)
  · exact bits_or_u32_nat _ (a * 16777216) (by omega) (by omega)
set_option maxHeartbeats 8000000 in
theorem mp4_61 (a : Option Addr) (n c k : Nat) (l : List UInt8) (w : World) (hd : Dat w a n c l) (hN : l.length < 12 ∨ (∃ x t, l = x :: t ∧ 1 ≤ x.toNat) ∧ l.length ≤ 512) :
    Calls Tryd.prog 61 #[.agg #[], .slice a n c, .int .i64 k] w (StrOut [] w) := by
  have hln := hd.len
  by_cases h12 : n < 12
  · have x1 : ((n : Nat) : Int) < 12 := by omega
    clear hd hN h12
    go_enter Tryd.func61, Tryd.ntmps61
    go_wp2_with fail
    go_ret
    exact ⟨rfl, (Chg.refl _ _).alloc _⟩
  · have x1 : ¬ ((n : Nat) : Int) < 12 := by omega
    obtain ⟨g, o, rfl, h3⟩ := hd.at (by omega)
    have d0 := h3 0 (by omega)
    have d1 := h3 1 (by omega)
    have d2 := h3 2 (by omega)
    have d3 := h3 3 (by omega)
    rw [Nat.add_zero] at d0
    have hx0 : 1 ≤ (l.getD 0 0).toNat := by
      rcases hN with h | ⟨⟨x, t, rfl, h⟩, _⟩
      · omega
      · exact h
    have hn5 : n ≤ 512 := by
      rcases hN with h | ⟨_, h⟩ <;> omega
    have l0 : (l.getD 0 0).toNat < 256 := UInt8.toNat_lt _
    have l1 : (l.getD 1 0).toNat < 256 := UInt8.toNat_lt _
    have l2 : (l.getD 2 0).toNat < 256 := UInt8.toNat_lt _
    have l3 : (l.getD 3 0).toNat < 256 := UInt8.toNat_lt _
    have lg : g < w.heap.size := World.block_lt_of_cell? w _ d0
    have y0 : (0 : Int) < (n : Int) := by omega
    have y1 : (1 : Int) < (n : Int) := by omega
    have y2 : (2 : Int) < (n : Int) := by omega
    have y3 : (3 : Int) < (n : Int) := by omega
    clear hd hN h12 h3 hln
    generalize (l.getD 0 0).toNat = X0 at *
    generalize (l.getD 1 0).toNat = X1 at *
    generalize (l.getD 2 0).toNat = X2 at *
    generalize (l.getD 3 0).toNat = X3 at *
    obtain ⟨y1, y2, y, q1, q2, q3, q4, q5⟩ := box_size X0 X1 X2 X3 l0 l1 l2 l3 hx0
    have q6 : (n : Int) < (y : Int) := by omega
    have q7 : (y : Int) ≤ 4294967295 := by omega
    clear q4 q5 hn5
    go_enter Tryd.func61, Tryd.ntmps61
    go_wp2_with fail
    go_quiet (fail)
    go_wp2_with fail
    go_ret
    exact ⟨rfl, ((Chg.refl _ _).alloc _).drewN _⟩
end Go.Proofs.YtflpmhjfchpplaaDoor
