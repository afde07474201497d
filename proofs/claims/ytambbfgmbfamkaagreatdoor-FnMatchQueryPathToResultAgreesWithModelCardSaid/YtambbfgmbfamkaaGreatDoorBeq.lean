/-
  Proved: the contract of zzBytesEq at equal rows. No statement of the seat stands here.
-/
import Derived.Test.YtambbfgmbfamkaaGreatDoorHela
namespace Go.Proofs.YtambbfgmbfamkaaGreatDoor
open Go.RowKit Go.ChangeAt
set_option linter.unusedSimpArgs false
set_option linter.unusedVariables false
set_option maxRecDepth 100000
def byteAt (l : Nat → Nat) (i : Nat) : Value := .int .u8 (l i)
def YesOut (w : World) (e : Ending) (w' : World) : Prop := e = .returned (.bool true) ∧ Chg Nowhere w w'
theorem eq12 (a b : Option Addr) (n c d : Nat) (l : Nat → Nat) (w : World) (hA : Reads w a n (byteAt l)) (hB : Reads w b n (byteAt l)) (hn : n ≤ 1048576) (hc : n ≤ c) (hd : n ≤ d) (hc2 : c ≤ 9223372036854775807) (hd2 : d ≤ 9223372036854775807) :
    Calls Tryz.prog 12 #[.slice a n c, .slice b n d] w (YesOut w) := by
  have HA := Lib.hid hA
  have HB := Lib.hid hB
  clear hA hB
  go_enter Tryz.func12, Tryz.ntmps12
  go_wp2_with fail
  go_loopw [5] (fun i wr => ∃ k : Nat, k ≤ n ∧ i = .int .i64 k ∧ Chg Nowhere w wr) (fun i _ => n - (intOf i).toNat)
  case atStart => exact ⟨0, by omega, rfl, Chg.refl _ _⟩
  case round =>
    obtain ⟨k, hk, rfl, hch⟩ := hrel
    rename World => wr
    have Hch := Lib.hid hch
    by_cases hlt : k < n
    · rcases HA.out with h0 | ⟨g, o, rfl, hR1⟩
      · omega
      rcases HB.out with h0 | ⟨g2, o2, rfl, hR2⟩
      · omega
      have c1 := hch.cell (hR1 k hlt) (fun h => h)
      have c2 := hch.cell (hR2 k hlt) (fun h => h)
      unfold byteAt at c1 c2
      have hx : (k : Int) < (n : Int) := by omega
      have hx0 : (0 : Int) ≤ (k : Int) := by omega
      clear hR1 hR2 hch
      go_wp2_with fail
      go_quiet (fail)
      go_wp2_with fail
      go_roundw
      case rel => exact ⟨k + 1, by omega, by go_num, Hch.out.drewN _⟩
      case measure => simp [intOf]; omega
    · obtain rfl : k = n := by omega
      have hx : ¬ ((k : Nat) : Int) < (k : Int) := by omega
      go_wp2_with fail
      go_ret
      exact ⟨rfl, Hch.out⟩
end Go.Proofs.YtambbfgmbfamkaaGreatDoor
