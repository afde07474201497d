/-
  Proved: contract of zzBytes_FnComplexSelectorsConcatenate. No statement of the seat stands here.
-/
import Derived.Test.YtadmncfemgmioaaGreatFmtHelp
namespace Go.Proofs.YtadmncfemgmioaaGreatFmt
open Go.RowKit Go.ChangeAt
set_option linter.unusedSimpArgs false
set_option linter.unusedVariables false
set_option maxRecDepth 100000
set_option maxHeartbeats 8000000 in
theorem zz4 (v0 v3 v4 : Value) (a a2 : Option Addr) (n c n2 c2 : Nat) (X Y : Nat → List UInt8) (ca cb : Nat → Option Addr) (cc cd : Nat → Nat) (w : World) (hX : Nested w a n X ca cc) (hY : Nested w a2 n2 Y cb cd) :
    Calls Tryz.prog 4 #[v0, .slice a n c, .slice a2 n2 c2, v3, v4] w (Bound2 (n + sumL X n + n2 + sumL Y n2) w) := by
  have HX := Lib.hid hX
  have HY := Lib.hid hY
  clear hX hY
  by_cases hn1 : n ≤ 1048576
  · have x1 : ¬ (1048576 : Int) < (n : Int) := by omega
    go_enter Tryz.func4, Tryz.ntmps4
    go_wp2
    go_loop [11, 12] (fun z i => ∃ k : Nat, k ≤ n ∧ i = .int .i64 k ∧ z = .int .i64 ((n + sumL X k : Nat) : Int) ∧ n + sumL X k ≤ 1048576) (fun _ i => n - (intOf i).toNat)
    case atStart => exact ⟨0, by omega, rfl, by simp only [sumL]; go_num, by simp only [sumL]; omega⟩
    case round =>
      obtain ⟨k, hk, rfl, rfl, hb⟩ := hrel
      by_cases hlt : k < n
      · rcases HX.out.row with h0 | ⟨g, o, rfl, hR1⟩
        · omega
        have hc := hR1 k hlt
        clear hR1
        by_cases h1 : (X k).length ≤ 1048576
        · have hs : sumL X (k + 1) = sumL X k + (X k).length := rfl
          have y2 : ¬ (1048576 : Int) < ((X k).length : Int) := by omega
          by_cases h2 : n + sumL X (k + 1) ≤ 1048576
          · have y3 : ¬ (1048576 : Int) < ((n + sumL X k : Nat) : Int) + ((X k).length : Int) := by omega
            go_wp2
            go_round
            case rel => exact ⟨k + 1, by omega, by go_num, by go_num, h2⟩
            case measure => simp [intOf]; omega
          · have y3 : (1048576 : Int) < ((n + sumL X k : Nat) : Int) + ((X k).length : Int) := by omega
            go_wp2
            go_ret
            exact ⟨false, rfl, rfl, fun h => by cases h⟩
        · have y2 : (1048576 : Int) < ((X k).length : Int) := by omega
          go_wp2
          go_ret
          exact ⟨false, rfl, rfl, fun h => by cases h⟩
      · obtain rfl : n = k := by omega
        by_cases hq1 : n2 ≤ 1048576
        · have z1 : ¬ (1048576 : Int) < (n2 : Int) := by omega
          by_cases hq2 : n + sumL X n + n2 ≤ 1048576
          · have z2 : ¬ (1048576 : Int) < ((n + sumL X n : Nat) : Int) + (n2 : Int) := by omega
            go_wp2
            go_loop [11, 13] (fun z i => ∃ k : Nat, k ≤ n2 ∧ i = .int .i64 k ∧ z = .int .i64 ((n + sumL X n + n2 + sumL Y k : Nat) : Int) ∧ n + sumL X n + n2 + sumL Y k ≤ 1048576) (fun _ i => n2 - (intOf i).toNat)
            case atStart => exact ⟨0, by omega, rfl, by simp only [sumL]; go_num, by simp only [sumL]; omega⟩
            case round =>
              obtain ⟨k, hk, rfl, rfl, hb⟩ := hrel
              by_cases hlt : k < n2
              · rcases HY.out.row with h0 | ⟨g, o, rfl, hR1⟩
                · omega
                have hc := hR1 k hlt
                clear hR1
                by_cases h1 : (Y k).length ≤ 1048576
                · have hs : sumL Y (k + 1) = sumL Y k + (Y k).length := rfl
                  have y2 : ¬ (1048576 : Int) < ((Y k).length : Int) := by omega
                  by_cases h2 : n + sumL X n + n2 + sumL Y (k + 1) ≤ 1048576
                  · have y3 : ¬ (1048576 : Int) < ((n + sumL X n + n2 + sumL Y k : Nat) : Int) + ((Y k).length : Int) := by omega
                    go_wp2
                    go_round
                    case rel => exact ⟨k + 1, by omega, by go_num, by go_num, h2⟩
                    case measure => simp [intOf]; omega
                  · have y3 : (1048576 : Int) < ((n + sumL X n + n2 + sumL Y k : Nat) : Int) + ((Y k).length : Int) := by omega
                    go_wp2
                    go_ret
                    exact ⟨false, rfl, rfl, fun h => by cases h⟩
                · have y2 : (1048576 : Int) < ((Y k).length : Int) := by omega
                  go_wp2
                  go_ret
                  exact ⟨false, rfl, rfl, fun h => by cases h⟩
              · obtain rfl : n2 = k := by omega
                go_wp2
                go_ret
                exact ⟨true, rfl, rfl, fun _ => hb⟩
          · have z2 : (1048576 : Int) < ((n + sumL X n : Nat) : Int) + (n2 : Int) := by omega
            go_wp2
            go_ret
            exact ⟨false, rfl, rfl, fun h => by cases h⟩
        · have z1 : (1048576 : Int) < (n2 : Int) := by omega
          go_wp2
          go_ret
          exact ⟨false, rfl, rfl, fun h => by cases h⟩
  · have x1 : (1048576 : Int) < (n : Int) := by omega
    go_enter Tryz.func4, Tryz.ntmps4
    go_wp2
    go_ret
    exact ⟨false, rfl, rfl, fun h => by cases h⟩
end Go.Proofs.YtadmncfemgmioaaGreatFmt
