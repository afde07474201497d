/-
  Proved: contracts of zzBytes_FnMediaQueryBinaryJoin, zzSumLen, zzCloneStrings. No statement of the seat stands here.
-/
import Derived.Test.YtogkpfdnfjlflaaGreatFmtZnot
import Derived.Lib.SliceRun
namespace Go.Proofs.YtogkpfdnfjlflaaGreatFmt
open Go.RowKit Go.ChangeAt
set_option linter.unusedSimpArgs false
set_option linter.unusedVariables false
/-- The lengths of the first texts, summed. -/
def sumTo (f : Nat → ByteArray) : Nat → Nat
  | 0 => 0
  | k + 1 => sumTo f k + (f k).size
theorem sumTo_mono (f : Nat → ByteArray) {j k : Nat} (h : j ≤ k) : sumTo f j ≤ sumTo f k := by
  induction k with
  | zero => obtain rfl : j = 0 := by omega
            exact Nat.le_refl _
  | succ k ih =>
    by_cases h2 : j ≤ k
    · have := ih h2
      simp only [sumTo]
      omega
    · obtain rfl : j = k + 1 := by omega
      exact Nat.le_refl _
def Bounded (n : Nat) (f : Nat → ByteArray) (w : World) (e : Ending) (w' : World) : Prop := ∃ r : Bool, e = .returned (.bool r) ∧ w = w' ∧ (r = true → n + sumTo f n ≤ 1048576)
theorem zb7 (a : Option Addr) (n c : Nat) (f : Nat → ByteArray) (v1 v2 v3 : Value) (w : World) (hR : Reads w a n fun i => .string (f i)) (hn : n ≤ 9223372036854775807) :
    Calls Tryz.prog 7 #[.slice a n c, v1, v2, v3] w (Bounded n f w) := by
  have HR := Lib.hid hR
  clear hR
  by_cases hn1 : n ≤ 1048576
  · have hx1 : ¬ (1048576 : Int) < (n : Int) := by omega
    go_enter Tryz.func7, Tryz.ntmps7
    go_wp2
    go_loop [9, 10] (fun z i => ∃ k : Nat, k ≤ n ∧ i = .int .i64 k ∧ z = .int .i64 ((n + sumTo f k : Nat) : Int) ∧ n + sumTo f k ≤ 1048576) (fun _ i => n - (intOf i).toNat)
    case atStart => exact ⟨0, by omega, rfl, by simp [sumTo], by simpa [sumTo] using hn1⟩
    case round =>
      obtain ⟨k, hk, rfl, rfl, hb⟩ := hrel
      by_cases hlt : k < n
      · rcases HR.out with h0 | ⟨g, o, rfl, hR1⟩
        · omega
        have hc := hR1 k hlt
        clear hR1
        by_cases h1 : (f k).size ≤ 1048576
        · by_cases h2 : n + sumTo f (k + 1) ≤ 1048576
          · have hs : sumTo f (k + 1) = sumTo f k + (f k).size := rfl
            have hx2 : ¬ (1048576 : Int) < ((f k).size : Int) := by omega
            have hx3 : ¬ (1048576 : Int) < ((n + sumTo f k : Nat) : Int) + ((f k).size : Int) := by omega
            go_wp2
            go_round
            case rel => exact ⟨k + 1, by omega, by go_num, by go_num, h2⟩
            case measure => simp [intOf]; omega
          · have hs : sumTo f (k + 1) = sumTo f k + (f k).size := rfl
            have hx2 : ¬ (1048576 : Int) < ((f k).size : Int) := by omega
            have hx3 : (1048576 : Int) < ((n + sumTo f k : Nat) : Int) + ((f k).size : Int) := by omega
            go_wp2
            go_ret
            exact ⟨false, rfl, rfl, fun h => by cases h⟩
        · have hx2 : (1048576 : Int) < ((f k).size : Int) := by omega
          go_wp2
          go_ret
          exact ⟨false, rfl, rfl, fun h => by cases h⟩
      · obtain rfl : k = n := by omega
        go_wp2
        go_ret
        exact ⟨true, rfl, rfl, fun _ => hb⟩
  · have hx1 : (1048576 : Int) < (n : Int) := by omega
    go_enter Tryz.func7, Tryz.ntmps7
    go_wp2
    go_ret
    exact ⟨false, rfl, rfl, fun h => by cases h⟩
theorem sum8 (a : Option Addr) (n c : Nat) (f : Nat → ByteArray) (w : World) (hR : Reads w a n fun i => .string (f i)) (hb : n + sumTo f n ≤ 1048576) :
    Calls Tryz.prog 8 #[.slice a n c] w (fun e w' => e = .returned (.int .i64 ((16 * n + sumTo f n : Nat) : Int)) ∧ w = w') := by
  have HR := Lib.hid hR
  clear hR
  go_enter Tryz.func8, Tryz.ntmps8
  go_wp2
  go_loop [3, 4] (fun z i => ∃ k : Nat, k ≤ n ∧ i = .int .i64 k ∧ z = .int .i64 ((16 * n + sumTo f k : Nat) : Int)) (fun _ i => n - (intOf i).toNat)
  case atStart => exact ⟨0, by omega, rfl, by simp [sumTo]; go_num⟩
  case round =>
    obtain ⟨k, hk, rfl, rfl⟩ := hrel
    have hm := sumTo_mono f hk
    by_cases hlt : k < n
    · rcases HR.out with h0 | ⟨g, o, rfl, hR1⟩
      · omega
      have hc := hR1 k hlt
      clear hR1
      have hm2 := sumTo_mono f (show k + 1 ≤ n by omega)
      have hs : sumTo f (k + 1) = sumTo f k + (f k).size := rfl
      go_wp2
      go_round
      case rel => exact ⟨k + 1, by omega, by go_num, by go_num⟩
      case measure => simp [intOf]; omega
    · obtain rfl : k = n := by omega
      go_wp2
      go_ret
      exact ⟨rfl, rfl⟩
theorem info9 : (Tryz.prog.info? 9).map (fun i => (i.zero, i.size, i.bytes)) = some (some (.string ⟨#[]⟩), 1, 16) := by kernel_rfl
theorem clone9 (a : Option Addr) (n c : Nat) (ns : Nat → ByteArray) (w : World) (hnil : a = none → n = 0) (hn : n ≤ 1048576) (hR : Reads w a n fun i => .string (ns i)) :
    Calls Tryz.prog 9 #[.slice a n c] w (Copied n (fun i => .string (ns i)) w) := by
  cases a with
  | none =>
    obtain rfl := hnil rfl
    have hq := fun W : World => Lib.run_eql_slice_nil (P := Tryz.prog) W 24 9 none 0 c 0 0 Tryz.underlying24
    go_enter Tryz.func9, Tryz.ntmps9
    go_wp2
    go_ret
    exact ⟨none, 0, rfl, .inl rfl, Chg.refl _ _, fun _ _ h => by cases h⟩
  | some ad =>
    have hq := fun W : World => Lib.run_eql_slice_nil (P := Tryz.prog) W 24 9 (some ad) n c 0 0 Tryz.underlying24
    obtain ⟨i0, hi, hz0, hz1, hz2⟩ := info_parts info9
    have hmk := fun W : World => run_make_one (P := Tryz.prog) 24 9 i0 _ Tryz.underlying24 hi hz0 hz1 rfl _ hz2 n (by omega) (by omega) W
    have HR := Lib.hid hR
    clear hR hi hz0 hz1 hz2
    go_enter Tryz.func9, Tryz.ntmps9
    go_wp2
    clear hmk hq
    go_loopw [4] (fun i wr => ∃ k : Nat, k ≤ n ∧ i = .int .i64 k ∧ Made w wr 9 n k (fun i => .string (ns i))) (fun i _ => n - (intOf i).toNat)
    case atStart => exact ⟨0, by omega, rfl, Made.start _ _ _ _ _⟩
    case round =>
      obtain ⟨k, hk, rfl, hm⟩ := hrel
      by_cases hlt : k < n
      · rcases HR.out with h0 | ⟨g, o, h1, hR1⟩
        · omega
        injection h1 with h1
        subst h1
        have hc := hm.1.cell (hR1 k hlt) (fun h => h)
        obtain ⟨v0, hc0⟩ := hm.cell k hlt
        have hf0 := hm.frozen k
        have Hm := Lib.hid hm
        clear hR1 hm
        go_wp2
        go_roundw
        case rel => exact ⟨k + 1, by omega, by go_num, Hm.out.step hlt⟩
        case measure => simp [intOf]; omega
      · obtain rfl : k = n := by omega
        have Hm := Lib.hid hm
        clear hm
        go_wp2
        go_ret
        exact ⟨_, _, rfl, Hm.out.reads, Hm.out.1, fun g o h => by injection h with h; injection h with h1 h2; exact ⟨by omega, by rw [← h1]; exact Hm.out.lt⟩⟩
end Go.Proofs.YtogkpfdnfjlflaaGreatFmt
