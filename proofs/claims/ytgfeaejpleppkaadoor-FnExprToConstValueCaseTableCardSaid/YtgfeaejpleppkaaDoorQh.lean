/-
  Proved: contracts of the law's copy and comparison of 16-bit slices and of its size test. No statement of the seat stands here.
-/
import Derived.Test.YtgfeaejpleppkaaDoorQe
namespace Go.Proofs.YtgfeaejpleppkaaDoor
open Go.RowKit Go.ChangeAt
set_option linter.unusedSimpArgs false
set_option linter.unusedVariables false
set_option maxRecDepth 100000
theorem eqNil (a : Option Addr) (n c : Nat) (w : World) : (binOp .eql 23 (.slice a n c) (.slice none 0 0)).run Tryd.prog w = .ok (.bool a.isNone) w := Lib.run_eql_slice_nil w 23 59 a n c 0 0 Tryd.underlying23
theorem info16 : (Tryd.prog.info? 59).map (fun i => (i.zero, i.size, i.bytes)) = some (some (.int .u16 0), 1, 2) := by kernel_rfl
def U16 (zs : Nat → Int) : Nat → Value := fun i => .int .u16 (zs i)
theorem clone6 (a : Option Addr) (n c : Nat) (zs : Nat → Int) (w : World) (hnil : a = none → n = 0 ∧ c = 0) (hn : n ≤ 1048576) (hR : Reads w a n (U16 zs)) :
    Calls Tryd.prog 10 #[.slice a n c] w (Copied n (U16 zs) w) := by
  cases a with
  | none =>
    obtain ⟨rfl, rfl⟩ := hnil rfl
    have hq := eqNil none 0 0
    go_enter Tryd.func10, Tryd.ntmps10
    go_wp2_with fail
    go_ret
    exact ⟨none, 0, rfl, .inl rfl, Chg.refl _ _, fun _ _ h => by cases h⟩
  | some ad =>
    have hq := eqNil (some ad) n c
    obtain ⟨i0, hi, hz0, hz1, hz2⟩ : ∃ i, Tryd.prog.info? 59 = some i ∧ i.zero = some (.int .u16 0) ∧ i.size = 1 ∧ i.bytes = 2 := by
      have h := info16
      cases hi : Tryd.prog.info? 59 with
      | none => rw [hi] at h; cases h
      | some i =>
        rw [hi] at h
        simp only [Option.map_some, Option.some.injEq, Prod.mk.injEq] at h
        exact ⟨i, rfl, h.1, h.2.1, h.2.2⟩
    have hmk := fun W : World => run_make_one (P := Tryd.prog) 23 59 i0 _ Tryd.underlying23 hi hz0 hz1 rfl _ hz2 n (by omega) (by omega) W
    have HR := Lib.hid hR
    clear hR hi hz0 hz1 hz2 hnil
    go_enter Tryd.func10, Tryd.ntmps10
    go_wp2_with fail
    clear hmk hq
    go_loopw [4] (fun i wr => ∃ k : Nat, k ≤ n ∧ i = .int .i64 k ∧ Made w wr 59 n k (U16 zs)) (fun i _ => n - (intOf i).toNat)
    case atStart => exact ⟨0, by omega, rfl, Made.start _ _ _ _ _⟩
    case round =>
      obtain ⟨k, hk, rfl, hm⟩ := hrel
      by_cases hlt : k < n
      · rcases HR.out with h0 | ⟨g, o, h1, hR1⟩
        · omega
        injection h1 with h1
        subst h1
        have hc := hm.1.cell (hR1 k hlt) (fun h => h)
        unfold U16 at hc
        obtain ⟨v0, hc0⟩ := hm.cell k hlt
        have hf0 := hm.frozen k
        have hx : (k : Int) < (n : Int) := by omega
        have hx0 : (0 : Int) ≤ (k : Int) := by omega
        have Hm := Lib.hid hm
        clear hR1 hm
        go_wp2_with fail
        go_roundw
        case rel => exact ⟨k + 1, by omega, by go_num, Hm.out.step hlt⟩
        case measure => simp [intOf]; omega
      · obtain rfl : k = n := by omega
        have Hm := Lib.hid hm
        have hx : ¬ (k : Int) < (k : Int) := by omega
        clear hm
        go_wp2_with fail
        go_ret
        exact ⟨_, _, rfl, Hm.out.reads, Hm.out.1, fun g o h => by injection h with h; injection h with h1 h2; exact ⟨by omega, by rw [← h1]; exact Hm.out.lt⟩⟩
def TrueQ (w : World) (e : Ending) (w' : World) : Prop := e = .returned (.bool true) ∧ ∃ q, w' = w.drewN q
theorem same14 (a : Option Addr) (n c c2 : Nat) (zs : Nat → Int) (w : World) (hn : n ≤ 1048576) (hR : Reads w a n (U16 zs)) :
    Calls Tryd.prog 17 #[.slice a n c, .slice a n c2] w (TrueQ w) := by
  have HR := Lib.hid hR
  have hq1 := eqNil a n c
  have hq2 := eqNil a n c2
  clear hR
  go_enter Tryd.func17, Tryd.ntmps17
  go_wp2_with fail
  go_loopw [5] (fun i wr => ∃ k : Nat, k ≤ n ∧ i = .int .i64 k ∧ ∃ q, wr = w.drewN q) (fun i _ => n - (intOf i).toNat)
  case atStart => exact ⟨0, by omega, rfl, 0, rfl⟩
  case round =>
    obtain ⟨k, hk, rfl, q0, rfl⟩ := hrel
    by_cases hlt : k < n
    · rcases HR.out with h0 | ⟨g, o, rfl, hR1⟩
      · omega
      have hc := hR1 k hlt
      unfold U16 at hc
      have hx : (k : Int) < (n : Int) := by omega
      have hx0 : (0 : Int) ≤ (k : Int) := by omega
      clear hR1
      go_wp2_with fail
      go_region
      go_wp2_with fail
      go_roundw
      case rel => exact ⟨k + 1, by omega, by go_num, _, rfl⟩
      case measure => simp [intOf]; omega
    · have hx : ¬ (k : Int) < (n : Int) := by omega
      go_wp2_with fail
      go_ret
      exact ⟨rfl, q0, rfl⟩
end Go.Proofs.YtgfeaejpleppkaaDoor
