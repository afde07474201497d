/-
  Proved: contracts of the law on patterns: its flags. No statement of the seat stands here.
-/
import Derived.Test.YtcbmankbjgbjgaaGreatFmtIexx
import Derived.Test.YtcbmankbjgbjgaaGreatFmtHelp4
namespace Go.Proofs.YtcbmankbjgbjgaaGreatFmt
open Go.RowKit Go.ChangeAt
open Go.Extern.Stop Go.Stop Go.Extern
set_option linter.unusedSimpArgs false
set_option linter.unusedVariables false
set_option maxRecDepth 100000
theorem star19x (s : ByteArray) (w : World) (hs : s.size ≤ 16777216) : Calls Tryz.prog 19 #[.string s, .int .u8 42] w (StarOut s w) := by
  go_enter Tryz.func19, Tryz.ntmps19
  go_wp2_with fail
  go_loop [5] (fun i => ∃ k : Nat, k ≤ s.size ∧ i = .int .i64 k ∧ ∀ j, j < k → bt s j ≠ 42) (fun i => s.size - (intOf i).toNat)
  case atStart => exact ⟨0, by omega, rfl, fun j hj => by omega⟩
  case round =>
    obtain ⟨k, hk, rfl, hno⟩ := hrel
    have Hno := Lib.hid hno
    clear hno
    by_cases hlt : k < s.size
    · have hb := bt_eq s k hlt
      have hx : (k : Int) < (s.size : Int) := by omega
      have hx0 : (0 : Int) ≤ (k : Int) := by omega
      by_cases h42 : bt s k = 42
      · have e1 : ((bt s k : Int) == 42) = true := beq_iff_eq.2 (by omega)
        have H42 := Lib.hid h42
        clear h42
        go_wp2_with fail
        go_ret
        exact ⟨true, rfl, rfl, (fun _ => ⟨k, hlt, H42.out⟩), fun h => by cases h⟩
      · have e1 : ((bt s k : Int) == 42) = false := beq_eq_false_iff_ne.2 (by omega)
        have H42 := Lib.hid h42
        clear h42
        go_wp2_with fail
        go_round
        case rel => exact ⟨k + 1, by omega, by go_num, fun j hj => by
          by_cases e : j = k
          · subst e; exact H42.out
          · exact Hno.out j (by omega)⟩
        case measure => simp [intOf]; omega
    · obtain rfl : k = s.size := by omega
      have hx : ¬ ((s.size : Int)) < (s.size : Int) := by omega
      go_wp2_with fail
      go_ret
      exact ⟨false, rfl, rfl, (fun h => by cases h), fun _ => Hno.out⟩
set_option maxHeartbeats 4000000 in
theorem exp15x (s : ByteArray) (w : World) (hs : s.size ≤ 16777216) : Calls Tryz.prog 15 #[.string s] w (ExpOut s w) := by
  by_cases h0 : s.size = 0
  · have x0 : ¬ (0 : Int) < (s.size : Int) := by omega
    have H0 := Lib.hid h0
    clear h0
    go_enter Tryz.func15, Tryz.ntmps15
    go_wp2_with fail
    refine (star19x s w hs).mono ?_
    rintro e1 w1 ⟨r, rfl, rfl, hr1, hr2⟩
    have Hr1 := Lib.hid hr1
    have Hr2 := Lib.hid hr2
    clear hr1 hr2
    cases r
    · go_wp2_with fail
      go_ret
      exact ⟨false, rfl, rfl, (fun h => by cases h), fun _ => not_exp s (Hr2.out (by trivial)) (fun L hL => by have := H0.out; omega)⟩
    · go_wp2_with fail
      go_ret
      exact ⟨true, rfl, rfl, (fun _ => by obtain ⟨i, hi, hb⟩ := Hr1.out (by trivial); exact exp_star s i hi hb), fun h => by cases h⟩
  · obtain ⟨L, hL⟩ : ∃ L, s.size = L + 1 := ⟨s.size - 1, by omega⟩
    have x0 : (0 : Int) < (s.size : Int) := by omega
    have hl : L < s.size := by omega
    have b0 := bt_eq s L hl
    have hi1 : ((s.size : Int) - 1).toNat = L := by omega
    have hi2 : (0 : Int) ≤ (s.size : Int) - 1 := by omega
    have hi3 : (s.size : Int) - 1 < (s.size : Int) := by omega
    have HL := Lib.hid hL
    clear hL
    by_cases h47 : bt s L = 47
    · have e0 : ((bt s L : Int) == 47) = true := beq_iff_eq.2 (by omega)
      have H47 := Lib.hid h47
      clear h47
      go_enter Tryz.func15, Tryz.ntmps15
      go_wp2_with fail
      go_ret
      exact ⟨true, rfl, rfl, (fun _ => exp_slash s L HL.out H47.out), fun h => by cases h⟩
    · have e0 : ((bt s L : Int) == 47) = false := beq_eq_false_iff_ne.2 (by omega)
      have H47 := Lib.hid h47
      clear h47
      go_enter Tryz.func15, Tryz.ntmps15
      go_wp2_with fail
      refine (star19x s w hs).mono ?_
      rintro e1 w1 ⟨r, rfl, rfl, hr1, hr2⟩
      have Hr1 := Lib.hid hr1
      have Hr2 := Lib.hid hr2
      clear hr1 hr2
      cases r
      · go_wp2_with fail
        go_ret
        exact ⟨false, rfl, rfl, (fun h => by cases h), fun _ => not_exp s (Hr2.out (by trivial)) (last_ne s L HL.out H47.out)⟩
      · go_wp2_with fail
        go_ret
        exact ⟨true, rfl, rfl, (fun _ => by obtain ⟨i, hi, hb⟩ := Hr1.out (by trivial); exact exp_star s i hi hb), fun h => by cases h⟩
def FlagYes (n : Nat) (w : World) (e : Ending) (w' : World) : Prop := ∃ a c, e = .returned (.slice (some a) n c) ∧ Reads w' (some a) n yesAt ∧ Chg Nowhere w w'
set_option maxHeartbeats 4000000 in
theorem flags9x (a : Option Addr) (n c : Nat) (f : Nat → ByteArray) (w : World) (hF : Reads w a n (strAt f)) (hn : n ≤ 1048576) (hs : ∀ i, i < n → (f i).size ≤ 16777216) (hne : ∀ i, i < n → Exp (f i)) : Calls Tryz.prog 9 #[.slice a n c] w (FlagYes n w) := by
  have HF := Lib.hid hF
  have Hs := Lib.hid hs
  have Hne := Lib.hid hne
  clear hF hs hne
  obtain ⟨i0, hi, hz0, hz1, hz2⟩ := info_parts info4
  have hmk := run_make_one (P := Tryz.prog) 27 4 i0 _ Tryz.underlying27 hi hz0 hz1 rfl 1 hz2 n (by omega) (by omega) w
  clear hi hz0 hz1 hz2
  go_enter Tryz.func9, Tryz.ntmps9
  go_wp2_with fail
  clear hmk
  go_loopw [4] (fun i wr => ∃ k : Nat, k ≤ n ∧ i = .int .i64 k ∧ Made w wr 4 n k yesAt) (fun i _ => n - (intOf i).toNat)
  case atStart => exact ⟨0, by omega, rfl, Made.start w 4 _ n yesAt⟩
  case round =>
    obtain ⟨k, hk, rfl, hm⟩ := hrel
    by_cases hlt : k < n
    · rcases HF.out with h0 | ⟨g, o, rfl, hR1⟩
      · omega
      have hch : Chg Nowhere w wr := hm.1
      have hc := hch.cell (hR1 k hlt) (fun h => h)
      obtain ⟨v, hv⟩ := hm.cell k hlt
      have hf := hm.frozen k
      have hl := hm.lt
      have Hm := Lib.hid hm
      clear hR1 hm hch
      unfold strAt at hc
      have hx1 : (k : Int) < (n : Int) := by omega
      have hx0 : (0 : Int) ≤ (k : Int) := by omega
      go_wp2_with fail
      refine (exp15x (f k) wr (Hs.out k hlt)).mono ?_
      rintro e1 w1 ⟨r, rfl, rfl, hr1, hr2⟩
      have hrf : r = true := by
        cases r
        · exact absurd (Hne.out k hlt) (hr2 rfl)
        · rfl
      subst hrf
      clear hr1 hr2
      go_wp2_with fail
      go_roundw
      case rel => exact ⟨k + 1, by omega, by go_num, Hm.out.step hlt⟩
      case measure => simp [intOf]; omega
    · obtain rfl : k = n := by omega
      have Hm := Lib.hid hm
      clear hm
      go_wp2_with fail
      go_ret
      exact ⟨_, _, rfl, Hm.out.reads, Hm.out.1⟩
end Go.Proofs.YtcbmankbjgbjgaaGreatFmt
