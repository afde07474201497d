/-
  Proved: contracts of the premise's tests. No statement of the seat stands here.
-/
import Derived.Test.YtmmpajfajfkpcaaGreatFmtHelp
import Derived.Test.YtmmpajfajfkpcaaGreatFmtShelf
import Derived.Lib.IndexLaws
import Derived.Lib.Bytealg
namespace Go.Proofs.YtmmpajfajfkpcaaGreatFmt
open Go.RowKit Go.ChangeAt
set_option linter.unusedSimpArgs false
set_option linter.unusedVariables false
set_option maxRecDepth 100000
def bt (s : ByteArray) (i : Nat) : Nat := if h : i < s.size then (s[i]'h).toNat else 0
theorem bt_eq (s : ByteArray) (i : Nat) (h : i < s.size) : (s[i]'h).toNat = bt s i := by unfold bt; rw [dif_pos h]
/-- The key ends in a slash or holds a star. -/
def Exp (s : ByteArray) : Prop := Lib.hasSuffix s.data.toList [47] = true ∨ 0 ≤ Lib.indexByte s.data.toList 42
theorem toNat_eq {c : UInt8} {n : Nat} (h : c.toNat = n) (hn : n < 256) : c = UInt8.ofNat n := by
  apply UInt8.toNat_inj.1
  rw [h, UInt8.toNat_ofNat']
  omega
theorem exp_star (s : ByteArray) (i : Nat) (h : i < s.size) (hb : bt s i = 42) : Exp s := by
  right
  rw [← bt_eq s i h] at hb
  have hc : s.data.toList[i]? = some 42 := by
    have e := toNat_eq hb (by decide)
    have h2 : i < s.data.toList.length := by rw [Array.length_toList]; exact h
    rw [List.getElem?_eq_getElem h2]
    have : s.data.toList[i] = s[i] := rfl
    rw [this, e]
    rfl
  have hge := Lib.indexByte_ge s.data.toList 42
  by_cases h1 : Lib.indexByte s.data.toList 42 = -1
  · exact absurd hc (Lib.indexByte_none h1 i)
  · omega
theorem exp_slash (s : ByteArray) (L : Nat) (hs : s.size = L + 1) (hb : bt s L = 47) : Exp s := by
  left
  have hl : L < s.size := by omega
  rw [← bt_eq s L hl] at hb
  have e := toNat_eq hb (by decide)
  rw [← Lib.hasSuffix_of_drop]
  have h1 : s.data.toList.length = L + 1 := by rw [Array.length_toList]; exact hs
  have h2 : s.data.toList.drop L = [47] := by
    rw [List.drop_eq_getElem_cons (by omega), List.drop_eq_nil_of_le (by omega)]
    have : s.data.toList[L] = s[L] := rfl
    rw [this, e]
    rfl
  simp [h1, h2]
def ExpOut (s : ByteArray) (w : World) (e : Ending) (w' : World) : Prop := ∃ r : Bool, e = .returned (.bool r) ∧ w = w' ∧ (r = true → Exp s)
def AnyBool (w : World) (e : Ending) (w' : World) : Prop := ∃ r : Bool, e = .returned (.bool r) ∧ w = w'
set_option maxHeartbeats 4000000 in
theorem loop11 (s : ByteArray) (w : World) (hs : s.size ≤ 1048576) : Calls Tryz.prog 11 #[.string s] w (ExpOut s w) := by
  by_cases h0 : s.size = 0
  · have x0 : ¬ (0 : Int) < (s.size : Int) := by omega
    have H0 := Lib.hid h0
    clear h0
    go_enter Tryz.func11, Tryz.ntmps11
    go_wp2_with fail
    go_loop [3] (fun i => ∃ k : Nat, k ≤ s.size ∧ i = .int .i64 k) (fun i => s.size - (intOf i).toNat)
    case atStart => exact ⟨0, by omega, rfl⟩
    case round =>
      obtain ⟨k, hk, rfl⟩ := hrel
      have hx : ¬ (k : Int) < (s.size : Int) := by have := H0.out; omega
      go_wp2_with fail
      go_ret
      exact ⟨false, rfl, rfl, fun h => by cases h⟩
  · obtain ⟨L, hL⟩ : ∃ L, s.size = L + 1 := ⟨s.size - 1, by omega⟩
    have x0 : (0 : Int) < (s.size : Int) := by omega
    have hl : L < s.size := by omega
    have b0 := bt_eq s L hl
    have hi1 : ((s.size : Int) - 1).toNat = L := by omega
    have hi2 : (0 : Int) ≤ (s.size : Int) - 1 := by omega
    have hi3 : (s.size : Int) - 1 < (s.size : Int) := by omega
    have HL := Lib.hid hL
    clear hL
    by_cases h47 : bt s L = 47
    · have e0 : ((bt s L : Int) == 47) = true := beq_iff_eq.2 (by omega)
      have H47 := Lib.hid h47
      clear h47
      go_enter Tryz.func11, Tryz.ntmps11
      go_wp2_with fail
      go_ret
      exact ⟨true, rfl, rfl, fun _ => exp_slash s L HL.out H47.out⟩
    · have e0 : ((bt s L : Int) == 47) = false := beq_eq_false_iff_ne.2 (by omega)
      clear h47
      go_enter Tryz.func11, Tryz.ntmps11
      go_wp2_with fail
      clear b0 hi1 e0
      go_loop [3] (fun i => ∃ k : Nat, k ≤ s.size ∧ i = .int .i64 k) (fun i => s.size - (intOf i).toNat)
      case atStart => exact ⟨0, by omega, rfl⟩
      case round =>
        obtain ⟨k, hk, rfl⟩ := hrel
        by_cases hlt : k < s.size
        · have hb := bt_eq s k hlt
          have hx : (k : Int) < (s.size : Int) := by omega
          have hx0 : (0 : Int) ≤ (k : Int) := by omega
          by_cases h42 : bt s k = 42
          · have e1 : ((bt s k : Int) == 42) = true := beq_iff_eq.2 (by omega)
            have H42 := Lib.hid h42
            clear h42
            go_wp2_with fail
            go_ret
            exact ⟨true, rfl, rfl, fun _ => exp_star s k hlt H42.out⟩
          · have e1 : ((bt s k : Int) == 42) = false := beq_eq_false_iff_ne.2 (by omega)
            clear h42
            go_wp2_with fail
            go_round
            case rel => exact ⟨k + 1, by omega, by go_num⟩
            case measure => simp [intOf]; omega
        · have hx : ¬ (k : Int) < (s.size : Int) := by omega
          go_wp2_with fail
          go_ret
          exact ⟨false, rfl, rfl, fun h => by cases h⟩
theorem dot14 (s : ByteArray) (w : World) (hs : s.size ≤ 1048576) : Calls Tryz.prog 14 #[.string s] w (AnyBool w) := by
  by_cases h0 : s.size = 0
  · have x0 : ¬ (0 : Int) < (s.size : Int) := by omega
    clear h0
    go_enter Tryz.func14, Tryz.ntmps14
    go_wp2_with fail
    go_ret
    exact ⟨_, rfl, rfl⟩
  · have x0 : (0 : Int) < (s.size : Int) := by omega
    have b0 := bt_eq s 0 (by omega)
    go_enter Tryz.func14, Tryz.ntmps14
    go_wp2_with fail
    go_ret
    exact ⟨_, rfl, rfl⟩
theorem cons10 (a : Option Addr) (n c : Nat) (f : Nat → ByteArray) (w : World) (hF : Reads w a n (strAt f)) (hs : Small f n) : Calls Tryz.prog 10 #[.slice a n c] w (AnyBool w) := by
  have HF := Lib.hid hF
  have hn := hs.few
  have Hs := Lib.hid hs
  clear hF hs
  by_cases h0 : n = 0
  · have e0 : ((n : Int) == 0) = true := beq_iff_eq.2 (by omega)
    clear h0
    go_enter Tryz.func10, Tryz.ntmps10
    go_wp2_with fail
    go_ret
    exact ⟨_, rfl, rfl⟩
  · have e0 : ((n : Int) == 0) = false := beq_eq_false_iff_ne.2 (by omega)
    rcases HF.out with h1 | ⟨g, o, rfl, hR1⟩
    · omega
    have c0 := hR1 0 (by omega)
    have hz := Hs.out.short 0 (by omega)
    clear hR1
    unfold strAt at c0
    have hx0 : (0 : Int) < (n : Int) := by omega
    simp only [Nat.add_zero] at c0
    go_enter Tryz.func10, Tryz.ntmps10
    go_wp2_with fail
    refine (dot14 (f 0) w hz).mono ?_
    rintro e1 w1 ⟨r, rfl, rfl⟩
    go_wp2_with fail
    go_loop [4] (fun i => ∃ k : Nat, k ≤ n ∧ 1 ≤ k ∧ i = .int .i64 k) (fun i => n - (intOf i).toNat)
    case atStart => exact ⟨1, by omega, by omega, rfl⟩
    case round =>
      obtain ⟨k, hk, hk1, rfl⟩ := hrel
      by_cases hlt : k < n
      · rcases HF.out with h1 | ⟨g2, o2, h2, hR1⟩
        · omega
        injection h2 with h2
        injection h2 with h3 h4
        subst h3 h4
        have hc := hR1 k hlt
        have hz2 := Hs.out.short k hlt
        clear hR1
        unfold strAt at hc
        have hx : (k : Int) < (n : Int) := by omega
        have hx1 : (0 : Int) ≤ (k : Int) := by omega
        go_wp2_with fail
        refine (dot14 (f k) w hz2).mono ?_
        rintro e2 w2 ⟨r2, rfl, rfl⟩
        cases r <;> cases r2
        all_goals (
          go_wp2_with fail
          first | (go_ret; exact ⟨_, rfl, rfl⟩) | (go_round; (case rel => exact ⟨k + 1, by omega, by omega, by go_num⟩); (case measure => simp [intOf]; omega)))
      · have hx : ¬ (k : Int) < (n : Int) := by omega
        go_wp2_with fail
        go_ret
        exact ⟨_, rfl, rfl⟩
def PremOut (s : ByteArray) (kd : Int) (n : Nat) (f : Nat → ByteArray) (w : World) (e : Ending) (w' : World) : Prop :=
  ∃ r : Bool, e = .returned (.bool r) ∧ w = w' ∧ (r = true → (kd ≠ 3 → n = 0) ∧ (kd = 3 → Exp s ∨ ∀ i, i < n → f i ≠ s))
set_option maxHeartbeats 4000000 in
theorem prem6 (s : ByteArray) (kd : Int) (a : Option Addr) (n c : Nat) (f : Nat → ByteArray) (w : World) (hF : Reads w a n (strAt f)) (hs : Small f n) (hsz : s.size ≤ 1048576) : Calls Tryz.prog 6 #[.string s, .int .u8 kd, .slice a n c] w (PremOut s kd n f w) := by
  have HF := Lib.hid hF
  have hn := hs.few
  have Hs := Lib.hid hs
  clear hF hs
  by_cases h4 : 4 < kd
  · go_enter Tryz.func6, Tryz.ntmps6
    go_wp2_with fail
    go_ret
    exact ⟨false, rfl, rfl, fun h => by cases h⟩
  by_cases h3 : kd = 3
  case neg =>
    have e3 : (kd != 3) = true := by simpa using h3
    by_cases h0 : n = 0
    · have e0 : ((n : Int) == 0) = true := beq_iff_eq.2 (by omega)
      have H3 := Lib.hid h3
      have H0 := Lib.hid h0
      clear h3 h0
      go_enter Tryz.func6, Tryz.ntmps6
      go_wp2_with fail
      go_ret
      exact ⟨true, rfl, rfl, fun _ => ⟨fun _ => H0.out, fun h => absurd h H3.out⟩⟩
    · have e0 : ((n : Int) == 0) = false := beq_eq_false_iff_ne.2 (by omega)
      clear h3 h0
      go_enter Tryz.func6, Tryz.ntmps6
      go_wp2_with fail
      go_ret
      exact ⟨false, rfl, rfl, fun h => by cases h⟩
  subst h3
  go_enter Tryz.func6, Tryz.ntmps6
  go_wp2_with fail
  refine (cons10 a n c f w HF.out Hs.out).mono ?_
  rintro e1 w1 ⟨r, rfl, rfl⟩
  cases r
  · go_wp2_with fail
    go_ret
    exact ⟨false, rfl, rfl, fun h => by cases h⟩
  go_wp2_with fail
  go_loop [7] (fun i => ∃ k : Nat, k ≤ n ∧ i = .int .i64 k) (fun i => n - (intOf i).toNat)
  case atStart => exact ⟨0, by omega, rfl⟩
  case round =>
    obtain ⟨k, hk, rfl⟩ := hrel
    by_cases hlt : k < n
    · rcases HF.out with h1 | ⟨g2, o2, rfl, hR1⟩
      · omega
      have hc := hR1 k hlt
      have hz2 := Hs.out.short k hlt
      clear hR1
      unfold strAt at hc
      have hx : (k : Int) < (n : Int) := by omega
      have hx1 : (0 : Int) ≤ (k : Int) := by omega
      go_wp2_with fail
      refine (loop11 (f k) w hz2).mono ?_
      rintro e2 w2 ⟨r2, rfl, rfl, hr2⟩
      clear hr2
      cases r2
      · go_wp2_with fail
        go_round
        case rel => exact ⟨k + 1, by omega, by go_num⟩
        case measure => simp [intOf]; omega
      · go_wp2_with fail
        go_ret
        exact ⟨false, rfl, rfl, fun h => by cases h⟩
    · have hx : ¬ (k : Int) < (n : Int) := by omega
      go_wp2_with fail
      refine (loop11 s w hsz).mono ?_
      rintro e2 w2 ⟨r2, rfl, rfl, hr2⟩
      have Hr2 := Lib.hid hr2
      clear hr2
      cases r2
      · go_wp2_with fail
        go_loop [8] (fun i => ∃ q : Nat, q ≤ n ∧ i = .int .i64 q ∧ ∀ j, j < q → f j ≠ s) (fun i => n - (intOf i).toNat)
        case atStart => exact ⟨0, by omega, rfl, fun j hj => by omega⟩
        case round =>
          obtain ⟨q, hq, rfl, hall⟩ := hrel
          have Hall := Lib.hid hall
          clear hall
          by_cases hlt2 : q < n
          · rcases HF.out with h1 | ⟨g2, o2, rfl, hR1⟩
            · omega
            have hc := hR1 q hlt2
            clear hR1
            unfold strAt at hc
            have hx2 : (q : Int) < (n : Int) := by omega
            have hx3 : (0 : Int) ≤ (q : Int) := by omega
            cases e1 : ((f q).toList == s.toList)
            · have Heq : Hid (f q ≠ s) := Lib.hid (fun e => by rw [e] at e1; simp at e1)
              go_wp2_with fail
              go_round
              case rel => exact ⟨q + 1, by omega, by go_num, fun j hj => by
                by_cases e : j = q
                · subst e; exact Heq.out
                · exact Hall.out j (by omega)⟩
              case measure => simp [intOf]; omega
            · go_wp2_with fail
              go_ret
              exact ⟨false, rfl, rfl, fun h => by cases h⟩
          · have hx2 : ¬ (q : Int) < (n : Int) := by omega
            have hqe : q = n := by omega
            have Hqe := Lib.hid hqe
            clear hqe
            go_wp2_with fail
            go_ret
            exact ⟨true, rfl, rfl, fun _ => ⟨fun h => absurd rfl h, fun _ => .inr (by rw [← Hqe.out]; exact Hall.out)⟩⟩
      · go_wp2_with fail
        go_ret
        exact ⟨true, rfl, rfl, fun _ => ⟨fun h => absurd rfl h, fun _ => .inl (by first | exact Hr2.out rfl | exact Hr2.out trivial)⟩⟩
end Go.Proofs.YtmmpajfajfkpcaaGreatFmt
