/-
  Proved: contracts of the helpers of the law on exact keys. No statement of the seat stands here.
-/
import Derived.Test.YtcbmankbjgbjgaaGreatFmtExo
namespace Go.Proofs.YtcbmankbjgbjgaaGreatFmt
open Go.RowKit Go.ChangeAt
set_option linter.unusedSimpArgs false
set_option linter.unusedVariables false
set_option maxRecDepth 100000
/-- Not many, none of them long. -/
structure Small (f : Nat → ByteArray) (n : Nat) : Prop where
  few : n ≤ 1048576
  short : ∀ i, i < n → (f i).size ≤ 1048576
theorem grow {f : Nat → ByteArray} {k : Nat} (h : ∀ j, j < k → (f j).size ≤ 1048576) (hk : (f k).size ≤ 1048576) : ∀ j, j < k + 1 → (f j).size ≤ 1048576 := by
  intro j hj
  by_cases e : j = k
  · subst e; exact hk
  · exact h j (by omega)
def Bound4 (s : ByteArray) (f h : Nat → ByteArray) (n m : Nat) (w : World) (e : Ending) (w' : World) : Prop := ∃ r : Bool, e = .returned (.bool r) ∧ w = w' ∧ (r = true → s.size ≤ 1048576 ∧ Small f n ∧ Small h m)
set_option maxHeartbeats 8000000 in
theorem zb12 (s : ByteArray) (v3 : Value) (a b : Option Addr) (n c m d : Nat) (f h : Nat → ByteArray) (w : World) (hF : Reads w a n (strAt f)) (hH : Reads w b m (strAt h)) :
    Calls Tryz.prog 12 #[.string s, .slice a n c, .slice b m d, v3] w (Bound4 s f h n m w) := by
  have HF := Lib.hid hF
  have HH := Lib.hid hH
  clear hF hH
  go_enter Tryz.func12, Tryz.ntmps12
  go_wp2
  all_goals (try (go_ret; exact ⟨false, rfl, rfl, fun h => by cases h⟩))
  go_loop [9, 10] (fun z i => ∃ k : Nat, ∃ y : Int, k ≤ n ∧ i = .int .i64 k ∧ z = .int .i64 y ∧ 0 ≤ y ∧ y ≤ 1048576 ∧ ∀ j, j < k → (f j).size ≤ 1048576) (fun _ i => n - (intOf i).toNat)
  case atStart => exact ⟨0, _, by omega, rfl, rfl, by omega, by omega, fun j hj => by omega⟩
  case round =>
    obtain ⟨k, y, hk, rfl, rfl, hy0, hy1, hall⟩ := hrel
    have Hall := Lib.hid hall
    clear hall
    by_cases hlt : k < n
    · rcases HF.out with h0 | ⟨g, o, rfl, hR1⟩
      · omega
      have hc := hR1 k hlt
      clear hR1
      unfold strAt at hc
      go_wp2
      all_goals (first | (go_ret; exact ⟨false, rfl, rfl, fun h => by cases h⟩) | (go_round; (case rel => exact ⟨k + 1, _, by omega, by go_num, rfl, by omega, by omega, grow Hall.out (by omega)⟩); (case measure => simp [intOf]; omega)))
    · obtain rfl : k = n := by omega
      go_wp2
      all_goals (try (go_ret; exact ⟨false, rfl, rfl, fun h => by cases h⟩))
      go_loop [9, 11] (fun z i => ∃ q : Nat, ∃ y : Int, q ≤ m ∧ i = .int .i64 q ∧ z = .int .i64 y ∧ 0 ≤ y ∧ y ≤ 1048576 ∧ ∀ j, j < q → (h j).size ≤ 1048576) (fun _ i => m - (intOf i).toNat)
      case atStart => exact ⟨0, _, by omega, rfl, rfl, by omega, by omega, fun j hj => by omega⟩
      case round =>
        obtain ⟨q, y, hk, rfl, rfl, hy0, hy1, hall⟩ := hrel
        have Hall2 := Lib.hid hall
        clear hall
        by_cases hlt2 : q < m
        · rcases HH.out with h0 | ⟨g, o, rfl, hR1⟩
          · omega
          have hc := hR1 q hlt2
          clear hR1
          unfold strAt at hc
          go_wp2
          all_goals (first | (go_ret; exact ⟨false, rfl, rfl, fun h => by cases h⟩) | (go_round; (case rel => exact ⟨q + 1, _, by omega, by go_num, rfl, by omega, by omega, grow Hall2.out (by omega)⟩); (case measure => simp [intOf]; omega)))
        · obtain rfl : q = m := by omega
          go_wp2
          go_ret
          exact ⟨true, rfl, rfl, fun _ => ⟨by omega, ⟨by omega, Hall.out⟩, ⟨by omega, Hall2.out⟩⟩⟩
set_option maxHeartbeats 8000000 in
theorem zb18 (s : ByteArray) (v3 : Value) (a b : Option Addr) (n c m d : Nat) (f h : Nat → ByteArray) (w : World) (hF : Reads w a n (strAt f)) (hH : Reads w b m (strAt h)) :
    Calls Tryz.prog 18 #[.string s, .slice a n c, .slice b m d, v3] w (Bound4 s f h n m w) := by
  have HF := Lib.hid hF
  have HH := Lib.hid hH
  clear hF hH
  go_enter Tryz.func18, Tryz.ntmps18
  go_wp2
  all_goals (try (go_ret; exact ⟨false, rfl, rfl, fun h => by cases h⟩))
  go_loop [9, 10] (fun z i => ∃ k : Nat, ∃ y : Int, k ≤ n ∧ i = .int .i64 k ∧ z = .int .i64 y ∧ 0 ≤ y ∧ y ≤ 1048576 ∧ ∀ j, j < k → (f j).size ≤ 1048576) (fun _ i => n - (intOf i).toNat)
  case atStart => exact ⟨0, _, by omega, rfl, rfl, by omega, by omega, fun j hj => by omega⟩
  case round =>
    obtain ⟨k, y, hk, rfl, rfl, hy0, hy1, hall⟩ := hrel
    have Hall := Lib.hid hall
    clear hall
    by_cases hlt : k < n
    · rcases HF.out with h0 | ⟨g, o, rfl, hR1⟩
      · omega
      have hc := hR1 k hlt
      clear hR1
      unfold strAt at hc
      go_wp2
      all_goals (first | (go_ret; exact ⟨false, rfl, rfl, fun h => by cases h⟩) | (go_round; (case rel => exact ⟨k + 1, _, by omega, by go_num, rfl, by omega, by omega, grow Hall.out (by omega)⟩); (case measure => simp [intOf]; omega)))
    · obtain rfl : k = n := by omega
      go_wp2
      all_goals (try (go_ret; exact ⟨false, rfl, rfl, fun h => by cases h⟩))
      go_loop [9, 11] (fun z i => ∃ q : Nat, ∃ y : Int, q ≤ m ∧ i = .int .i64 q ∧ z = .int .i64 y ∧ 0 ≤ y ∧ y ≤ 1048576 ∧ ∀ j, j < q → (h j).size ≤ 1048576) (fun _ i => m - (intOf i).toNat)
      case atStart => exact ⟨0, _, by omega, rfl, rfl, by omega, by omega, fun j hj => by omega⟩
      case round =>
        obtain ⟨q, y, hk, rfl, rfl, hy0, hy1, hall⟩ := hrel
        have Hall2 := Lib.hid hall
        clear hall
        by_cases hlt2 : q < m
        · rcases HH.out with h0 | ⟨g, o, rfl, hR1⟩
          · omega
          have hc := hR1 q hlt2
          clear hR1
          unfold strAt at hc
          go_wp2
          all_goals (first | (go_ret; exact ⟨false, rfl, rfl, fun h => by cases h⟩) | (go_round; (case rel => exact ⟨q + 1, _, by omega, by go_num, rfl, by omega, by omega, grow Hall2.out (by omega)⟩); (case measure => simp [intOf]; omega)))
        · obtain rfl : q = m := by omega
          go_wp2
          go_ret
          exact ⟨true, rfl, rfl, fun _ => ⟨by omega, ⟨by omega, Hall.out⟩, ⟨by omega, Hall2.out⟩⟩⟩
def IntOut (w : World) (e : Ending) (w' : World) : Prop := ∃ y : Int, 0 ≤ y ∧ y ≤ 100000000 ∧ e = .returned (.int .i64 y) ∧ w = w'
theorem sum13 (a : Option Addr) (n c : Nat) (f : Nat → ByteArray) (w : World) (hF : Reads w a n (strAt f)) (hs : Small f n) : Calls Tryz.prog 13 #[.slice a n c] w (IntOut w) := by
  have HF := Lib.hid hF
  have hn := hs.few
  have Hs := Lib.hid hs
  clear hF hs
  go_enter Tryz.func13, Tryz.ntmps13
  go_wp2
  go_loop [3, 4] (fun z i => ∃ k : Nat, ∃ y : Int, k ≤ n ∧ i = .int .i64 k ∧ z = .int .i64 y ∧ 0 ≤ y ∧ y ≤ 16777216) (fun _ i => n - (intOf i).toNat)
  case atStart => exact ⟨0, _, by omega, rfl, rfl, by omega, by omega⟩
  case round =>
    obtain ⟨k, y, hk, rfl, rfl, hy0, hy1⟩ := hrel
    by_cases hlt : k < n
    · rcases HF.out with h0 | ⟨g, o, rfl, hR1⟩
      · omega
      have hc := hR1 k hlt
      have hsz := Hs.out.short k hlt
      clear hR1
      unfold strAt at hc
      go_wp2
      all_goals (first | (go_ret; exact ⟨_, by omega, by omega, rfl, rfl⟩) | (go_round; (case rel => exact ⟨k + 1, _, by omega, by go_num, rfl, by omega, by omega⟩); (case measure => simp [intOf]; omega)))
    · obtain rfl : k = n := by omega
      go_wp2
      go_ret
      exact ⟨_, hy0, by omega, rfl, rfl⟩
theorem info9 : (Tryz.prog.info? 9).map (fun i => (i.zero, i.size, i.bytes)) = some (some (.string ⟨#[]⟩), 1, 16) := by kernel_rfl
def ClOut (n : Nat) (f : Nat → ByteArray) (w : World) (e : Ending) (w' : World) : Prop := ∃ a c, e = .returned (.slice a n c) ∧ Reads w' a n (strAt f) ∧ Chg Nowhere w w'
theorem clone16 (a : Option Addr) (n c : Nat) (f : Nat → ByteArray) (w : World) (hF : Reads w a n (strAt f)) (hnil : a = none → n = 0 ∧ c = 0) (hn : n ≤ 1048576) : Calls Tryz.prog 16 #[.slice a n c] w (ClOut n f w) := by
  have HF := Lib.hid hF
  clear hF
  obtain ⟨i0, hi, hz0, hz1, hz2⟩ := info_parts info9
  cases a with
  | none =>
    obtain ⟨rfl, rfl⟩ := hnil rfl
    clear hi hz0 hz1 hz2 hnil
    have hq := fun W : World => Lib.run_eql_slice_nil (P := Tryz.prog) W 24 9 none 0 0 0 0 Tryz.underlying24
    go_enter Tryz.func16, Tryz.ntmps16
    go_wp2
    go_ret
    exact ⟨none, 0, rfl, .inl rfl, Chg.refl _ _⟩
  | some x =>
    clear hnil
    have hmk := run_make_one (P := Tryz.prog) 24 9 i0 _ Tryz.underlying24 hi hz0 hz1 rfl 16 hz2 n (by omega) (by omega) w
    clear hi hz0 hz1 hz2
    have hq := fun W : World => Lib.run_eql_slice_nil (P := Tryz.prog) W 24 9 (some x) n c 0 0 Tryz.underlying24
    go_enter Tryz.func16, Tryz.ntmps16
    go_wp2
    clear hmk hq
    go_loopw [4] (fun i wr => ∃ k : Nat, k ≤ n ∧ i = .int .i64 k ∧ Made w wr 9 n k (strAt f)) (fun i _ => n - (intOf i).toNat)
    case atStart => exact ⟨0, by omega, rfl, Made.start w 9 _ n (strAt f)⟩
    case round =>
      obtain ⟨k, hk, rfl, hm⟩ := hrel
      by_cases hlt : k < n
      · rcases HF.out with h0 | ⟨g, o, hx, hR1⟩
        · omega
        injection hx with hx
        subst hx
        have hch : Chg Nowhere w wr := hm.1
        have hc := hch.cell (hR1 k hlt) (fun h => h)
        obtain ⟨v, hv⟩ := hm.cell k hlt
        have hf := hm.frozen k
        have hl := hm.lt
        have Hm := Lib.hid hm
        clear hR1 hm hch
        unfold strAt at hc
        have hx1 : (k : Int) < (n : Int) := by omega
        have hx0 : (0 : Int) ≤ (k : Int) := by omega
        go_wp2
        go_roundw
        case rel => exact ⟨k + 1, by omega, by go_num, Hm.out.step hlt⟩
        case measure => simp [intOf]; omega
      · obtain rfl : k = n := by omega
        have Hm := Lib.hid hm
        clear hm
        go_wp2
        go_ret
        exact ⟨_, _, rfl, Hm.out.reads, Hm.out.1⟩
def AnyBool (w : World) (e : Ending) (w' : World) : Prop := ∃ r : Bool, e = .returned (.bool r) ∧ Chg Nowhere w w'
theorem pre20 (s : ByteArray) (w : World) (hs : s.size ≤ 1048576) : Calls Tryz.prog 20 #[.string s, .string ⟨#[46]⟩] w (AnyBool w) := by
  by_cases h0 : s.size = 0
  · have x0 : (s.size : Int) < 1 := by omega
    clear h0
    go_enter Tryz.func20, Tryz.ntmps20
    go_wp2_with fail
    go_ret
    exact ⟨_, rfl, Chg.refl _ _⟩
  · have x0 : ¬ (s.size : Int) < 1 := by omega
    have x1 : 0 < s.size := by omega
    have x2 : (0 : Int) < (s.size : Int) := by omega
    have b0 := bt_eq s 0 x1
    have b46 : ((⟨#[46]⟩ : ByteArray)[0]'(by decide)).toNat = 46 := rfl
    clear h0
    go_enter Tryz.func20, Tryz.ntmps20
    go_wp2_with fail
    go_loopw [5] (fun i wr => (i = .int .i64 0 ∨ i = .int .i64 1) ∧ Chg Nowhere w wr) (fun i _ => 1 - (intOf i).toNat)
    case atStart => exact ⟨.inl rfl, Chg.refl _ _⟩
    case round =>
      obtain ⟨hi, hch⟩ := hrel
      have Hch := Lib.hid hch
      clear hch
      rcases hi with rfl | rfl
      · by_cases h46 : bt s 0 = 46
        · have e1 : ((bt s 0 : Int) != 46) = false := by simp; omega
          clear h46
          go_wp2_with fail
          go_region
          go_wp2_with fail
          go_roundw
          case rel => exact ⟨.inr (by go_num), Hch.out.drew⟩
          case measure => simp [intOf]
        · have e1 : ((bt s 0 : Int) != 46) = true := by simp; omega
          clear h46
          go_wp2_with fail
          go_region
          go_wp2_with fail
          go_ret
          exact ⟨false, rfl, Hch.out.drew⟩
      · go_wp2_with fail
        go_ret
        exact ⟨true, rfl, Hch.out⟩
theorem dot14 (a : Option Addr) (n c : Nat) (f : Nat → ByteArray) (w : World) (hF : Reads w a n (strAt f)) (hs : Small f n) : Calls Tryz.prog 14 #[.slice a n c] w (AnyBool w) := by
  have HF := Lib.hid hF
  have hn := hs.few
  have Hs := Lib.hid hs
  clear hF hs
  by_cases h0 : n = 0
  · have e0 : ((n : Int) == 0) = true := beq_iff_eq.2 (by omega)
    clear h0
    go_enter Tryz.func14, Tryz.ntmps14
    go_wp2_with fail
    go_ret
    exact ⟨_, rfl, Chg.refl _ _⟩
  · have e0 : ((n : Int) == 0) = false := beq_eq_false_iff_ne.2 (by omega)
    rcases HF.out with h1 | ⟨g, o, rfl, hR1⟩
    · omega
    have c0 := hR1 0 (by omega)
    have hz := Hs.out.short 0 (by omega)
    clear hR1
    unfold strAt at c0
    have hx0 : (0 : Int) < (n : Int) := by omega
    simp only [Nat.add_zero] at c0
    go_enter Tryz.func14, Tryz.ntmps14
    go_wp2_with fail
    refine (pre20 (f 0) w hz).mono ?_
    rintro e1 w1 ⟨r, rfl, hc1⟩
    have Hc1 := Lib.hid hc1
    clear hc1 c0
    go_wp2_with fail
    go_loopw [4] (fun i wr => (∃ k : Nat, k ≤ n ∧ 1 ≤ k ∧ i = .int .i64 k) ∧ Chg Nowhere w wr) (fun i _ => n - (intOf i).toNat)
    case atStart => exact ⟨⟨1, by omega, by omega, rfl⟩, Hc1.out⟩
    case round =>
      obtain ⟨⟨k, hk, hk1, rfl⟩, hch⟩ := hrel
      have Hch := Lib.hid hch
      clear hch
      by_cases hlt : k < n
      · rcases HF.out with h1 | ⟨g2, o2, h2, hR1⟩
        · omega
        injection h2 with h2
        injection h2 with h3 h4
        subst h3 h4
        have hc := Hch.out.cell (hR1 k hlt) (fun h => h)
        have hz2 := Hs.out.short k hlt
        clear hR1
        unfold strAt at hc
        have hx : (k : Int) < (n : Int) := by omega
        have hx1 : (0 : Int) ≤ (k : Int) := by omega
        go_wp2_with fail
        refine (pre20 (f k) wr hz2).mono ?_
        rintro e2 w2 ⟨r2, rfl, hc2⟩
        have Hc2 := Lib.hid (Hch.out.trans hc2 (fun _ _ h => h))
        clear hc2
        cases r <;> cases r2
        all_goals (
          go_wp2_with fail
          first | (go_ret; exact ⟨_, rfl, Hc2.out⟩) | (go_roundw; (case rel => exact ⟨⟨k + 1, by omega, by omega, by go_num⟩, Hc2.out⟩); (case measure => simp [intOf]; omega)))
      · have hx : ¬ (k : Int) < (n : Int) := by omega
        go_wp2_with fail
        go_ret
        exact ⟨_, rfl, Hch.out⟩
end Go.Proofs.YtcbmankbjgbjgaaGreatFmt
