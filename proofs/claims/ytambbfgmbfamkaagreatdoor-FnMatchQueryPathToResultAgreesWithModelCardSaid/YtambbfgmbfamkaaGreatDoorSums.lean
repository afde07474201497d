/-
  Proved: contracts of zzBytes, zzStrsBytes, zzAllValidRel. No statement of the seat stands here.
-/
import Derived.Test.YtambbfgmbfamkaaGreatDoorHela
namespace Go.Proofs.YtambbfgmbfamkaaGreatDoor
open Go.RowKit Go.ChangeAt
set_option linter.unusedSimpArgs false
set_option linter.unusedVariables false
set_option maxRecDepth 100000
def strAt (f : Nat → ByteArray) (i : Nat) : Value := .string (f i)
structure Small (f : Nat → ByteArray) (n : Nat) : Prop where
  few : n ≤ 1048576
  short : ∀ i, i < n → (f i).size ≤ 1048576
theorem grow {f : Nat → ByteArray} {k : Nat} (h : ∀ j, j < k → (f j).size ≤ 1048576) (hk : (f k).size ≤ 1048576) : ∀ j, j < k + 1 → (f j).size ≤ 1048576 := by
  intro j hj
  by_cases e : j = k
  · subst e; exact hk
  · exact h j (by omega)
def Bound4 (s : ByteArray) (f h u : Nat → ByteArray) (n m p : Nat) (w : World) (e : Ending) (w' : World) : Prop := ∃ r : Bool, e = .returned (.bool r) ∧ w = w' ∧ (r = true → s.size ≤ 1048576 ∧ Small f n ∧ Small h m ∧ Small u p)
set_option maxHeartbeats 8000000 in
theorem zb4 (s : ByteArray) (a b x : Option Addr) (n c m d p r : Nat) (f h u : Nat → ByteArray) (w : World) (hF : Reads w a n (strAt f)) (hH : Reads w b m (strAt h)) (hU : Reads w x p (strAt u)) :
    Calls Tryz.prog 4 #[.string s, .slice a n c, .slice b m d, .slice x p r] w (Bound4 s f h u n m p w) := by
  have HF := Lib.hid hF
  have HH := Lib.hid hH
  have HU := Lib.hid hU
  clear hF hH hU
  go_enter Tryz.func4, Tryz.ntmps4
  go_wp2
  all_goals (try (go_ret; exact ⟨false, rfl, rfl, fun h => by cases h⟩))
  go_loop [9, 10] (fun z i => ∃ k : Nat, ∃ y : Int, k ≤ n ∧ i = .int .i64 k ∧ z = .int .i64 y ∧ 0 ≤ y ∧ y ≤ 1048576 ∧ ∀ j, j < k → (f j).size ≤ 1048576) (fun _ i => n - (intOf i).toNat)
  case atStart => exact ⟨0, _, by omega, rfl, rfl, by omega, by omega, fun j hj => by omega⟩
  case round =>
    obtain ⟨k, y, hk, rfl, rfl, hy0, hy1, hall⟩ := hrel
    have Hall := Lib.hid hall
    clear hall
    by_cases hlt : k < n
    · rcases HF.out with h0 | ⟨g, o, rfl, hR1⟩
      · omega
      have hc := hR1 k hlt
      clear hR1
      unfold strAt at hc
      go_wp2
      all_goals (first | (go_ret; exact ⟨false, rfl, rfl, fun h => by cases h⟩) | (go_round; (case rel => exact ⟨k + 1, _, by omega, by go_num, rfl, by omega, by omega, grow Hall.out (by omega)⟩); (case measure => simp [intOf]; omega)))
    · obtain rfl : k = n := by omega
      go_wp2
      all_goals (try (go_ret; exact ⟨false, rfl, rfl, fun h => by cases h⟩))
      go_loop [9, 11] (fun z i => ∃ q : Nat, ∃ y : Int, q ≤ m ∧ i = .int .i64 q ∧ z = .int .i64 y ∧ 0 ≤ y ∧ y ≤ 1048576 ∧ ∀ j, j < q → (h j).size ≤ 1048576) (fun _ i => m - (intOf i).toNat)
      case atStart => exact ⟨0, _, by omega, rfl, rfl, by omega, by omega, fun j hj => by omega⟩
      case round =>
        obtain ⟨q, y, hk, rfl, rfl, hy0, hy1, hall⟩ := hrel
        have Hall2 := Lib.hid hall
        clear hall
        by_cases hlt2 : q < m
        · rcases HH.out with h0 | ⟨g, o, rfl, hR1⟩
          · omega
          have hc := hR1 q hlt2
          clear hR1
          unfold strAt at hc
          go_wp2
          all_goals (first | (go_ret; exact ⟨false, rfl, rfl, fun h => by cases h⟩) | (go_round; (case rel => exact ⟨q + 1, _, by omega, by go_num, rfl, by omega, by omega, grow Hall2.out (by omega)⟩); (case measure => simp [intOf]; omega)))
        · obtain rfl : q = m := by omega
          go_wp2
          all_goals (try (go_ret; exact ⟨false, rfl, rfl, fun h => by cases h⟩))
          go_loop [9, 12] (fun z i => ∃ q : Nat, ∃ y : Int, q ≤ p ∧ i = .int .i64 q ∧ z = .int .i64 y ∧ 0 ≤ y ∧ y ≤ 1048576 ∧ ∀ j, j < q → (u j).size ≤ 1048576) (fun _ i => p - (intOf i).toNat)
          case atStart => exact ⟨0, _, by omega, rfl, rfl, by omega, by omega, fun j hj => by omega⟩
          case round =>
            obtain ⟨t, y, hk, rfl, rfl, hy0, hy1, hall⟩ := hrel
            have Hall3 := Lib.hid hall
            clear hall
            by_cases hlt3 : t < p
            · rcases HU.out with h0 | ⟨g, o, rfl, hR1⟩
              · omega
              have hc := hR1 t hlt3
              clear hR1
              unfold strAt at hc
              go_wp2
              all_goals (first | (go_ret; exact ⟨false, rfl, rfl, fun h => by cases h⟩) | (go_round; (case rel => exact ⟨t + 1, _, by omega, by go_num, rfl, by omega, by omega, grow Hall3.out (by omega)⟩); (case measure => simp [intOf]; omega)))
            · obtain rfl : t = p := by omega
              go_wp2
              go_ret
              exact ⟨true, rfl, rfl, fun _ => ⟨by omega, ⟨by omega, Hall.out⟩, ⟨by omega, Hall2.out⟩, ⟨by omega, Hall3.out⟩⟩⟩
def SumOut (w : World) (e : Ending) (w' : World) : Prop := ∃ y : Int, 0 ≤ y ∧ y ≤ 2000000000000 ∧ e = .returned (.int .i64 y) ∧ w = w'
theorem sum5 (a : Option Addr) (n c : Nat) (f : Nat → ByteArray) (w : World) (hF : Reads w a n (strAt f)) (hs : Small f n) : Calls Tryz.prog 5 #[.slice a n c] w (SumOut w) := by
  have HF := Lib.hid hF
  have hn := hs.few
  have Hs := Lib.hid hs
  clear hF hs
  go_enter Tryz.func5, Tryz.ntmps5
  go_wp2
  go_loop [3, 4] (fun z i => ∃ k : Nat, ∃ y : Int, k ≤ n ∧ i = .int .i64 k ∧ z = .int .i64 y ∧ 0 ≤ y ∧ y ≤ k * 1048592) (fun _ i => n - (intOf i).toNat)
  case atStart => exact ⟨0, _, by omega, rfl, rfl, by omega, by omega⟩
  case round =>
    obtain ⟨k, y, hk, rfl, rfl, hy0, hy1⟩ := hrel
    by_cases hlt : k < n
    · rcases HF.out with h0 | ⟨g, o, rfl, hR1⟩
      · omega
      have hc := hR1 k hlt
      have hsz := Hs.out.short k hlt
      clear hR1
      unfold strAt at hc
      go_wp2
      all_goals (first | (go_ret; exact ⟨_, by omega, by omega, rfl, rfl⟩) | (go_round; (case rel => exact ⟨k + 1, _, by omega, by go_num, rfl, by omega, by omega⟩); (case measure => simp [intOf]; omega)))
    · obtain rfl : k = n := by omega
      go_wp2
      go_ret
      exact ⟨_, hy0, by omega, rfl, rfl⟩
def AllOut (f : Nat → ByteArray) (n : Nat) (w : World) (e : Ending) (w' : World) : Prop := ∃ r : Bool, e = .returned (.bool r) ∧ w = w' ∧ (r = true → ∀ i, i < n → Rel (f i).data.toList)
theorem all6 (a : Option Addr) (n c : Nat) (f : Nat → ByteArray) (w : World) (hF : Reads w a n (strAt f)) (hs : Small f n) : Calls Tryz.prog 6 #[.slice a n c] w (AllOut f n w) := by
  have HF := Lib.hid hF
  have hn := hs.few
  have Hs := Lib.hid hs
  clear hF hs
  go_enter Tryz.func6, Tryz.ntmps6
  go_wp2
  go_loop [3] (fun i => ∃ k : Nat, k ≤ n ∧ i = .int .i64 k ∧ ∀ j, j < k → Rel (f j).data.toList) (fun i => n - (intOf i).toNat)
  case atStart => exact ⟨0, by omega, rfl, fun j hj => by omega⟩
  case round =>
    obtain ⟨k, hk, rfl, hall⟩ := hrel
    have Hall := Lib.hid hall
    clear hall
    by_cases hlt : k < n
    · rcases HF.out with h0 | ⟨g, o, rfl, hR1⟩
      · omega
      have hc := hR1 k hlt
      have hsz := Hs.out.short k hlt
      clear hR1
      unfold strAt at hc
      have hx : (k : Int) < (n : Int) := by omega
      have hx0 : (0 : Int) ≤ (k : Int) := by omega
      go_wp2_with fail
      refine (rel13 (f k) w hsz).mono ?_
      rintro e1 w1 ⟨r, rfl, rfl, hr⟩
      have Hr := Lib.hid hr
      clear hr
      cases r
      · go_wp2_with fail
        go_ret
        exact ⟨false, rfl, rfl, fun h => by cases h⟩
      · go_wp2_with fail
        go_round
        case rel => exact ⟨k + 1, by omega, by go_num, fun j hj => by
          by_cases e : j = k
          · subst e; exact Hr.out (by first | rfl | trivial)
          · exact Hall.out j (by omega)⟩
        case measure => simp [intOf]; omega
    · obtain rfl : k = n := by omega
      have hx : ¬ ((k : Nat) : Int) < (k : Int) := by omega
      go_wp2_with fail
      go_ret
      exact ⟨true, rfl, rfl, fun _ => Hall.out⟩
end Go.Proofs.YtambbfgmbfamkaaGreatDoor
