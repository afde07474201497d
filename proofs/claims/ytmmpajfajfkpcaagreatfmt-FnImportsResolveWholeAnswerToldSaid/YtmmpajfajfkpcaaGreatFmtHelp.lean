/-
  Proved: contracts of the law's helpers (sizes, clones, the condition map, the premise). No statement of the seat stands here.
-/
import Derived.Test.YtmmpajfajfkpcaaGreatFmtBase
import Derived.Maps.Own
import Derived.Lib.SliceRun
import Derived.StringKeys
import Derived.Test.YtmmpajfajfkpcaaGreatFmtChecked
namespace Go.Proofs.YtmmpajfajfkpcaaGreatFmt
open Go.RowKit Go.ChangeAt Go.Maps
set_option linter.unusedSimpArgs false
set_option linter.unusedVariables false
set_option maxRecDepth 100000
def strAt (f : Nat → ByteArray) (i : Nat) : Value := .string (f i)
/-- Not many, none of them long. -/
structure Small (f : Nat → ByteArray) (n : Nat) : Prop where
  few : n ≤ 1048576
  short : ∀ i, i < n → (f i).size ≤ 1048576
theorem grow {f : Nat → ByteArray} {k : Nat} (h : ∀ j, j < k → (f j).size ≤ 1048576) (hk : (f k).size ≤ 1048576) : ∀ j, j < k + 1 → (f j).size ≤ 1048576 := by
  intro j hj
  by_cases e : j = k
  · subst e; exact hk
  · exact h j (by omega)
def Bound4 (s : ByteArray) (f h : Nat → ByteArray) (n m : Nat) (w : World) (e : Ending) (w' : World) : Prop := ∃ r : Bool, e = .returned (.bool r) ∧ w = w' ∧ (r = true → s.size ≤ 1048576 ∧ Small f n ∧ Small h m)
set_option maxHeartbeats 8000000 in
theorem zb4 (s : ByteArray) (v1 v3 v4 : Value) (a b : Option Addr) (n c m d : Nat) (f h : Nat → ByteArray) (w : World) (hF : Reads w a n (strAt f)) (hH : Reads w b m (strAt h)) :
    Calls Tryz.prog 4 #[.string s, v1, .slice a n c, v3, v4, .slice b m d] w (Bound4 s f h n m w) := by
  have HF := Lib.hid hF
  have HH := Lib.hid hH
  clear hF hH
  go_enter Tryz.func4, Tryz.ntmps4
  go_wp2
  all_goals (try (go_ret; exact ⟨false, rfl, rfl, fun h => by cases h⟩))
  go_loop [13, 14] (fun z i => ∃ k : Nat, ∃ y : Int, k ≤ n ∧ i = .int .i64 k ∧ z = .int .i64 y ∧ 0 ≤ y ∧ y ≤ 1048576 ∧ ∀ j, j < k → (f j).size ≤ 1048576) (fun _ i => n - (intOf i).toNat)
  case atStart => exact ⟨0, _, by omega, rfl, rfl, by omega, by omega, fun j hj => by omega⟩
  case round =>
    obtain ⟨k, y, hk, rfl, rfl, hy0, hy1, hall⟩ := hrel
    have Hall := Lib.hid hall
    clear hall
    by_cases hlt : k < n
    · rcases HF.out with h0 | ⟨g, o, rfl, hR1⟩
      · omega
      have hc := hR1 k hlt
      clear hR1
      unfold strAt at hc
      go_wp2
      all_goals (first | (go_ret; exact ⟨false, rfl, rfl, fun h => by cases h⟩) | (go_round; (case rel => exact ⟨k + 1, _, by omega, by go_num, rfl, by omega, by omega, grow Hall.out (by omega)⟩); (case measure => simp [intOf]; omega)))
    · obtain rfl : k = n := by omega
      go_wp2
      all_goals (try (go_ret; exact ⟨false, rfl, rfl, fun h => by cases h⟩))
      go_loop [13, 15] (fun z i => ∃ q : Nat, ∃ y : Int, q ≤ m ∧ i = .int .i64 q ∧ z = .int .i64 y ∧ 0 ≤ y ∧ y ≤ 1048576 ∧ ∀ j, j < q → (h j).size ≤ 1048576) (fun _ i => m - (intOf i).toNat)
      case atStart => exact ⟨0, _, by omega, rfl, rfl, by omega, by omega, fun j hj => by omega⟩
      case round =>
        obtain ⟨q, y, hk, rfl, rfl, hy0, hy1, hall⟩ := hrel
        have Hall2 := Lib.hid hall
        clear hall
        by_cases hlt2 : q < m
        · rcases HH.out with h0 | ⟨g, o, rfl, hR1⟩
          · omega
          have hc := hR1 q hlt2
          clear hR1
          unfold strAt at hc
          go_wp2
          all_goals (first | (go_ret; exact ⟨false, rfl, rfl, fun h => by cases h⟩) | (go_round; (case rel => exact ⟨q + 1, _, by omega, by go_num, rfl, by omega, by omega, grow Hall2.out (by omega)⟩); (case measure => simp [intOf]; omega)))
        · obtain rfl : q = m := by omega
          go_wp2
          go_ret
          exact ⟨true, rfl, rfl, fun _ => ⟨by omega, ⟨by omega, Hall.out⟩, ⟨by omega, Hall2.out⟩⟩⟩
def IntOut (w : World) (e : Ending) (w' : World) : Prop := ∃ y : Int, 0 ≤ y ∧ y ≤ 100000000 ∧ e = .returned (.int .i64 y) ∧ w = w'
theorem sum5 (a : Option Addr) (n c : Nat) (f : Nat → ByteArray) (w : World) (hF : Reads w a n (strAt f)) (hs : Small f n) : Calls Tryz.prog 5 #[.slice a n c] w (IntOut w) := by
  have HF := Lib.hid hF
  have hn := hs.few
  have Hs := Lib.hid hs
  clear hF hs
  go_enter Tryz.func5, Tryz.ntmps5
  go_wp2
  go_loop [3, 4] (fun z i => ∃ k : Nat, ∃ y : Int, k ≤ n ∧ i = .int .i64 k ∧ z = .int .i64 y ∧ 0 ≤ y ∧ y ≤ 1048576) (fun _ i => n - (intOf i).toNat)
  case atStart => exact ⟨0, _, by omega, rfl, rfl, by omega, by omega⟩
  case round =>
    obtain ⟨k, y, hk, rfl, rfl, hy0, hy1⟩ := hrel
    by_cases hlt : k < n
    · rcases HF.out with h0 | ⟨g, o, rfl, hR1⟩
      · omega
      have hc := hR1 k hlt
      have hsz := Hs.out.short k hlt
      clear hR1
      unfold strAt at hc
      go_wp2
      all_goals (first | (go_ret; exact ⟨_, by omega, by omega, rfl, rfl⟩) | (go_round; (case rel => exact ⟨k + 1, _, by omega, by go_num, rfl, by omega, by omega⟩); (case measure => simp [intOf]; omega)))
    · obtain rfl : k = n := by omega
      go_wp2
      go_ret
      exact ⟨_, hy0, by omega, rfl, rfl⟩
theorem info9 : (Tryz.prog.info? 9).map (fun i => (i.zero, i.size, i.bytes)) = some (some (.string ⟨#[]⟩), 1, 16) := by kernel_rfl
theorem info_parts {P : Program} {e : TypeId} {z : Value} {s b : Nat} (h : (P.info? e).map (fun i => (i.zero, i.size, i.bytes)) = some (some z, s, b)) : ∃ i, P.info? e = some i ∧ i.zero = some z ∧ i.size = s ∧ i.bytes = b := by
  obtain ⟨i, hi, hz⟩ := Option.map_eq_some_iff.1 h
  simp only [Prod.mk.injEq] at hz
  exact ⟨i, hi, hz.1, hz.2.1, hz.2.2⟩
def ClOut (n : Nat) (f : Nat → ByteArray) (w : World) (e : Ending) (w' : World) : Prop := ∃ a c, e = .returned (.slice a n c) ∧ Reads w' a n (strAt f) ∧ Chg Nowhere w w'
theorem clone7 (a : Option Addr) (n c : Nat) (f : Nat → ByteArray) (w : World) (hF : Reads w a n (strAt f)) (hnil : a = none → n = 0 ∧ c = 0) (hn : n ≤ 1048576) : Calls Tryz.prog 7 #[.slice a n c] w (ClOut n f w) := by
  have HF := Lib.hid hF
  clear hF
  obtain ⟨i0, hi, hz0, hz1, hz2⟩ := info_parts info9
  cases a with
  | none =>
    obtain ⟨rfl, rfl⟩ := hnil rfl
    clear hi hz0 hz1 hz2 hnil
    have hq := fun W : World => Lib.run_eql_slice_nil (P := Tryz.prog) W 22 9 none 0 0 0 0 Tryz.underlying22
    go_enter Tryz.func7, Tryz.ntmps7
    go_wp2
    go_ret
    exact ⟨none, 0, rfl, .inl rfl, Chg.refl _ _⟩
  | some x =>
    clear hnil
    have hmk := run_make_one (P := Tryz.prog) 22 9 i0 _ Tryz.underlying22 hi hz0 hz1 rfl 16 hz2 n (by omega) (by omega) w
    clear hi hz0 hz1 hz2
    have hq := fun W : World => Lib.run_eql_slice_nil (P := Tryz.prog) W 22 9 (some x) n c 0 0 Tryz.underlying22
    go_enter Tryz.func7, Tryz.ntmps7
    go_wp2
    clear hmk hq
    go_loopw [4] (fun i wr => ∃ k : Nat, k ≤ n ∧ i = .int .i64 k ∧ Made w wr 9 n k (strAt f)) (fun i _ => n - (intOf i).toNat)
    case atStart => exact ⟨0, by omega, rfl, Made.start w 9 _ n (strAt f)⟩
    case round =>
      obtain ⟨k, hk, rfl, hm⟩ := hrel
      by_cases hlt : k < n
      · rcases HF.out with h0 | ⟨g, o, hx, hR1⟩
        · omega
        injection hx with hx
        subst hx
        have hch : Chg Nowhere w wr := hm.1
        have hc := hch.cell (hR1 k hlt) (fun h => h)
        obtain ⟨v, hv⟩ := hm.cell k hlt
        have hf := hm.frozen k
        have hl := hm.lt
        have Hm := Lib.hid hm
        clear hR1 hm hch
        unfold strAt at hc
        have hx1 : (k : Int) < (n : Int) := by omega
        have hx0 : (0 : Int) ≤ (k : Int) := by omega
        go_wp2
        go_roundw
        case rel => exact ⟨k + 1, by omega, by go_num, Hm.out.step hlt⟩
        case measure => simp [intOf]; omega
      · obtain rfl : k = n := by omega
        have Hm := Lib.hid hm
        clear hm
        go_wp2
        go_ret
        exact ⟨_, _, rfl, Hm.out.reads, Hm.out.1⟩
def ValOut (w : World) (e : Ending) (w' : World) : Prop := ∃ m, e = .returned (.map m) ∧ Chg Nowhere w w'
theorem cond8 (a : Option Addr) (n c : Nat) (f : Nat → ByteArray) (w : World) (hF : Reads w a n (strAt f)) (hs : Small f n) : Calls Tryz.prog 8 #[.slice a n c] w (ValOut w) := by
  have HF := Lib.hid hF
  have hn := hs.few
  have Hs := Lib.hid hs
  clear hF hs
  have hmm := @run_makeMap Tryz.prog
  go_enter Tryz.func8, Tryz.ntmps8
  go_wp2
  clear hmm
  go_loopw [4] (fun i wr => ∃ k : Nat, ∃ D : DataW Unit, k ≤ n ∧ i = .int .i64 k ∧ wr.ownsMap Tryz.prog 9 (plainElem Tryz.prog 4) w.heap.size k D ∧ Chg Nowhere w wr) (fun i _ => n - (intOf i).toNat)
  case atStart => exact ⟨0, _, by omega, rfl, World.ownsMap_made _ _ _ _, (Chg.refl _ w).alloc _⟩
  case round =>
    obtain ⟨k, D, hk, rfl, hown, hch⟩ := hrel
    have Hown := Lib.hid hown
    have Hch := Lib.hid hch
    by_cases hlt : k < n
    · rcases HF.out with h0 | ⟨g, o, rfl, hR1⟩
      · omega
      have hc := hch.cell (hR1 k hlt) (fun h => h)
      have hsz := Hs.out.short k hlt
      clear hR1 hown hch
      unfold strAt at hc
      have hx1 : (k : Int) < (n : Int) := by omega
      have hx0 : (0 : Int) ≤ (k : Int) := by omega
      have hkey := WideMaps.keyOf_string_mk (k := 9) Tryz.underlying9 (s := f k) (by unfold maxLen; omega)
      go_wp2_with (at_mapUpdate; refine wpList_mapUpdate_own _ rfl _ _ _ 27 rfl 9 4 (string_keyed Tryz.underlying9) Tryz.underlying27 _ w.heap.size k _ rfl Hown.out (by unfold maxLen; omega) _ _ _ rfl rfl hkey _ [] (plainElem_bool Tryz.underlying4 true) ?_; intro w1 hown1 hgrow1; have Hown1 := Lib.hid hown1; have Hg1 := Lib.hid hgrow1; clear hown1 hgrow1)
      go_roundw
      case rel => exact ⟨k + 1, _, by omega, by go_num, Hown1.out, Hch.out.grown Hg1.out (fun j hj hs => by injection hs with hs; omega)⟩
      case measure => simp [intOf]; omega
    · obtain rfl : k = n := by omega
      clear hown hch
      go_wp2
      go_ret
      exact ⟨_, rfl, Hch.out⟩
end Go.Proofs.YtmmpajfajfkpcaaGreatFmt
