/-
  Proved: contracts of the three methods by which the expansion keys are sorted (Len, Less, Swap). No statement of the seat stands here.
-/
import Derived.Test.YtcbmankbjgbjgaaGreatFmtObj
import Derived.Test.YtcbmankbjgbjgaaGreatFmtStab
import Derived.BigRegion
namespace Go.Proofs.YtcbmankbjgbjgaaGreatFmt
open Go.RowKit Go.ChangeAt
set_option linter.unusedSimpArgs false
set_option linter.unusedVariables false
set_option maxRecDepth 100000
/-- The block g holds n items; at place i the one of index s i. -/
def Tbl (W : World) (g n : Nat) (f t : Nat → ByteArray) (s : Nat → Nat) : Prop := ∃ cur : Array Value, W.heap[g]? = some (.cells cur 71 (0, 0)) ∧ n * 10 ≤ cur.size ∧ ∀ i, i < n → ∀ q, q < 10 → cur[i * 10 + q]? = (item (f (s i)) (t (s i)))[q]?
theorem Tbl.keep {S : Nat → Prop} {w w' : World} {g n : Nat} {f t : Nat → ByteArray} {s : Nat → Nat} (h : Tbl w g n f t s) (hc : Chg S w w') (hn : ¬ S g) : Tbl w' g n f t s := by
  obtain ⟨cur, b1, b2, b3⟩ := h
  exact ⟨cur, hc.heap b1 hn, b2, b3⟩
theorem set10 {wr : World} {g : Nat} {cur : Array Value} (h : wr.heap[g]? = some (.cells cur 71 (0, 0))) (o : Nat) (a0 a1 a2 a3 a4 a5 a6 a7 a8 a9 : Value) (ho : o + 10 ≤ cur.size) :
    ∃ cur', (st10 wr g o a0 a1 a2 a3 a4 a5 a6 a7 a8 a9).heap[g]? = some (.cells cur' 71 (0, 0)) ∧ cur'.size = cur.size ∧ (∀ q, q < 10 → cur'[o + q]? = #[a0, a1, a2, a3, a4, a5, a6, a7, a8, a9][q]?) ∧ ∀ j, (j < o ∨ o + 10 ≤ j) → cur'[j]? = cur[j]? := by
  unfold st10
  have h0 := heap_setCell h o a0
  have h1 := heap_setCell h0 (o + 1) a1
  have h2 := heap_setCell h1 (o + 2) a2
  have h3 := heap_setCell h2 (o + 3) a3
  have h4 := heap_setCell h3 (o + 4) a4
  have h5 := heap_setCell h4 (o + 5) a5
  have h6 := heap_setCell h5 (o + 6) a6
  have h7 := heap_setCell h6 (o + 7) a7
  have h8 := heap_setCell h7 (o + 8) a8
  have h9 := heap_setCell h8 (o + 9) a9
  refine ⟨_, h9, by simp, fun q hq => ?_, fun j hj => ?_⟩
  · obtain rfl | rfl | rfl | rfl | rfl | rfl | rfl | rfl | rfl | rfl : q = 0 ∨ q = 1 ∨ q = 2 ∨ q = 3 ∨ q = 4 ∨ q = 5 ∨ q = 6 ∨ q = 7 ∨ q = 8 ∨ q = 9 := by omega
    all_goals (
      try simp only [Nat.add_zero]
      repeat first
        | rw [Array.getElem?_setIfInBounds_ne (by omega)]
        | rw [Array.getElem?_setIfInBounds_self_of_lt (by first | omega | (simp; omega))]
      rfl)
  · repeat rw [Array.getElem?_setIfInBounds_ne (by omega)]
theorem sep10 {i j : Nat} (h : i ≠ j) (p q : Nat) (hp : p < 10) (hq : q < 10) : i * 10 + p ≠ j * 10 + q := by omega
/-- Item b's cells, stored at place i, and item a's at place j. -/
theorem Tbl.swap {w : World} {g n i j : Nat} {f t : Nat → ByteArray} {s : Nat → Nat} (h : Tbl w g n f t s) (hi : i < n) (hj : j < n) (hij : i ≠ j) :
    Tbl (st10 (st10 w g (i * 10) (.string (f (s j))) (.string (t (s j))) (.slice none 0 0) (.slice none 0 0) (.slice none 0 0) (.int .i32 0) (.int .i32 0) (.int .u8 1) (.int .i32 0) (.int .i32 0)) g (j * 10) (.string (f (s i))) (.string (t (s i))) (.slice none 0 0) (.slice none 0 0) (.slice none 0 0) (.int .i32 0) (.int .i32 0) (.int .u8 1) (.int .i32 0) (.int .i32 0)) g n f t (Stab.swp s i j) := by
  obtain ⟨cur, b1, b2, b3⟩ := h
  obtain ⟨c1, d1, d2, d3, d4⟩ := set10 b1 (i * 10) (.string (f (s j))) (.string (t (s j))) (.slice none 0 0) (.slice none 0 0) (.slice none 0 0) (.int .i32 0) (.int .i32 0) (.int .u8 1) (.int .i32 0) (.int .i32 0) (by omega)
  obtain ⟨c2, e1, e2, e3, e4⟩ := set10 d1 (j * 10) (.string (f (s i))) (.string (t (s i))) (.slice none 0 0) (.slice none 0 0) (.slice none 0 0) (.int .i32 0) (.int .i32 0) (.int .u8 1) (.int .i32 0) (.int .i32 0) (by omega)
  refine ⟨c2, e1, by omega, fun x hx q hq => ?_⟩
  unfold Stab.swp
  by_cases xj : x = j
  · subst xj
    rw [if_neg (Ne.symm hij), if_pos rfl]
    exact e3 q hq
  · rw [e4 _ (by omega)]
    by_cases xi : x = i
    · subst xi
      rw [if_pos rfl]
      exact d3 q hq
    · rw [if_neg xi, if_neg xj, d4 _ (by omega)]
      exact b3 x hx q hq
theorem cell_other (w : World) (g o o2 : Nat) (v : Value) (h : o ≠ o2) : (w.setCell ⟨g, o, none⟩ v).cell? ⟨g, o2, none⟩ = w.cell? ⟨g, o2, none⟩ := by
  exact World.cell?_setCell_other w _ _ v (by simp [h])
def SwapOut (g n : Nat) (f t : Nat → ByteArray) (s' : Nat → Nat) (w : World) (e : Ending) (w' : World) : Prop := e = .returned (.tuple #[]) ∧ Tbl w' g n f t s' ∧ Chg (fun k => k = g) w w'
theorem swapOut_drew {g n : Nat} {f t : Nat → ByteArray} {s' : Nat → Nat} {w W : World} (h : Tbl W g n f t s' ∧ Chg (fun k => k = g) w W) : SwapOut g n f t s' w (.returned (.tuple #[])) W.drew := by
  obtain ⟨⟨cur, b1, b2, b3⟩, h2⟩ := h
  exact ⟨rfl, ⟨cur, b1, b2, b3⟩, h2.drew⟩
set_option maxHeartbeats 8000000 in
theorem swap109 (g n c i j : Nat) (f t : Nat → ByteArray) (s : Nat → Nat) (w : World) (hT : Tbl w g n f t s) (hi : i < n) (hj : j < n) (hij : i ≠ j) :
    Calls Tryz.prog 109 #[.slice (some ⟨g, 0, none⟩) n c, .int .i64 i, .int .i64 j] w (SwapOut g n f t (Stab.swp s i j) w) := by
  have HT := Lib.hid hT
  obtain ⟨cur, b1, b2, b3⟩ := hT
  have cell : ∀ x, x < n → ∀ q, q < 10 → w.cell? ⟨g, x * 10 + q, none⟩ = (item (f (s x)) (t (s x)))[q]? := fun x hx q hq => by rw [cell_of_heap b1]; exact b3 x hx q hq
  have i0 := cell i hi 0 (by omega)
  have i1 := cell i hi 1 (by omega)
  have i2 := cell i hi 2 (by omega)
  have i3 := cell i hi 3 (by omega)
  have i4 := cell i hi 4 (by omega)
  have i5 := cell i hi 5 (by omega)
  have i6 := cell i hi 6 (by omega)
  have i7 := cell i hi 7 (by omega)
  have i8 := cell i hi 8 (by omega)
  have i9 := cell i hi 9 (by omega)
  have j0 := cell j hj 0 (by omega)
  have j1 := cell j hj 1 (by omega)
  have j2 := cell j hj 2 (by omega)
  have j3 := cell j hj 3 (by omega)
  have j4 := cell j hj 4 (by omega)
  have j5 := cell j hj 5 (by omega)
  have j6 := cell j hj 6 (by omega)
  have j7 := cell j hj 7 (by omega)
  have j8 := cell j hj 8 (by omega)
  have j9 := cell j hj 9 (by omega)
  simp only [item, List.getElem?_toArray, List.getElem?_cons_succ, List.getElem?_cons_zero, Nat.add_zero] at i0 i1 i2 i3 i4 i5 i6 i7 i8 i9 j0 j1 j2 j3 j4 j5 j6 j7 j8 j9
  have fm := fun j => frozen_of_heap b1 j
  have hi1 : (i : Int) < (n : Int) := by omega
  have hj1 : (j : Int) < (n : Int) := by omega
  have hi0 : (0 : Int) ≤ (i : Int) := by omega
  have hj0 : (0 : Int) ≤ (j : Int) := by omega
  have Hi := Lib.hid hi
  have Hj := Lib.hid hj
  have Hij := Lib.hid hij
  have k0 : (w.setCell ⟨g, i * 10, none⟩ (.string (f (s j)))).cell? ⟨g, j * 10, none⟩ = some (.string (f (s j))) := by
    repeat rw [cell_other _ g _ _ _ (by omega)]
    exact j0
  have k1 : ((w.setCell ⟨g, i * 10, none⟩ (.string (f (s j)))).setCell ⟨g, i * 10 + 1, none⟩ (.string (t (s j)))).cell? ⟨g, j * 10 + 1, none⟩ = some (.string (t (s j))) := by
    repeat rw [cell_other _ g _ _ _ (by omega)]
    exact j1
  have k2 : (((w.setCell ⟨g, i * 10, none⟩ (.string (f (s j)))).setCell ⟨g, i * 10 + 1, none⟩ (.string (t (s j)))).setCell ⟨g, i * 10 + 2, none⟩ (.slice none 0 0)).cell? ⟨g, j * 10 + 2, none⟩ = some (.slice none 0 0) := by
    repeat rw [cell_other _ g _ _ _ (by omega)]
    exact j2
  have k3 : ((((w.setCell ⟨g, i * 10, none⟩ (.string (f (s j)))).setCell ⟨g, i * 10 + 1, none⟩ (.string (t (s j)))).setCell ⟨g, i * 10 + 2, none⟩ (.slice none 0 0)).setCell ⟨g, i * 10 + 3, none⟩ (.slice none 0 0)).cell? ⟨g, j * 10 + 3, none⟩ = some (.slice none 0 0) := by
    repeat rw [cell_other _ g _ _ _ (by omega)]
    exact j3
  have k4 : (((((w.setCell ⟨g, i * 10, none⟩ (.string (f (s j)))).setCell ⟨g, i * 10 + 1, none⟩ (.string (t (s j)))).setCell ⟨g, i * 10 + 2, none⟩ (.slice none 0 0)).setCell ⟨g, i * 10 + 3, none⟩ (.slice none 0 0)).setCell ⟨g, i * 10 + 4, none⟩ (.slice none 0 0)).cell? ⟨g, j * 10 + 4, none⟩ = some (.slice none 0 0) := by
    repeat rw [cell_other _ g _ _ _ (by omega)]
    exact j4
  have k5 : ((((((w.setCell ⟨g, i * 10, none⟩ (.string (f (s j)))).setCell ⟨g, i * 10 + 1, none⟩ (.string (t (s j)))).setCell ⟨g, i * 10 + 2, none⟩ (.slice none 0 0)).setCell ⟨g, i * 10 + 3, none⟩ (.slice none 0 0)).setCell ⟨g, i * 10 + 4, none⟩ (.slice none 0 0)).setCell ⟨g, i * 10 + 5, none⟩ (.int .i32 0)).cell? ⟨g, j * 10 + 5, none⟩ = some (.int .i32 0) := by
    repeat rw [cell_other _ g _ _ _ (by omega)]
    exact j5
  have k6 : (((((((w.setCell ⟨g, i * 10, none⟩ (.string (f (s j)))).setCell ⟨g, i * 10 + 1, none⟩ (.string (t (s j)))).setCell ⟨g, i * 10 + 2, none⟩ (.slice none 0 0)).setCell ⟨g, i * 10 + 3, none⟩ (.slice none 0 0)).setCell ⟨g, i * 10 + 4, none⟩ (.slice none 0 0)).setCell ⟨g, i * 10 + 5, none⟩ (.int .i32 0)).setCell ⟨g, i * 10 + 6, none⟩ (.int .i32 0)).cell? ⟨g, j * 10 + 6, none⟩ = some (.int .i32 0) := by
    repeat rw [cell_other _ g _ _ _ (by omega)]
    exact j6
  have k7 : ((((((((w.setCell ⟨g, i * 10, none⟩ (.string (f (s j)))).setCell ⟨g, i * 10 + 1, none⟩ (.string (t (s j)))).setCell ⟨g, i * 10 + 2, none⟩ (.slice none 0 0)).setCell ⟨g, i * 10 + 3, none⟩ (.slice none 0 0)).setCell ⟨g, i * 10 + 4, none⟩ (.slice none 0 0)).setCell ⟨g, i * 10 + 5, none⟩ (.int .i32 0)).setCell ⟨g, i * 10 + 6, none⟩ (.int .i32 0)).setCell ⟨g, i * 10 + 7, none⟩ (.int .u8 1)).cell? ⟨g, j * 10 + 7, none⟩ = some (.int .u8 1) := by
    repeat rw [cell_other _ g _ _ _ (by omega)]
    exact j7
  have k8 : (((((((((w.setCell ⟨g, i * 10, none⟩ (.string (f (s j)))).setCell ⟨g, i * 10 + 1, none⟩ (.string (t (s j)))).setCell ⟨g, i * 10 + 2, none⟩ (.slice none 0 0)).setCell ⟨g, i * 10 + 3, none⟩ (.slice none 0 0)).setCell ⟨g, i * 10 + 4, none⟩ (.slice none 0 0)).setCell ⟨g, i * 10 + 5, none⟩ (.int .i32 0)).setCell ⟨g, i * 10 + 6, none⟩ (.int .i32 0)).setCell ⟨g, i * 10 + 7, none⟩ (.int .u8 1)).setCell ⟨g, i * 10 + 8, none⟩ (.int .i32 0)).cell? ⟨g, j * 10 + 8, none⟩ = some (.int .i32 0) := by
    repeat rw [cell_other _ g _ _ _ (by omega)]
    exact j8
  have k9 : ((((((((((w.setCell ⟨g, i * 10, none⟩ (.string (f (s j)))).setCell ⟨g, i * 10 + 1, none⟩ (.string (t (s j)))).setCell ⟨g, i * 10 + 2, none⟩ (.slice none 0 0)).setCell ⟨g, i * 10 + 3, none⟩ (.slice none 0 0)).setCell ⟨g, i * 10 + 4, none⟩ (.slice none 0 0)).setCell ⟨g, i * 10 + 5, none⟩ (.int .i32 0)).setCell ⟨g, i * 10 + 6, none⟩ (.int .i32 0)).setCell ⟨g, i * 10 + 7, none⟩ (.int .u8 1)).setCell ⟨g, i * 10 + 8, none⟩ (.int .i32 0)).setCell ⟨g, i * 10 + 9, none⟩ (.int .i32 0)).cell? ⟨g, j * 10 + 9, none⟩ = some (.int .i32 0) := by
    repeat rw [cell_other _ g _ _ _ (by omega)]
    exact j9
  clear cell b1 b2 b3 hi hj hij
  go_enter Tryz.func109, Tryz.ntmps109
  go_wp2_with fail
  go_region
  have fin := And.intro (Tbl.swap HT.out Hi.out Hj.out Hij.out) ((st10_chg w g (i * 10) (.string (f (s j))) (.string (t (s j))) (.slice none 0 0) (.slice none 0 0) (.slice none 0 0) (.int .i32 0) (.int .i32 0) (.int .u8 1) (.int .i32 0) (.int .i32 0)).trans (st10_chg _ g (j * 10) (.string (f (s i))) (.string (t (s i))) (.slice none 0 0) (.slice none 0 0) (.slice none 0 0) (.int .i32 0) (.int .i32 0) (.int .u8 1) (.int .i32 0) (.int .i32 0)) (fun _ _ h => h))
  unfold st10 at fin
  exact bodyPost_end (v := .tuple #[]) (results_no (by rfl) _ _ _) rfl (swapOut_drew fin)
/-- Every key ends in its first star, which stands at L. -/
def Star (f : Nat → ByteArray) (L : Nat → Nat) : Prop := ∀ x, Lib.indexByte (f x).data.toList 42 = (L x : Int) ∧ (f x).size = L x + 1
theorem less108 (g n c i j : Nat) (f t : Nat → ByteArray) (L : Nat → Nat) (s : Nat → Nat) (w : World) (hS : Star f L) (hT : Tbl w g n f t s) (hi : i < n) (hj : j < n) :
    Calls Tryz.prog 108 #[.slice (some ⟨g, 0, none⟩) n c, .int .i64 i, .int .i64 j] w (fun e w' => e = .returned (.bool (decide (L (s j) < L (s i)))) ∧ w = w') := by
  obtain ⟨cur, b1, b2, b3⟩ := hT
  have cell : ∀ x, x < n → ∀ q, q < 10 → w.cell? ⟨g, x * 10 + q, none⟩ = (item (f (s x)) (t (s x)))[q]? := fun x hx q hq => by rw [cell_of_heap b1]; exact b3 x hx q hq
  have i0 := cell i hi 0 (by omega)
  have j0 := cell j hj 0 (by omega)
  simp only [item, List.getElem?_toArray, List.getElem?_cons_succ, List.getElem?_cons_zero, Nat.add_zero] at i0 j0
  obtain ⟨si1, si2⟩ := hS (s i)
  obtain ⟨sj1, sj2⟩ := hS (s j)
  have hi1 : (i : Int) < (n : Int) := by omega
  have hj1 : (j : Int) < (n : Int) := by omega
  have hi0 : (0 : Int) ≤ (i : Int) := by omega
  have hj0 : (0 : Int) ≤ (j : Int) := by omega
  have HI := Lib.hid (And.intro si1 si2)
  have HJ := Lib.hid (And.intro sj1 sj2)
  have I0 := Lib.hid i0
  have J0 := Lib.hid j0
  clear cell b1 b2 b3 hi hj si1 si2 sj1 sj2 hS i0 j0
  have core : ∀ (a b : Nat) (sa sb : ByteArray), Hid (Lib.indexByte sa.data.toList 42 = (a : Int) ∧ sa.size = a + 1) → Hid (Lib.indexByte sb.data.toList 42 = (b : Int) ∧ sb.size = b + 1) → w.cell? ⟨g, i * 10, none⟩ = some (.string sa) → w.cell? ⟨g, j * 10, none⟩ = some (.string sb) →
      Calls Tryz.prog 108 #[.slice (some ⟨g, 0, none⟩) n c, .int .i64 i, .int .i64 j] w (fun e w' => e = .returned (.bool (decide (b < a))) ∧ w = w') := by
    intro a b sa sb HA HB ca cb
    have ha0 : (0 : Int) ≤ (a : Int) := by omega
    have hb0 : (0 : Int) ≤ (b : Int) := by omega
    have go : ∀ r : Bool, (r = decide (b < a)) → Calls Tryz.prog 108 #[.slice (some ⟨g, 0, none⟩) n c, .int .i64 i, .int .i64 j] w (fun e w' => e = .returned (.bool r) ∧ w = w') := by
      intro r hr
      rcases Nat.lt_trichotomy a b with h | h | h
      · obtain rfl : r = false := by rw [hr]; exact decide_eq_false (by omega)
        clear hr
        have h1 : ¬ (b : Int) < (a : Int) := by omega
        have h2 : (a : Int) < (b : Int) := by omega
        clear h
        go_enter Tryz.func108, Tryz.ntmps108
        go_wp2_with fail
        refine (Tryz.strings_IndexByte sa 42 w).mono ?_
        rintro e1 w1 ⟨rfl, rfl⟩
        rw [show (42 : Int).toNat.toUInt8 = 42 from rfl, HA.out.1]
        go_wp2_with fail
        refine (Tryz.strings_IndexByte sb 42 _).mono ?_
        rintro e1 w1 ⟨rfl, rfl⟩
        rw [show (42 : Int).toNat.toUInt8 = 42 from rfl, HB.out.1]
        go_wp2_with fail
        go_ret
        exact ⟨rfl, rfl⟩
      · subst h
        obtain rfl : r = false := by rw [hr]; exact decide_eq_false (by omega)
        clear hr
        have h1 : ¬ (a : Int) < (a : Int) := by omega
        have h2 : ¬ ((sb.size : Int) < (sa.size : Int)) := by have := HA.out.2; have := HB.out.2; omega
        have h3 : ¬ ((sa.size : Int) < (sb.size : Int)) := by have := HA.out.2; have := HB.out.2; omega
        go_enter Tryz.func108, Tryz.ntmps108
        go_wp2_with fail
        refine (Tryz.strings_IndexByte sa 42 w).mono ?_
        rintro e1 w1 ⟨rfl, rfl⟩
        rw [show (42 : Int).toNat.toUInt8 = 42 from rfl, HA.out.1]
        go_wp2_with fail
        refine (Tryz.strings_IndexByte sb 42 _).mono ?_
        rintro e1 w1 ⟨rfl, rfl⟩
        rw [show (42 : Int).toNat.toUInt8 = 42 from rfl, HB.out.1]
        go_wp2_with fail
        go_ret
        exact ⟨rfl, rfl⟩
      · obtain rfl : r = true := by rw [hr]; exact decide_eq_true (by omega)
        clear hr
        have h1 : (b : Int) < (a : Int) := by omega
        clear h
        go_enter Tryz.func108, Tryz.ntmps108
        go_wp2_with fail
        refine (Tryz.strings_IndexByte sa 42 w).mono ?_
        rintro e1 w1 ⟨rfl, rfl⟩
        rw [show (42 : Int).toNat.toUInt8 = 42 from rfl, HA.out.1]
        go_wp2_with fail
        refine (Tryz.strings_IndexByte sb 42 _).mono ?_
        rintro e1 w1 ⟨rfl, rfl⟩
        rw [show (42 : Int).toNat.toUInt8 = 42 from rfl, HB.out.1]
        go_wp2_with fail
        go_ret
        exact ⟨rfl, rfl⟩
    exact go _ rfl
  exact core _ _ _ _ HI HJ I0.out J0.out
theorem less56 (a : Option Addr) (n c : Nat) (w : World) : (method 703 56 (.slice a n c) "Less").run Tryz.prog w = .ok (108, .slice a n c) w := by kernel_rfl
theorem swapm56 (a : Option Addr) (n c : Nat) (w : World) : (method 703 56 (.slice a n c) "Swap").run Tryz.prog w = .ok (109, .slice a n c) w := by kernel_rfl
end Go.Proofs.YtcbmankbjgbjgaaGreatFmt
