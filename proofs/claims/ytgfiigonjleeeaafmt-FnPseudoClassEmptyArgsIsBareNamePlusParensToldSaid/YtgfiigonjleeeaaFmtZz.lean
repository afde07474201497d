/-
  Proved: contracts of the law's helpers (clone, tail, the plain-identifier test, the sizes) and of the printer's wrappers. No statement of the seat stands here.
-/
import Derived.Test.YtgfiigonjleeeaaFmtSel
import Derived.Lib.SliceRun
import Derived.Deep.WholeRow
namespace Go.Proofs.YtgfiigonjleeeaaFmt
open Go.RowKit Go.ChangeAt
set_option linter.unusedSimpArgs false
set_option linter.unusedVariables false
theorem ws10 (x : Bool) (w : World) : Calls Tryf.prog 10 #[.bool x] w fun e w' => (∃ v : Int, e = .returned (.int .u8 v)) ∧ w = w' := by
  cases x
  all_goals (
    go_enter Tryf.func10, Tryf.ntmps10
    go_wp2
    go_ret
    exact ⟨⟨_, rfl⟩, rfl⟩)
def Bound3 (n p q : Nat) (w : World) (e : Ending) (w' : World) : Prop := ∃ r : Bool, e = .returned (.bool r) ∧ w = w' ∧ (r = true → n + p + q ≤ 1048576)
set_option maxHeartbeats 4000000 in
theorem zb12 (a : Option Addr) (n c : Nat) (s t : ByteArray) (v1 v2 v3 v4 v5 : Value) (w : World) : Calls Tryf.prog 12 #[.slice a n c, .string s, v1, v2, .string t, v3, v4, v5] w (Bound3 n s.size t.size w) := by
  by_cases h1 : n ≤ 1048576
  · have x1 : ¬ (1048576 : Int) < (n : Int) := by omega
    by_cases h2 : s.size ≤ 1048576
    · have x2 : ¬ (1048576 : Int) < (s.size : Int) := by omega
      by_cases h3 : n + s.size ≤ 1048576
      · have x3 : ¬ (1048576 : Int) < (n : Int) + (s.size : Int) := by omega
        by_cases h4 : t.size ≤ 1048576
        · have x4 : ¬ (1048576 : Int) < (t.size : Int) := by omega
          by_cases h5 : n + s.size + t.size ≤ 1048576
          · have x5 : ¬ (1048576 : Int) < (n : Int) + (s.size : Int) + (t.size : Int) := by omega
            go_enter Tryf.func12, Tryf.ntmps12
            go_wp2
            go_ret
            exact ⟨true, rfl, rfl, fun _ => h5⟩
          · have x5 : (1048576 : Int) < (n : Int) + (s.size : Int) + (t.size : Int) := by omega
            go_enter Tryf.func12, Tryf.ntmps12
            go_wp2
            go_ret
            exact ⟨false, rfl, rfl, fun h => by cases h⟩
        · have x4 : (1048576 : Int) < (t.size : Int) := by omega
          go_enter Tryf.func12, Tryf.ntmps12
          go_wp2
          go_ret
          exact ⟨false, rfl, rfl, fun h => by cases h⟩
      · have x3 : (1048576 : Int) < (n : Int) + (s.size : Int) := by omega
        go_enter Tryf.func12, Tryf.ntmps12
        go_wp2
        go_ret
        exact ⟨false, rfl, rfl, fun h => by cases h⟩
    · have x2 : (1048576 : Int) < (s.size : Int) := by omega
      go_enter Tryf.func12, Tryf.ntmps12
      go_wp2
      go_ret
      exact ⟨false, rfl, rfl, fun h => by cases h⟩
  · have x1 : (1048576 : Int) < (n : Int) := by omega
    go_enter Tryf.func12, Tryf.ntmps12
    go_wp2
    go_ret
    exact ⟨false, rfl, rfl, fun h => by cases h⟩
set_option maxHeartbeats 4000000 in
theorem plain13 (s : ByteArray) (hs : s.size ≤ 1048576) (w : World) : Calls Tryf.prog 13 #[.string s] w (Told (Plain s) w) := by
  by_cases hpos : 0 < s.size
  · have x0 : ((s.size : Int) == 0) = false := beq_eq_false_iff_ne.2 (by omega)
    have b0 := bt_eq s 0 hpos
    by_cases h45 : bt s 0 = 45
    · have e0 : ((bt s 0 : Int) == 45) = true := beq_iff_eq.2 (by omega)
      by_cases h2 : 2 ≤ s.size
      · have x2 : ¬ (s.size : Int) < 2 := by omega
        have b1 := bt_eq s 1 (by omega)
        have H45 := Lib.hid h45
        clear h45
        have hx1 : (1 : Int) < (s.size : Int) := by omega
        by_cases h451 : bt s 1 = 45
        · have e1 : ((bt s 1 : Int) == 45) = true := beq_iff_eq.2 (by omega)
          have Hd : Hid ((bt s 0 = 45 ∧ 2 ≤ s.size ∧ (Letter (bt s 1) ∨ bt s 1 = 45)) ∨ Letter (bt s 0)) := Lib.hid (.inl ⟨H45.out, h2, .inr h451⟩)
          clear h451
          go_enter Tryf.func13, Tryf.ntmps13
          go_wp2_with fail
          refine (letter19 (bt s 1) w).mono ?_
          rintro ex w1 ⟨r, rfl, rfl, hr⟩
          clear hr
          cases r
          · go_wp2_with fail
            go_loop [3] (fun i => ∃ k : Nat, k ≤ s.size ∧ i = .int .i64 k ∧ ∀ j, j < k → NameB (bt s j)) (fun i => s.size - (intOf i).toNat)
            case atStart => exact ⟨0, by omega, rfl, fun j hj => by omega⟩
            case round =>
              obtain ⟨k, hk, rfl, hall⟩ := hrel
              have Hall := Lib.hid hall
              clear hall
              by_cases hlt : k < s.size
              · have hb := bt_eq s k hlt
                have hx2 : (k : Int) < (s.size : Int) := by omega
                have hx3 : (0 : Int) ≤ (k : Int) := by omega
                go_wp2_with fail
                refine (name20 (bt s k) w).mono ?_
                rintro ex w1 ⟨r, rfl, rfl, hr⟩
                have Hr := Lib.hid hr
                clear hr
                cases r
                · go_wp2_with fail
                  go_ret
                  exact ⟨false, rfl, rfl, fun h => by cases h⟩
                · go_wp2_with fail
                  go_round
                  case rel => exact ⟨k + 1, by omega, by go_num, fun j hj => by
                    by_cases e : j = k
                    · subst e; exact Hr.out (by simp)
                    · exact Hall.out j (by omega)⟩
                  case measure => simp [intOf]; omega
              · obtain rfl : k = s.size := by omega
                go_wp2_with fail
                go_ret
                exact ⟨true, rfl, rfl, fun _ => ⟨hpos, Hd.out, Hall.out⟩⟩
          · go_wp2_with fail
            go_loop [3] (fun i => ∃ k : Nat, k ≤ s.size ∧ i = .int .i64 k ∧ ∀ j, j < k → NameB (bt s j)) (fun i => s.size - (intOf i).toNat)
            case atStart => exact ⟨0, by omega, rfl, fun j hj => by omega⟩
            case round =>
              obtain ⟨k, hk, rfl, hall⟩ := hrel
              have Hall := Lib.hid hall
              clear hall
              by_cases hlt : k < s.size
              · have hb := bt_eq s k hlt
                have hx2 : (k : Int) < (s.size : Int) := by omega
                have hx3 : (0 : Int) ≤ (k : Int) := by omega
                go_wp2_with fail
                refine (name20 (bt s k) w).mono ?_
                rintro ex w1 ⟨r, rfl, rfl, hr⟩
                have Hr := Lib.hid hr
                clear hr
                cases r
                · go_wp2_with fail
                  go_ret
                  exact ⟨false, rfl, rfl, fun h => by cases h⟩
                · go_wp2_with fail
                  go_round
                  case rel => exact ⟨k + 1, by omega, by go_num, fun j hj => by
                    by_cases e : j = k
                    · subst e; exact Hr.out (by simp)
                    · exact Hall.out j (by omega)⟩
                  case measure => simp [intOf]; omega
              · obtain rfl : k = s.size := by omega
                go_wp2_with fail
                go_ret
                exact ⟨true, rfl, rfl, fun _ => ⟨hpos, Hd.out, Hall.out⟩⟩
        · have e1 : ((bt s 1 : Int) == 45) = false := beq_eq_false_iff_ne.2 (by omega)
          clear h451
          go_enter Tryf.func13, Tryf.ntmps13
          go_wp2_with fail
          refine (letter19 (bt s 1) w).mono ?_
          rintro ex w1 ⟨r, rfl, rfl, hr⟩
          cases r
          · clear hr
            go_wp2_with fail
            go_ret
            exact ⟨false, rfl, rfl, fun h => by cases h⟩
          · have Hd : Hid ((bt s 0 = 45 ∧ 2 ≤ s.size ∧ (Letter (bt s 1) ∨ bt s 1 = 45)) ∨ Letter (bt s 0)) := Lib.hid (.inl ⟨H45.out, h2, .inl (hr rfl)⟩)
            clear hr
            go_wp2_with fail
            go_loop [3] (fun i => ∃ k : Nat, k ≤ s.size ∧ i = .int .i64 k ∧ ∀ j, j < k → NameB (bt s j)) (fun i => s.size - (intOf i).toNat)
            case atStart => exact ⟨0, by omega, rfl, fun j hj => by omega⟩
            case round =>
              obtain ⟨k, hk, rfl, hall⟩ := hrel
              have Hall := Lib.hid hall
              clear hall
              by_cases hlt : k < s.size
              · have hb := bt_eq s k hlt
                have hx2 : (k : Int) < (s.size : Int) := by omega
                have hx3 : (0 : Int) ≤ (k : Int) := by omega
                go_wp2_with fail
                refine (name20 (bt s k) w).mono ?_
                rintro ex w1 ⟨r, rfl, rfl, hr⟩
                have Hr := Lib.hid hr
                clear hr
                cases r
                · go_wp2_with fail
                  go_ret
                  exact ⟨false, rfl, rfl, fun h => by cases h⟩
                · go_wp2_with fail
                  go_round
                  case rel => exact ⟨k + 1, by omega, by go_num, fun j hj => by
                    by_cases e : j = k
                    · subst e; exact Hr.out (by simp)
                    · exact Hall.out j (by omega)⟩
                  case measure => simp [intOf]; omega
              · obtain rfl : k = s.size := by omega
                go_wp2_with fail
                go_ret
                exact ⟨true, rfl, rfl, fun _ => ⟨hpos, Hd.out, Hall.out⟩⟩
      · have x2 : (s.size : Int) < 2 := by omega
        clear h45
        go_enter Tryf.func13, Tryf.ntmps13
        go_wp2_with fail
        go_ret
        exact ⟨false, rfl, rfl, fun h => by cases h⟩
    · have e0 : ((bt s 0 : Int) == 45) = false := beq_eq_false_iff_ne.2 (by omega)
      clear h45
      go_enter Tryf.func13, Tryf.ntmps13
      go_wp2_with fail
      refine (letter19 (bt s 0) w).mono ?_
      rintro ex w1 ⟨r, rfl, rfl, hr⟩
      cases r
      · clear hr
        go_wp2_with fail
        go_ret
        exact ⟨false, rfl, rfl, fun h => by cases h⟩
      · have Hd : Hid ((bt s 0 = 45 ∧ 2 ≤ s.size ∧ (Letter (bt s 1) ∨ bt s 1 = 45)) ∨ Letter (bt s 0)) := Lib.hid (.inr (hr rfl))
        clear hr
        go_wp2_with fail
        go_loop [3] (fun i => ∃ k : Nat, k ≤ s.size ∧ i = .int .i64 k ∧ ∀ j, j < k → NameB (bt s j)) (fun i => s.size - (intOf i).toNat)
        case atStart => exact ⟨0, by omega, rfl, fun j hj => by omega⟩
        case round =>
          obtain ⟨k, hk, rfl, hall⟩ := hrel
          have Hall := Lib.hid hall
          clear hall
          by_cases hlt : k < s.size
          · have hb := bt_eq s k hlt
            have hx2 : (k : Int) < (s.size : Int) := by omega
            have hx3 : (0 : Int) ≤ (k : Int) := by omega
            go_wp2_with fail
            refine (name20 (bt s k) w).mono ?_
            rintro ex w1 ⟨r, rfl, rfl, hr⟩
            have Hr := Lib.hid hr
            clear hr
            cases r
            · go_wp2_with fail
              go_ret
              exact ⟨false, rfl, rfl, fun h => by cases h⟩
            · go_wp2_with fail
              go_round
              case rel => exact ⟨k + 1, by omega, by go_num, fun j hj => by
                by_cases e : j = k
                · subst e; exact Hr.out (by simp)
                · exact Hall.out j (by omega)⟩
              case measure => simp [intOf]; omega
          · obtain rfl : k = s.size := by omega
            go_wp2_with fail
            go_ret
            exact ⟨true, rfl, rfl, fun _ => ⟨hpos, Hd.out, Hall.out⟩⟩
  · have x0 : ((s.size : Int) == 0) = true := beq_iff_eq.2 (by omega)
    go_enter Tryf.func13, Tryf.ntmps13
    go_wp2_with fail
    go_ret
    exact ⟨false, rfl, rfl, fun h => by cases h⟩
def NewP (m a : Bool) (v : Value) (w : World) (e : Ending) (w' : World) : Prop := e = .returned (.pointer (some ⟨w.heap.size, 0, none⟩)) ∧ w' = w.alloc (.cells (pc m a v) 64)
set_option maxRecDepth 100000 in
theorem new6 (m a : Bool) (vo : Option Addr) (n c : Nat) (w : World) : Calls Tryf.prog 6 #[.slice vo n c, .bool m, .bool a] w (NewP m a (.slice vo n c) w) := by
  go_enter Tryf.func6, Tryf.ntmps6
  go_wp2
  go_ret
  exact ⟨rfl, rfl⟩
def IsVal (v : Value) (w : World) (e : Ending) (w' : World) : Prop := e = .returned v ∧ w = w'
theorem css11 (b : Nat) (v : Value) (w : World) (h : w.cell? ⟨b, 15, none⟩ = some v) : Calls Tryf.prog 11 #[.pointer (some ⟨b, 0, none⟩)] w (IsVal v w) := by
  have hb := World.block_lt_of_cell? w _ h
  go_enter Tryf.func11, Tryf.ntmps11
  go_wp2
  go_ret
  exact ⟨rfl, rfl⟩
set_option maxHeartbeats 4000000 in
theorem no7 (B b : Nat) (m a el : Bool) (out : List UInt8) (nm : ByteArray) (ws : Int) (vo : Option Addr) (w : World) (h : Pr B b m a vo out w) (hpl : Plain nm) (ho : out.length ≤ 130000000000) (ht : nm.size ≤ 140000000) :
    Calls Tryf.prog 7 #[.pointer (some ⟨b, 0, none⟩), .string nm, .bool el, .int .u8 ws] w (Wrt B b m a vo (out ++ colons el ++ nm.data.toList) w) := by
  go_enter Tryf.func7, Tryf.ntmps7
  go_wp2_with fail
  refine (sel_none B b m a el out nm ws vo w h hpl ho ht).mono ?_
  rintro ex w1 ⟨rfl, v1, h1, h2⟩
  go_wp2_with fail
  go_end0
  exact ⟨rfl, v1, h1, h2⟩
set_option maxHeartbeats 4000000 in
theorem empty9 (B b : Nat) (m a el : Bool) (out : List UInt8) (nm : ByteArray) (ws : Int) (vo : Option Addr) (w : World) (h : Pr B b m a vo out w) (hpl : Plain nm) (ho : out.length ≤ 130000000000) (ht : nm.size ≤ 140000000) :
    Calls Tryf.prog 9 #[.pointer (some ⟨b, 0, none⟩), .string nm, .bool el, .int .u8 ws] w (Wrt B b m a vo (out ++ colons el ++ nm.data.toList ++ [40] ++ [41]) w) := by
  have hbs := h.lt_size
  go_enter Tryf.func9, Tryf.ntmps9
  go_wp2_with fail
  refine (sel_empty B b m a el out nm _ ws vo _ (h.wrote ((Chg.refl Nowhere w).alloc _)) hpl ho ht).mono ?_
  rintro ex w1 ⟨rfl, v1, h1, h2⟩
  have hw := ((Wrote.refl b vo w).alloc _).trans h2
  clear h2
  go_wp2_with fail
  go_end0
  exact ⟨rfl, v1, h1, hw⟩
set_option maxHeartbeats 4000000 in
theorem one15 (B b : Nat) (m a el : Bool) (out : List UInt8) (nm t : ByteArray) (ws : Int) (vo : Option Addr) (w : World) (h : Pr B b m a vo out w) (hpl : Plain nm) (ho : out.length ≤ 130000000000) (ht : nm.size ≤ 140000000) (hpt : Plain t) (htt : t.size ≤ 140000000) :
    Calls Tryf.prog 15 #[.pointer (some ⟨b, 0, none⟩), .string nm, .bool el, .string t, .int .u8 ws] w (Wrt B b m a vo (out ++ colons el ++ nm.data.toList ++ [40] ++ t.data.toList ++ [41]) w) := by
  have hbs := h.lt_size
  go_enter Tryf.func15, Tryf.ntmps15
  go_wp2_with fail
  have hw1 : Wrote b vo vo w (w.alloc (.cells (tokCells t) 75)) := (Wrote.refl b vo w).alloc _
  refine (sel_one B b m a el out nm w.heap.size t ws vo (w.alloc (.cells (tokCells t) 75)) (h.wrote ((Chg.refl Nowhere w).alloc _)) hpl ho ht hpt htt (heap_alloc_at w _ _ rfl) (by omega) (fun hh => by have := (h.addr _ hh).2; omega)).mono ?_
  rintro ex w1 ⟨rfl, v1, h1, h2⟩
  have hw := hw1.trans h2
  clear h2 hw1
  go_wp2_with fail
  go_end0
  exact ⟨rfl, v1, h1, hw⟩
end Go.Proofs.YtgfiigonjleeeaaFmt
