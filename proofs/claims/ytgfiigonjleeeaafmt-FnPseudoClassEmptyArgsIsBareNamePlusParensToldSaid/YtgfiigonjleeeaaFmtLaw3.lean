/-
  Proved: the walk of FnPseudoClassEmptyArgsIsBareNamePlusParens: it answers true. The frame and the card stand in a later text.
-/
import Derived.Test.YtgfiigonjleeeaaFmtName
import Derived.Test.YtgfiigonjleeeaaFmtLaw
namespace Go.Proofs.YtgfiigonjleeeaaFmt
open Go.RowKit Go.ChangeAt
open Go.Extern.Stop Go.Stop Go.Extern
set_option linter.unusedSimpArgs false
set_option linter.unusedVariables false
set_option maxRecDepth 100000
theorem zb5 (s : ByteArray) (v1 v2 v3 v4 : Value) (w : World) : Calls Tryf.prog 5 #[.string s, v1, v2, v3, v4] w (SomeBool w) := by
  by_cases h : 1048576 < s.size
  · have e : ((1048576 : Int) < (s.size : Int)) = True := eq_true (by omega)
    go_enter Tryf.func5, Tryf.ntmps5
    go_wp2
    go_ret
    exact ⟨_, rfl, rfl⟩
  · have e : ((1048576 : Int) < (s.size : Int)) = False := eq_false (by omega)
    have e2 : ((1048576 : Int) < 0 + (s.size : Int)) = False := eq_false (by omega)
    go_enter Tryf.func5, Tryf.ntmps5
    go_wp2
    go_ret
    exact ⟨_, rfl, rfl⟩
theorem ws8 (w : World) : Calls Tryf.prog 8 #[] w (IsVal (.int .u8 1) w) := by
  go_enter Tryf.func8, Tryf.ntmps8
  go_wp2
  go_ret
  exact ⟨rfl, rfl⟩
set_option maxHeartbeats 4000000 in
theorem any7 (F : Interp) (B b : Nat) (m a el : Bool) (out : List UInt8) (nm : ByteArray) (vo : Option Addr) (w : World) (h : Pr B b m a vo out w) (hT : ∀ vo' w', Wrote b vo vo' w w' → Lib.Utf8Tabs 1 2 w') (hF : F.answers w.tape) (hOk : HexOk F) (ho : out.length ≤ 120000000000) (ht : nm.size ≤ 600000) :
    Calls Tryf.prog 7 #[.pointer (some ⟨b, 0, none⟩), .string nm, .bool el, .int .u8 1] w (Wrt B b m a vo (out ++ colons el ++ idT F a nm) w) := by
  have hc := any_none F B b m a el out nm vo w h hT hF hOk ho ht
  clear h hT hF hOk
  go_enter Tryf.func7, Tryf.ntmps7
  go_wp2_with fail
  refine hc.mono ?_
  rintro ex w1 ⟨rfl, v1, h1, h2⟩
  go_wp2_with fail
  go_end0
  exact ⟨rfl, v1, h1, h2⟩
set_option maxHeartbeats 4000000 in
theorem any9 (F : Interp) (B b : Nat) (m a el : Bool) (out : List UInt8) (nm : ByteArray) (ws : Int) (vo : Option Addr) (w : World) (h : Pr B b m a vo out w) (hT : ∀ vo' w', Wrote b vo vo' w w' → Lib.Utf8Tabs 1 2 w') (hF : F.answers w.tape) (hOk : HexOk F) (ho : out.length ≤ 120000000000) (ht : nm.size ≤ 600000) :
    Calls Tryf.prog 9 #[.pointer (some ⟨b, 0, none⟩), .string nm, .bool el, .int .u8 ws] w (Wrt B b m a vo (out ++ colons el ++ idT F a nm ++ [40] ++ [41]) w) := by
  have hbs := h.lt_size
  have hc := fun o x => any_empty F B b m a el out nm x ws vo (w.alloc o) (h.wrote ((Chg.refl Nowhere w).alloc _)) (fun vo' w' hw => hT vo' w' (((Wrote.refl b vo w).alloc _).trans hw)) hF hOk ho ht
  clear h hT hF hOk
  go_enter Tryf.func9, Tryf.ntmps9
  go_wp2_with fail
  refine (hc _ _).mono ?_
  rintro ex w1 ⟨rfl, v1, h1, h2⟩
  have hw := ((Wrote.refl b vo w).alloc _).trans h2
  clear h2
  go_wp2_with fail
  go_end0
  exact ⟨rfl, v1, h1, hw⟩
theorem pr_new (m a : Bool) (w w' : World) (h : w' = w.alloc (.cells (pc m a (.slice none 0 0)) 64)) : Pr w.heap.size w.heap.size m a none [] w' := by
  subst h
  exact ⟨by simp, (fun hh => by obtain ⟨x, hx, _⟩ := hh; cases hx), 0, heap_alloc_at w _ _ rfl, ⟨rfl, .inl ⟨rfl, rfl⟩⟩⟩
/-- A printer's text as a string. -/
theorem text_conv {B b : Nat} {m a : Bool} {vo : Option Addr} {out : List UInt8} {w : World} (h : Pr B b m a vo out w) (hp : 0 < out.length) : ∃ g vc, w.cell? ⟨b, 15, none⟩ = some (.slice (some ⟨g, 0, none⟩) out.length vc) ∧ (convert 28 9 (.slice (some ⟨g, 0, none⟩) out.length vc)).run Tryf.prog w = .ok (.string ⟨out.toArray⟩) w := by
  obtain ⟨vc, hrow, hown⟩ := h.row
  obtain ⟨g, rfl, hcells, hvc, hvm⟩ := own_some hown hp
  have hc15 := cell_of_heap hrow 15
  simp only [pc, List.getElem?_toArray, List.getElem?_cons_succ, List.getElem?_cons_zero] at hc15
  refine ⟨g, vc, hc15, run_convert_bytes_back w 28 9 5 ⟨g, 0, none⟩ vc out Tryf.underlying28 Tryf.underlying5 Tryf.underlying9 fun j hj => ?_⟩
  rw [add_cell, Nat.zero_add, hcells j hj]
  simp [byteAt, List.getD, hj]
theorem col_pos (el : Bool) : 0 < (colons el).length := by cases el <;> decide
theorem tabs_kept {w w' : World} (h : Lib.Utf8Tabs 1 2 w) (hc : Chg Nowhere w w') : Lib.Utf8Tabs 1 2 w' := Utf8Tabs_below h (below_of_chg hc)
theorem bt_list (l : List UInt8) (i : Nat) (h : i < l.length) : bt ⟨l.toArray⟩ i = (l[i]'h).toNat := by
  unfold bt
  have hs : i < (⟨l.toArray⟩ : ByteArray).size := by show i < l.toArray.size; simpa using h
  rw [dif_pos hs]
  rfl
set_option maxHeartbeats 8000000 in
theorem law3 (F : Interp) (nm : ByteArray) (el mw m a : Bool) (w : World) (hT : Lib.Utf8Tabs 1 2 w) (hF : F.answers w.tape) (hOk : HexOk F) :
    Calls Tryf.prog 3 #[.string nm, .bool el, .bool mw, .bool m, .bool a] w (TrueOut w) := by
  have HT := Lib.hid hT
  have HF := Lib.hid hF
  have HOk := Lib.hid hOk
  clear hT hF hOk
  by_cases hbig : 524288 < nm.size
  · have e1 : ((524288 : Int) < (nm.size : Int)) = True := eq_true (by omega)
    go_enter Tryf.func3, Tryf.ntmps3
    go_wp2_with fail
    refine (zb5 nm _ _ _ _ w).mono ?_
    rintro ex w1 ⟨r, rfl, rfl⟩
    cases r <;> (go_wp2_with fail; go_ret; exact ⟨rfl, Chg.refl _ _⟩)
  have hsz : nm.size ≤ 524288 := by omega
  clear hbig
  have e1 : ((524288 : Int) < (nm.size : Int)) = False := eq_false (by omega)
  go_enter Tryf.func3, Tryf.ntmps3
  go_wp2_with fail
  refine (zb5 nm _ _ _ _ w).mono ?_
  rintro ex w1 ⟨r, rfl, rfl⟩
  cases r
  · go_wp2_with fail
    go_ret
    exact ⟨rfl, Chg.refl _ _⟩
  go_wp2_with fail
  refine (new6 m a none 0 0 w).mono ?_
  rintro ex w1 ⟨rfl, hw1⟩
  have hp1 := pr_new m a w w1 hw1
  have hc1 : Chg Nowhere w w1 := by rw [hw1]; exact (Chg.refl _ _).alloc _
  have hs1 : w.heap.size < w1.heap.size := hp1.lt_size
  clear hw1
  go_wp2_with fail
  refine (ws8 w1).mono ?_
  rintro ex w2 ⟨rfl, rfl⟩
  go_wp2_with fail
  have hk1 : ∀ vo' w', Wrote w.heap.size none vo' w1 w' → Chg Nowhere w w' := fun vo' w' hw => hc1.trans hw.chg (fun k hk hs => by
    rcases hs with rfl | ⟨x, hx, _⟩
    · omega
    · cases hx)
  refine (any7 F w.heap.size w.heap.size m a el [] nm none w1 hp1 (fun vo' w' hw => tabs_kept HT.out (hk1 vo' w' hw)) (by rw [hc1.tape]; exact HF.out) HOk.out (by simp) (by omega)).mono ?_
  rintro ex w2 ⟨rfl, vo1, hp2, hw2⟩
  have hc2 := hk1 _ _ hw2
  have hs2 : w.heap.size < w2.heap.size := hp2.lt_size
  have Hc2 := Lib.hid hc2
  have Hp2 := Lib.hid hp2
  clear hp1 hc1 hk1 hw2 hp2 hc2
  go_wp2_with fail
  refine (new6 m a none 0 0 w2).mono ?_
  rintro ex w3 ⟨rfl, hw3⟩
  have hp3 := pr_new m a w2 w3 hw3
  have hc3 : Chg Nowhere w2 w3 := by rw [hw3]; exact (Chg.refl _ _).alloc _
  have hs3 : w2.heap.size < w3.heap.size := hp3.lt_size
  clear hw3
  go_wp2_with fail
  refine (ws10 mw w3).mono ?_
  rintro ex w4 ⟨⟨wsv, rfl⟩, rfl⟩
  go_wp2_with fail
  have hk3 : ∀ vo' w', Wrote w2.heap.size none vo' w3 w' → Chg Nowhere w2 w' := fun vo' w' hw => hc3.trans hw.chg (fun k hk hs => by
    rcases hs with rfl | ⟨x, hx, _⟩
    · omega
    · cases hx)
  refine (any9 F w2.heap.size w2.heap.size m a el [] nm wsv none w3 hp3 (fun vo' w' hw => tabs_kept HT.out (Hc2.out.trans (hk3 vo' w' hw) (fun _ _ h => h))) (by rw [hc3.tape, Hc2.out.tape]; exact HF.out) HOk.out (by simp) (by omega)).mono ?_
  rintro ex w5 ⟨rfl, vo2, hp4, hw4⟩
  have hc4 := hk3 _ _ hw4
  have hp5 := Hp2.out.wrote hc4
  have Hc5 := Lib.hid (Hc2.out.trans hc4 (fun _ _ h => h))
  have hlen := idT_len HOk.out a nm
  have hhead := idT_head HOk.out a nm
  obtain ⟨g1, vc1, c1, k1⟩ := text_conv hp5 (by have := col_pos el; simp only [List.length_append]; omega)
  obtain ⟨g2, vc2, c2, k2⟩ := text_conv hp4 (by simp only [List.length_append, List.length_cons]; omega)
  have hs5 := hp5.lt_size
  have hs6 := hp4.lt_size
  have hsum : ∀ X : List UInt8, (⟨([] ++ colons el ++ X).toArray⟩ : ByteArray) ++ ⟨#[40, 41]⟩ = ⟨([] ++ colons el ++ X ++ [40] ++ [41]).toArray⟩ := fun X => by
    apply ByteArray.ext
    simp only [ByteArray.data_append]
    simp
  have hsum1 := hsum (idT F a nm)
  clear hsum
  generalize hl1 : ([] ++ colons el ++ idT F a nm) = l1 at hsum1 c1 k1
  generalize hl2 : (l1 ++ [40] ++ [41]) = l2 at hsum1
  rw [hl1, hl2] at c2 k2
  have hn1 : (l1.length : Int) ≤ 60000000 := by rw [← hl1]; cases el <;> simp [colons] <;> omega
  have hn2 : l2.length = l1.length + 2 := by rw [← hl2]; simp
  rw [hn2] at c2 k2
  have hcn : ∀ i, i < (colons el).length → bt ⟨l2.toArray⟩ i = 58 := fun i hi => by
    have h2 : i < l2.length := by rw [hn2, ← hl1]; simp; omega
    rw [bt_list l2 i h2]
    subst hl2 hl1
    cases el
    · simp [colons] at hi; subst hi; rfl
    · simp [colons] at hi
      have : i = 0 ∨ i = 1 := by omega
      rcases this with rfl | rfl <;> rfl
  have hlast : bt ⟨l2.toArray⟩ (colons el).length ≠ 58 := by
    have h2 : (colons el).length < l2.length := by rw [hn2, ← hl1]; simp; omega
    rw [bt_list l2 _ h2]
    have h3 : ∃ x r, idT F a nm ++ [40] ++ [41] = x :: r ∧ x ≠ 58 := by
      cases hX : idT F a nm with
      | nil => exact ⟨40, [41], rfl, by decide⟩
      | cons x r => exact ⟨x, r ++ [40] ++ [41], rfl, hhead x r hX⟩
    obtain ⟨x, r, h3, h4⟩ := h3
    have h5 : l2 = colons el ++ (x :: r) := by rw [← h3, ← hl2, ← hl1]; simp
    have h6 : l2[(colons el).length]? = some x := by rw [h5]; simp
    rw [List.getElem?_eq_getElem h2] at h6
    injection h6 with h6
    rw [h6]
    intro he
    exact h4 (UInt8.toNat_inj.1 he)
  have hsz2 : (⟨l2.toArray⟩ : ByteArray).size = l1.length + 2 := by rw [← hn2]; show l2.toArray.size = _; simp
  have hcl : (colons el).length ≤ l1.length := by rw [← hl1]; simp
  generalize hs2' : (⟨l2.toArray⟩ : ByteArray) = s2 at hsum1 k2 hcn hlast hsz2
  have Hcn := Lib.hid hcn
  have Hlast := Lib.hid hlast
  clear hl1 hl2 hs2' hcn hlast hhead hlen hp3 hc3 hk3 hp4 hw4 hc4 hp5
  go_wp2_with fail
  refine (css11 w.heap.size _ w5 c1).mono ?_
  rintro ex w6 ⟨rfl, rfl⟩
  clear c1
  go_wp2_with fail
  refine (css11 w2.heap.size _ w5 c2).mono ?_
  rintro ex w6 ⟨rfl, rfl⟩
  clear c2
  cases el
  · have q1 : bt s2 0 = 58 := Hcn.out 0 (by decide)
    have q2 : bt s2 1 ≠ 58 := Hlast.out
    have hcl1 : 1 ≤ l1.length := hcl
    have r1 : ¬ ((s2.size : Int) < 1 + 2) := by omega
    have b1 := bt_eq s2 1 (by omega)
    have r3 : ((bt s2 1 : Int) != 58) = true := by rw [bne_iff_ne]; omega
    have r2 : (1 : Int) < (s2.size : Int) := by omega
    generalize bt s2 1 = x1 at b1 r3 q2
    clear q2
    go_wp2_with fail
    go_loop [16] (fun i => ∃ k : Nat, k ≤ 1 ∧ i = .int .i64 k) (fun i => 1 - (intOf i).toNat)
    case atStart => exact ⟨0, by omega, rfl⟩
    case round =>
      obtain ⟨k, hk, rfl⟩ := hrel
      by_cases hlt : k < 1
      · obtain rfl : k = 0 := by omega
        have b0 := bt_eq s2 0 (by omega)
        rw [q1] at b0
        have r4 : (0 : Int) < (s2.size : Int) := by omega
        go_wp2_with fail
        go_round
        case rel => exact ⟨1, by omega, by go_num⟩
        case measure => simp [intOf]
      · obtain rfl : k = 1 := by omega
        go_wp2_with fail
        go_ret
        exact ⟨rfl, Hc5.out⟩
  · have q0 : bt s2 0 = 58 := Hcn.out 0 (by decide)
    have q1 : bt s2 1 = 58 := Hcn.out 1 (by decide)
    have q2 : bt s2 2 ≠ 58 := Hlast.out
    have hcl1 : 2 ≤ l1.length := hcl
    have r1 : ¬ ((s2.size : Int) < 2 + 2) := by omega
    have b2 := bt_eq s2 2 (by omega)
    have r3 : ((bt s2 2 : Int) != 58) = true := by rw [bne_iff_ne]; omega
    have r2 : (2 : Int) < (s2.size : Int) := by omega
    generalize bt s2 2 = x2 at b2 r3 q2
    clear q2
    go_wp2_with fail
    go_loop [16] (fun i => ∃ k : Nat, k ≤ 2 ∧ i = .int .i64 k) (fun i => 2 - (intOf i).toNat)
    case atStart => exact ⟨0, by omega, rfl⟩
    case round =>
      obtain ⟨k, hk, rfl⟩ := hrel
      by_cases hlt : k < 2
      · have b0 := bt_eq s2 k (by omega)
        have q : bt s2 k = 58 := by
          have : k = 0 ∨ k = 1 := by omega
          rcases this with rfl | rfl <;> assumption
        rw [q] at b0
        have r4 : (k : Int) < (s2.size : Int) := by omega
        have r5 : (0 : Int) ≤ (k : Int) := by omega
        have r6 : (k : Int) < 2 := by omega
        go_wp2_with fail
        go_round
        case rel => exact ⟨k + 1, by omega, by go_num⟩
        case measure => simp [intOf]; omega
      · obtain rfl : k = 2 := by omega
        go_wp2_with fail
        go_ret
        exact ⟨rfl, Hc5.out⟩
end Go.Proofs.YtgfiigonjleeeaaFmt
