/-
  Proved: the law's walk: a number is printed no longer than FormatFloat writes it. No statement of the seat stands here.
-/
import Derived.Test.YtmlgfhdjdmfdbaaDoorNt
import Derived.Test.YtmlgfhdjdmfdbaaDoorNu
import Derived.Test.YtmlgfhdjdmfdbaaDoorNs
import Derived.Test.YtmlgfhdjdmfdbaaDoorNv
namespace Go.Proofs.YtmlgfhdjdmfdbaaDoor
open Go.RowKit Go.ChangeAt
set_option linter.unusedSimpArgs false
set_option linter.unusedVariables false
set_option maxRecDepth 1000000
def Tabs (w : World) : Prop := TabP w ∧ Lib.TabIs Tryd.prog w "internal/strconv.uint64pow10" .u64 Lib.pow10Tab ∧ Tab4 w
theorem Tabs.at' {W w : World} (h : Tabs W) (hc : Chg (fun k => W.heap.size ≤ k) W w) : Tabs w := by
  obtain ⟨hT, hU, h4⟩ := h
  have hl : 3 < W.heap.size := World.block_lt_of_cell? W _ (hT 0 (by omega)).1
  have hl4 : 6 < W.heap.size := World.block_lt_of_cell? W _ h4
  refine ⟨fun i hi => ⟨hc.cell (hT i hi).1 (fun h => by simp only at h; omega), hc.cell (hT i hi).2 (fun h => by simp only at h; omega)⟩, ?_, hc.cell h4 (fun h => by simp only at h; omega)⟩
  exact var?_below (hc.below (Nat.le_refl _) (fun _ _ h => h)) named10 (by omega) hU
/-- How a number is printed. -/
structure Prt (b n0 n1 : Nat) (T : List UInt8) : Prop where
  le0 : n0 ≤ T.length
  le1 : n1 ≤ n0
  ff : ∀ w, Tabs w → Calls Tryd.prog 7 #[.float .f64 b, .int .u8 103, .int .i64 (-1), .int .i64 64] w (StrOut ⟨⟨T⟩⟩ w)
  pr : ∀ (p : Nat) (mn : Bool) (w : World), Pn p mn w → (∀ w', Chg (fun k => k = p) w w' → Tabs w') → Calls Tryd.prog 8 #[.pointer (some ⟨p, 0, none⟩), .float .f64 b] w (TailOut p mn (if mn then n1 else n0) w)
theorem quick_zero (b : Nat) (h : b = 0 ∨ b = 9223372036854775808) : Quick b 0 := by
  rcases h with rfl | rfl
  · exact ⟨by omega, by kernel_rfl, by kernel_rfl, by kernel_rfl⟩
  · exact ⟨by omega, by kernel_rfl, by kernel_rfl, by kernel_rfl⟩
theorem prt_of (b : Nat) (hb : b < 18446744073709551616) (hE : fE b ≠ 2047) (hc : (FloatKind.f64.format.order b 0 == some .lt) = false) : ∃ n0 n1 T, Prt b n0 n1 T := by
  by_cases hz : fMant b = 0
  · have hzb := zero_bits' b hb hE hz
    have hq := quick_zero b hzb
    refine ⟨dl 0, dl 0, signB (fNeg b) ++ [48], by simp [dl], Nat.le_refl _, fun w hT => ffz b hb ?_ ?_ w hT.1, fun p mn w hP h4 => ?_⟩
    · rcases hzb with rfl | rfl <;> rfl
    · rcases hzb with rfl | rfl <;> rfl
    · have h := quick8 p b 0 mn hq.lt w hP hq.o1 hq.cv hq.o2
      cases mn <;> exact h
  · obtain ⟨hn, hcs⟩ := cases96 b hb hE hz hc
    have hff : ∀ w, Tabs w → Calls Tryd.prog 7 #[.float .f64 b, .int .u8 103, .int .i64 (-1), .int .i64 64] w (StrOut ⟨⟨ffText b⟩⟩ w) := fun w hT => ff15 b hb (.inr hz) w hT.1 hT.2.1
    rcases hcs with ⟨N, hq, hd⟩ | hA
    · refine ⟨dl N, dl N, ffText b, hd, Nat.le_refl _, hff, fun p mn w hP h4 => ?_⟩
      have h := quick8 p b N mn hq.lt w hP hq.o1 hq.cv hq.o2
      cases mn <;> exact h
    · have t0 := txt_of b false hb hE hz hn
      have t1 := txt_of b true hb hE hz hn
      have hle := len2_le (dsOf (fR b).1) (fDp b)
      refine ⟨len2 (dsOf (fR b).1) (fDp b) false, len2 (dsOf (fR b).1) (fDp b) true, ffText b, t0.nl, hle.2, hff, fun p mn w hP h4 => ?_⟩
      cases mn
      · exact big8 p b false (ffText b) _ t0.tl t0.rl t0.simp _ (by have := t0.nl; have := t0.tl; omega) t0.form w hP (fun w' h => (h4 w' h).2.2) (hff w (h4 w (Chg.refl _ _))) hA
      · exact big8 p b true (ffText b) _ t1.tl t1.rl t1.simp _ (by have := t1.nl; have := t1.tl; omega) t1.form w hP (fun w' h => (h4 w' h).2.2) (hff w (h4 w (Chg.refl _ _))) hA
theorem js6 (b n : Nat) (w : World) (h : Pj b n w) : ∃ vo vc, w.cell? ⟨b, 9, none⟩ = some (.slice vo n vc) ∧ Calls Tryd.prog 6 #[.pointer (some ⟨b, 0, none⟩)] w (Same' (.slice vo n vc) w) := by
  obtain ⟨cs, vo, vc, hb, hsz, h9⟩ := h
  have c9 := cell_of_heap hb 9
  rw [h9] at c9
  have hl := heap_lt hb
  refine ⟨vo, vc, c9, ?_⟩
  clear hb h9
  go_enter Tryd.func6, Tryd.ntmps6
  go_wp2_with fail
  go_ret
  exact ⟨rfl, rfl⟩
theorem pr5 (p b : Nat) (w : World) (Q : Ending → World → Prop) (h : Calls Tryd.prog 8 #[.pointer (some ⟨p, 0, none⟩), .float .f64 b] w Q) (hQ : ∀ e w', Q e w' → e = .returned (.tuple #[])) :
    Calls Tryd.prog 5 #[.pointer (some ⟨p, 0, none⟩), .float .f64 b] w Q := by
  go_enter Tryd.func5, Tryd.ntmps5
  go_wp2_with fail
  refine h.mono ?_
  intro e w' hq
  obtain rfl := hQ e w' hq
  go_wp2_with fail
  go_end0
  exact hq
def LawOut (w : World) (e : Ending) (w' : World) : Prop := e = .returned (.bool true) ∧ Chg Nowhere w w'
set_option maxHeartbeats 8000000 in
theorem lawIn (b n0 n1 : Nat) (T : List UInt8) (hp : Prt b n0 n1 T) (W : World) (hT : Tabs W) (g1 : (FloatKind.f64.format.order b 0 == some .gt || FloatKind.f64.format.order b 0 == some .eq) = true) (g2 : (FloatKind.f64.format.order b 9218868437227405311 == some .gt) = false) :
    Calls Tryd.prog 3 #[.float .f64 b] W (LawOut W) := by
  have HP := Lib.hid hp
  have HT := Lib.hid hT
  clear hp hT
  go_enter Tryd.func3, Tryd.ntmps3
  go_wp2_with fail
  refine (new4 false W).mono ?_
  rintro e1 w1 ⟨rfl, hp1, hc1⟩
  have C1 : Chg (fun k => W.heap.size ≤ k) W w1 := hc1.mono (fun _ _ h => h.elim)
  have l1 := hp1.lt
  have hpr1 := HP.out.pr _ false w1 hp1 (fun w' h => HT.out.at' (C1.trans h (fun k hk hs => by omega)))
  have HC1 := Lib.hid C1
  clear hp1 hc1 C1
  go_wp2_with fail
  refine (pr5 _ b w1 _ hpr1 (fun e w' h => h.1)).mono ?_
  rintro e2 w2 ⟨rfl, m0, ⟨hm0, hm9⟩, hj0, hc2⟩
  obtain rfl := hm0 rfl
  clear hm9
  have C2 : Chg (fun k => W.heap.size ≤ k) W w2 := HC1.out.trans hc2 (fun k hk hs => by omega)
  obtain ⟨vo0, vc0, c0, hjs0⟩ := js6 _ _ w2 hj0
  have HC2 := Lib.hid C2
  clear hj0 hc2 C2 hpr1 c0 hm0
  go_wp2_with fail
  refine hjs0.mono ?_
  rintro e3 w3 h3
  obtain ⟨he3, hw3⟩ := h3
  subst he3
  subst hw3
  clear hjs0
  go_wp2_with fail
  refine (new4 true _).mono ?_
  rintro e4 w4 ⟨rfl, hp4, hc4⟩
  have s3 := HC2.out.size
  have C4 : Chg (fun k => W.heap.size ≤ k) W w4 := HC2.out.trans hc4 (fun _ _ h => h.elim)
  have l4 := hp4.lt
  have hpr4 := HP.out.pr _ true w4 hp4 (fun w' h => HT.out.at' (C4.trans h (fun k hk hs => by omega)))
  have HC4 := Lib.hid C4
  clear hp4 hc4 C4
  go_wp2_with fail
  refine (pr5 _ b w4 _ hpr4 (fun e w' h => h.1)).mono ?_
  rintro e5 w5 ⟨rfl, m1, ⟨_, hm1⟩, hj1, hc5⟩
  have C5 : Chg (fun k => W.heap.size ≤ k) W w5 := HC4.out.trans hc5 (fun k hk hs => by omega)
  obtain ⟨vo1, vc1, c1, hjs1⟩ := js6 _ _ w5 hj1
  have HC5 := Lib.hid C5
  clear hj1 hc5 C5 hpr4 c1
  go_wp2_with fail
  refine hjs1.mono ?_
  rintro e6 w6 ⟨rfl, rfl⟩
  clear hjs1
  go_wp2_with fail
  refine (HP.out.ff _ (HT.out.at' HC5.out)).mono ?_
  rintro e7 w7 ⟨rfl, hc7⟩
  have C7 : Chg (fun k => W.heap.size ≤ k) W w7 := HC5.out.trans hc7 (fun _ _ h => h.elim)
  have HC7 := Lib.hid C7
  have q0 := HP.out.le0
  have q1 := HP.out.le1
  have hsz : (⟨⟨T⟩⟩ : ByteArray).size = T.length := rfl
  have x0 : ((m0 : Nat) : Int) ≤ ((⟨⟨T⟩⟩ : ByteArray).size : Int) := by rw [hsz]; omega
  have x1 : (m1 : Int) ≤ ((m0 : Nat) : Int) := by simp at hm1; omega
  clear hm1 hc7 C7
  go_wp2_with fail
  go_ret
  exact ⟨rfl, HC7.out.mono (fun k hk hs => by omega)⟩
theorem not_odd (b : Nat) (hb : b < 18446744073709551616) (g1 : (FloatKind.f64.format.order b 0 == some .gt || FloatKind.f64.format.order b 0 == some .eq) = true) (g2 : (FloatKind.f64.format.order b 9218868437227405311 == some .gt) = false) : fE b ≠ 2047 := by
  intro h
  have hrd : Ieee.double.read b = .infinity (b / 9223372036854775808 % 2 == 1) ∨ ∃ f, Ieee.double.read b = .nan (b / 9223372036854775808 % 2 == 1) f := by
    unfold Ieee.Format.read
    rw [dSign, dBin, dInf, dLeast]
    unfold fE at h
    dsimp only
    rw [if_neg (by omega), if_neg (by omega)]
    by_cases c : b % 9223372036854775808 = 9218868437227405312
    · rw [if_pos c]; exact .inl rfl
    · rw [if_neg c]; exact .inr ⟨_, rfl⟩
  have h1 : FloatKind.f64.format.order b 9218868437227405311 = (Ieee.double.read b).order (.number false 9007199254740991 971) := by rw [← bitsMax]; rfl
  have h2 : FloatKind.f64.format.order b 0 = (Ieee.double.read b).order (.number false 0 (-1074)) := by rw [← read_zero0]; rfl
  rw [h1] at g2
  rw [h2] at g1
  rcases hrd with hr | ⟨f, hr⟩
  · rw [hr] at g1 g2
    cases hs : (b / 9223372036854775808 % 2 == 1)
    · rw [hs] at g2; cases g2
    · rw [hs] at g1; cases g1
  · rw [hr] at g1
    cases g1
theorem lawAll (b : Nat) (hb : b < 18446744073709551616) (W : World) (hT : Tabs W) : Calls Tryd.prog 3 #[.float .f64 b] W (LawOut W) := by
  cases g1 : (FloatKind.f64.format.order b 0 == some .gt || FloatKind.f64.format.order b 0 == some .eq)
  · clear hT
    go_enter Tryd.func3, Tryd.ntmps3
    go_wp2_with fail
    go_ret
    exact ⟨rfl, Chg.refl _ _⟩
  · cases g2 : (FloatKind.f64.format.order b 9218868437227405311 == some .gt)
    · have hE := not_odd b hb g1 g2
      have hlt : (FloatKind.f64.format.order b 0 == some .lt) = false := by
        cases ho : FloatKind.f64.format.order b 0 with
        | none => rfl
        | some o => rw [ho] at g1; cases o <;> first | rfl | cases g1
      obtain ⟨n0, n1, T, hp⟩ := prt_of b hb hE hlt
      exact lawIn b n0 n1 T hp W hT g1 g2
    · clear hT
      go_enter Tryd.func3, Tryd.ntmps3
      go_wp2_with fail
      go_ret
      exact ⟨rfl, Chg.refl _ _⟩
end Go.Proofs.YtmlgfhdjdmfdbaaDoor
