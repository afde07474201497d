/-
  Proved: contract of shortFloat of Go's float formatting, way by way. No condition; no statement of the seat stands here.
-/
import Derived.Test.YtmlgfhdjdmfdbaaDoorFtB
import Derived.Deep.CutRange
import Derived.Deep.DeepCutAuto
namespace Go.Proofs.YtmlgfhdjdmfdbaaDoor
open Go.RowKit Go.ChangeAt
set_option linter.unusedSimpArgs false
set_option linter.unusedVariables false
set_option maxRecDepth 100000
theorem heap_at (w : World) (o : Obj) (j : Nat) (h : j = w.heap.size) : (w.alloc o).heap[j]? = some o := by subst h; simp only [World.alloc, Array.getElem?_push, if_pos]
theorem heap_keep {w : World} {j : Nat} {o : Obj} (h : w.heap[j]? = some o) (o' : Obj) : (w.alloc o').heap[j]? = some o := by
  have hl := (Array.getElem?_eq_some_iff.1 h).1
  simp only [World.alloc, Array.getElem?_push]
  rw [if_neg (by omega)]
  exact h
def PairOut (d : Nat) (k : Int) (w : World) (e : Ending) (w' : World) : Prop := e = .returned (.tuple #[.int .u64 d, .int .i64 k]) ∧ Chg Nowhere w w'
theorem usc_lt (x hi lo s : Nat) (hs : 1 ≤ s) (hx : x < 18446744073709551616) (hhi : hi < 18446744073709551616) : usc x hi lo s < 9223372036854775808 := by
  have hh : x * hi / 18446744073709551616 < 18446744073709551616 := Nat.div_lt_of_lt_mul (Nat.mul_lt_mul'' hx hhi)
  have key : ∀ h, h < 18446744073709551616 → h / 2 ^ s < 2 ^ 63 := fun h hb => by
    refine Nat.div_lt_of_lt_mul (Nat.lt_of_lt_of_le hb ?_)
    have : 2 ^ 1 ≤ 2 ^ s := Nat.pow_le_pow_right (by omega) hs
    omega
  have h1 : usc x hi lo s < 2 ^ 63 := by
    unfold usc
    split
    · refine Nat.or_lt_two_pow (key _ ?_) ?_
      · split <;> omega
      · split <;> omega
    · exact Nat.or_lt_two_pow (key _ hh) (by omega)
  omega
set_option maxHeartbeats 4000000 in
theorem short_sub (i hi lo s m mn mx odd v1 v2 dmin dmax d0 d : Nat) (e p t k : Int) (w : World) (z z1 : Nat) (h0 : m = 9223372036854775808 → e ≤ -1085) (hC : e < -1085) (he : -1200 ≤ e) (y0 : 11 + (-1085 - e) = (z : Int)) (y1 : (z : Int) - 1 = (z1 : Int)) (y2 : e + (z : Int) = t) (y3 : z1 ≤ 62) (y4 : z ≤ 63) (yp : wrap64 (-(l10 t)) = p) (y5 : IntKind.u64.wrap ((m : Int) - IntKind.u64.wrap (2 ^ z1)) = (mn : Int)) (y6 : IntKind.u64.wrap ((m : Int) + IntKind.u64.wrap (2 ^ z1)) = (mx : Int)) (y7 : bits .and .i64 (wrap64 ((m : Int) / 2 ^ z)) 1 = (odd : Int)) (ht : -1100 ≤ t ∧ t ≤ 1000)
    (T : Hid (p + 348 = (i : Int) ∧ i < 696 ∧ w.cell? ⟨3, i * 2, none⟩ = some (.int .u64 hi) ∧ w.cell? ⟨3, i * 2 + 1, none⟩ = some (.int .u64 lo) ∧ -(e + l2 p + 3) = (s : Int) ∧ (-4000 ≤ e ∧ e ≤ 4000 ∧ -4000 ≤ l2 p ∧ l2 p ≤ 4000 ∧ -4000 ≤ p ∧ p ≤ 4000)))
    (U : Hid (s < 64 ∧ mn < 18446744073709551616 ∧ hi < 18446744073709551616 ∧ lo < 18446744073709551616 ∧ True ∧ odd ≤ 1 ∧ True))
    (V : Hid (18446744073709551616 ≤ mn * hi ∧ mx < 18446744073709551616 ∧ 18446744073709551616 ≤ mx * hi ∧ m < 18446744073709551616 ∧ 18446744073709551616 ≤ m * hi ∧ 1 ≤ s))
    (W : Hid (v1 < 9223372036854775808 ∧ v2 < 9223372036854775808))
    (D : Hid (v1 = usc mn hi lo s + odd ∧ dmin = (v1 + 3) / 4 ∧ d0 = dmax / 10 ∧ v2 + odd = usc mx hi lo s ∧ dmax = v2 / 4 ∧ dmax < 4611686018427387904))
    (E : Hid ((dmin ≤ d0 * 10 ∧ d = d0 ∧ k = -(p - 1)) ∨ (¬ dmin ≤ d0 * 10 ∧ dmin < dmax ∧ d = (usc m hi lo s + 1 + usc m hi lo s / 4 % 2) / 4 ∧ k = -p) ∨ (¬ dmin ≤ d0 * 10 ∧ ¬ dmin < dmax ∧ d = dmin ∧ k = -p))) :
    Calls Tryd.prog 36 #[.int .u64 m, .int .i64 e] w (PairOut d k w) := by
  have hp1 : -4000 ≤ p ∧ p ≤ 4000 := by have := T.out.2.2.2.2.2; omega
  have x2 : ¬ (-1085 : Int) ≤ e := by omega
  have H0 := Lib.hid h0
  clear h0
  go_enter Tryd.func36, Tryd.ntmps36
  go_upto_region 12 with fail
  go_cut [28] (fun c wx => c = .bool false ∧ w = wx)
  case first =>
    clear y5 y6 y7
    by_cases hm : m = 9223372036854775808
    · have he1 : ¬ (-1085 : Int) < e := by have := H0.out hm; omega
      subst hm
      go_wp2_with fail
      go_meet
      case rel => exact ⟨rfl, rfl⟩
    · have x1 : ((m : Int) == 9223372036854775808) = false := by simp; omega
      clear hm
      go_wp2_with fail
      go_meet
      case rel => exact ⟨rfl, rfl⟩
  case rest =>
  obtain ⟨rfl, rfl⟩ := hcut
  go_wp2_with fail
  refine (l10_28 t (by omega) (by omega) w).mono ?_
  rintro e1 w1 ⟨rfl, rfl⟩
  go_wp2_with fail
  refine (l2_39 p (by omega) (by omega) _).mono ?_
  rintro e1 w1 ⟨rfl, rfl⟩
  go_wp2_with fail
  have hC1 : Chg Nowhere w (w.alloc (.cells #[.int .u64 0, .int .u64 0, .int .i64 0] 117)) := (Chg.refl _ w).alloc _
  refine (pre38 w.heap.size i hi lo s p e (l2 p) (.int .u64 0) (.int .u64 0) (.int .i64 0) _ T.out.1 T.out.2.1 (hC1.cell T.out.2.2.1 (fun h => h)) (hC1.cell T.out.2.2.2.1 (fun h => h)) T.out.2.2.2.2.1 (by have := T.out.2.2.2.2.2; omega) (by have := T.out.2.2.2.2.2; omega) (by have := T.out.2.2.2.2.2; omega) (heap_at w _ _ rfl) (by have h' : 3 < w.heap.size := World.block_lt_of_cell? w _ T.out.2.2.1; omega)).mono ?_
  rintro e2 w2 ⟨rfl, hb2, hC2⟩
  have hC3 : Chg Nowhere w w2 := hC1.trans hC2 (fun k hk h => by have h' : k = w.heap.size := h; omega)
  have HC := Lib.hid hC3
  have c0 := cell_of_heap hb2 0
  have c1 := cell_of_heap hb2 1
  have c2 := cell_of_heap hb2 2
  simp only [List.getElem?_toArray, List.getElem?_cons_succ, List.getElem?_cons_zero] at c0 c1 c2
  generalize w.heap.size = g at c0 c1 c2 ⊢
  have CC := Lib.hid (And.intro c0 (And.intro c1 c2))
  clear hC1 hC2 hC3 hb2 c0 c1 c2
  have zo : wrap64 (-(odd : Int)) = -(odd : Int) := by have := U.out.2.2.2.2.2.1; unfold wrap64; omega
  have zq : (dmax : Int) / 10 = (d0 : Int) := by have := D.out.2.2.1; omega
  have zw : IntKind.u64.wrap (d0 : Int) = (d0 : Int) := by have := D.out; rw [IntKind.wrap_u64]; omega
  obtain ⟨d10, hd10⟩ : ∃ x, x = d0 * 10 := ⟨_, rfl⟩
  have zm : IntKind.u64.wrap ((d0 : Int) * 10) = (d10 : Int) := by have := D.out; rw [IntKind.wrap_u64]; omega
  have H10 := Lib.hid hd10
  clear hd10
  go_wp2_with fail
  refine (usc40 g mn hi lo s w2 CC.out.1 CC.out.2.1 CC.out.2.2 U.out.1 U.out.2.1 U.out.2.2.1 U.out.2.2.2.1 V.out.1).mono ?_
  rintro e3 w3 ⟨rfl, q1, rfl⟩
  go_wp2_with fail
  refine (nudge41 (usc mn hi lo s) odd v1 (by have := U.out.2.2.2.2.2.1; omega) (by have := D.out.1; omega) (usc_lt _ _ _ _ V.out.2.2.2.2.2 U.out.2.1 U.out.2.2.1) _).mono ?_
  rintro e4 w4 ⟨rfl, rfl⟩
  go_wp2_with fail
  refine (ceil42 v1 W.out.1 _).mono ?_
  rintro e5 w5 ⟨rfl, rfl⟩
  rw [← D.out.2.1]
  go_wp2_with fail
  refine (usc40 g mx hi lo s (w2.drewN q1) CC.out.1 CC.out.2.1 CC.out.2.2 U.out.1 V.out.2.1 U.out.2.2.1 U.out.2.2.2.1 V.out.2.2.1).mono ?_
  rintro e6 w6 ⟨rfl, q2, rfl⟩
  go_wp2_with fail
  refine (nudge41 (usc mx hi lo s) (-(odd : Int)) v2 (by have := U.out.2.2.2.2.2.1; omega) (by have := D.out.2.2.2.1; omega) (usc_lt _ _ _ _ V.out.2.2.2.2.2 V.out.2.1 U.out.2.2.1) _).mono ?_
  rintro e7 w7 ⟨rfl, rfl⟩
  go_wp2_with fail
  refine (floor43 v2 W.out.2 _).mono ?_
  rintro e8 w8 ⟨rfl, rfl⟩
  rw [← D.out.2.2.2.2.1]
  have h10 := H10.out
  rcases E.out with ⟨t1, hd⟩ | ⟨t1, t2, hd⟩ | ⟨t1, t2, hd⟩
  · have u1 : (dmin : Int) ≤ (d10 : Int) := by omega
    have HDK := Lib.hid hd
    clear hd h10 t1
    go_wp2_with fail
    go_ret2
    exact ⟨by rw [HDK.out.1, HDK.out.2]; rfl, HC.out.drewN _⟩
  · have u1 : ¬ (dmin : Int) ≤ (d10 : Int) := by omega
    have HDK := Lib.hid hd
    clear hd
    have u2 : (dmin : Int) < (dmax : Int) := by omega
    clear h10 t1 t2
    go_wp2_with fail
    refine (usc40 g m hi lo s (w2.drewN (q1 + q2)) CC.out.1 CC.out.2.1 CC.out.2.2 U.out.1 V.out.2.2.2.1 U.out.2.2.1 U.out.2.2.2.1 V.out.2.2.2.2.1).mono ?_
    rintro e9 w9 ⟨rfl, q3, rfl⟩
    go_wp2_with fail
    refine (round44 (usc m hi lo s) (usc_lt _ _ _ _ V.out.2.2.2.2.2 V.out.2.2.2.1 U.out.2.2.1) _).mono ?_
    rintro e10 w10 ⟨rfl, rfl⟩
    go_wp2_with fail
    go_ret2
    exact ⟨by rw [HDK.out.1, HDK.out.2]; rfl, HC.out.drewN _⟩
  · have u1 : ¬ (dmin : Int) ≤ (d10 : Int) := by omega
    have HDK := Lib.hid hd
    clear hd
    have u2 : ¬ (dmin : Int) < (dmax : Int) := by omega
    clear h10 t1 t2
    go_wp2_with fail
    go_ret2
    exact ⟨by rw [HDK.out.1, HDK.out.2]; rfl, HC.out.drewN _⟩
set_option maxHeartbeats 4000000 in
theorem short_norm (i hi lo s m mn mx odd v1 v2 dmin dmax d0 d : Nat) (e p t k : Int) (w : World) (h0 : m = 9223372036854775808 → e ≤ -1085) (he0 : -1085 ≤ e) (he : e ≤ 1200) (y2 : e + 11 = t) (yp : wrap64 (-(l10 t)) = p) (y5 : IntKind.u64.wrap ((m : Int) - 1024) = (mn : Int)) (y6 : IntKind.u64.wrap ((m : Int) + 1024) = (mx : Int)) (y7 : bits .and .i64 (wrap64 ((m : Int) / 2048)) 1 = (odd : Int)) (ht : -1100 ≤ t ∧ t ≤ 1000)
    (T : Hid (p + 348 = (i : Int) ∧ i < 696 ∧ w.cell? ⟨3, i * 2, none⟩ = some (.int .u64 hi) ∧ w.cell? ⟨3, i * 2 + 1, none⟩ = some (.int .u64 lo) ∧ -(e + l2 p + 3) = (s : Int) ∧ (-4000 ≤ e ∧ e ≤ 4000 ∧ -4000 ≤ l2 p ∧ l2 p ≤ 4000 ∧ -4000 ≤ p ∧ p ≤ 4000)))
    (U : Hid (s < 64 ∧ mn < 18446744073709551616 ∧ hi < 18446744073709551616 ∧ lo < 18446744073709551616 ∧ True ∧ odd ≤ 1 ∧ True))
    (V : Hid (18446744073709551616 ≤ mn * hi ∧ mx < 18446744073709551616 ∧ 18446744073709551616 ≤ mx * hi ∧ m < 18446744073709551616 ∧ 18446744073709551616 ≤ m * hi ∧ 1 ≤ s))
    (W : Hid (v1 < 9223372036854775808 ∧ v2 < 9223372036854775808))
    (D : Hid (v1 = usc mn hi lo s + odd ∧ dmin = (v1 + 3) / 4 ∧ d0 = dmax / 10 ∧ v2 + odd = usc mx hi lo s ∧ dmax = v2 / 4 ∧ dmax < 4611686018427387904))
    (E : Hid ((dmin ≤ d0 * 10 ∧ d = d0 ∧ k = -(p - 1)) ∨ (¬ dmin ≤ d0 * 10 ∧ dmin < dmax ∧ d = (usc m hi lo s + 1 + usc m hi lo s / 4 % 2) / 4 ∧ k = -p) ∨ (¬ dmin ≤ d0 * 10 ∧ ¬ dmin < dmax ∧ d = dmin ∧ k = -p))) :
    Calls Tryd.prog 36 #[.int .u64 m, .int .i64 e] w (PairOut d k w) := by
  have hp1 : -4000 ≤ p ∧ p ≤ 4000 := by have := T.out.2.2.2.2.2; omega
  have H0 := Lib.hid h0
  clear h0
  go_enter Tryd.func36, Tryd.ntmps36
  go_upto_region 12 with fail
  go_cut [28] (fun c wx => c = .bool false ∧ w = wx)
  case first =>
    clear y5 y6 y7
    by_cases hm : m = 9223372036854775808
    · have he1 : ¬ (-1085 : Int) < e := by have := H0.out hm; omega
      subst hm
      go_wp2_with fail
      go_meet
      case rel => exact ⟨rfl, rfl⟩
    · have x1 : ((m : Int) == 9223372036854775808) = false := by simp; omega
      clear hm
      go_wp2_with fail
      go_meet
      case rel => exact ⟨rfl, rfl⟩
  case rest =>
  obtain ⟨rfl, rfl⟩ := hcut
  go_wp2_with fail
  refine (l10_28 t (by omega) (by omega) w).mono ?_
  rintro e1 w1 ⟨rfl, rfl⟩
  go_wp2_with fail
  refine (l2_39 p (by omega) (by omega) _).mono ?_
  rintro e1 w1 ⟨rfl, rfl⟩
  go_wp2_with fail
  have hC1 : Chg Nowhere w (w.alloc (.cells #[.int .u64 0, .int .u64 0, .int .i64 0] 117)) := (Chg.refl _ w).alloc _
  refine (pre38 w.heap.size i hi lo s p e (l2 p) (.int .u64 0) (.int .u64 0) (.int .i64 0) _ T.out.1 T.out.2.1 (hC1.cell T.out.2.2.1 (fun h => h)) (hC1.cell T.out.2.2.2.1 (fun h => h)) T.out.2.2.2.2.1 (by have := T.out.2.2.2.2.2; omega) (by have := T.out.2.2.2.2.2; omega) (by have := T.out.2.2.2.2.2; omega) (heap_at w _ _ rfl) (by have h' : 3 < w.heap.size := World.block_lt_of_cell? w _ T.out.2.2.1; omega)).mono ?_
  rintro e2 w2 ⟨rfl, hb2, hC2⟩
  have hC3 : Chg Nowhere w w2 := hC1.trans hC2 (fun k hk h => by have h' : k = w.heap.size := h; omega)
  have HC := Lib.hid hC3
  have c0 := cell_of_heap hb2 0
  have c1 := cell_of_heap hb2 1
  have c2 := cell_of_heap hb2 2
  simp only [List.getElem?_toArray, List.getElem?_cons_succ, List.getElem?_cons_zero] at c0 c1 c2
  generalize w.heap.size = g at c0 c1 c2 ⊢
  have CC := Lib.hid (And.intro c0 (And.intro c1 c2))
  clear hC1 hC2 hC3 hb2 c0 c1 c2
  have zo : wrap64 (-(odd : Int)) = -(odd : Int) := by have := U.out.2.2.2.2.2.1; unfold wrap64; omega
  have zq : (dmax : Int) / 10 = (d0 : Int) := by have := D.out.2.2.1; omega
  have zw : IntKind.u64.wrap (d0 : Int) = (d0 : Int) := by have := D.out; rw [IntKind.wrap_u64]; omega
  obtain ⟨d10, hd10⟩ : ∃ x, x = d0 * 10 := ⟨_, rfl⟩
  have zm : IntKind.u64.wrap ((d0 : Int) * 10) = (d10 : Int) := by have := D.out; rw [IntKind.wrap_u64]; omega
  have H10 := Lib.hid hd10
  clear hd10
  go_wp2_with fail
  refine (usc40 g mn hi lo s w2 CC.out.1 CC.out.2.1 CC.out.2.2 U.out.1 U.out.2.1 U.out.2.2.1 U.out.2.2.2.1 V.out.1).mono ?_
  rintro e3 w3 ⟨rfl, q1, rfl⟩
  go_wp2_with fail
  refine (nudge41 (usc mn hi lo s) odd v1 (by have := U.out.2.2.2.2.2.1; omega) (by have := D.out.1; omega) (usc_lt _ _ _ _ V.out.2.2.2.2.2 U.out.2.1 U.out.2.2.1) _).mono ?_
  rintro e4 w4 ⟨rfl, rfl⟩
  go_wp2_with fail
  refine (ceil42 v1 W.out.1 _).mono ?_
  rintro e5 w5 ⟨rfl, rfl⟩
  rw [← D.out.2.1]
  go_wp2_with fail
  refine (usc40 g mx hi lo s (w2.drewN q1) CC.out.1 CC.out.2.1 CC.out.2.2 U.out.1 V.out.2.1 U.out.2.2.1 U.out.2.2.2.1 V.out.2.2.1).mono ?_
  rintro e6 w6 ⟨rfl, q2, rfl⟩
  go_wp2_with fail
  refine (nudge41 (usc mx hi lo s) (-(odd : Int)) v2 (by have := U.out.2.2.2.2.2.1; omega) (by have := D.out.2.2.2.1; omega) (usc_lt _ _ _ _ V.out.2.2.2.2.2 V.out.2.1 U.out.2.2.1) _).mono ?_
  rintro e7 w7 ⟨rfl, rfl⟩
  go_wp2_with fail
  refine (floor43 v2 W.out.2 _).mono ?_
  rintro e8 w8 ⟨rfl, rfl⟩
  rw [← D.out.2.2.2.2.1]
  have h10 := H10.out
  rcases E.out with ⟨t1, hd⟩ | ⟨t1, t2, hd⟩ | ⟨t1, t2, hd⟩
  · have u1 : (dmin : Int) ≤ (d10 : Int) := by omega
    have HDK := Lib.hid hd
    clear hd h10 t1
    go_wp2_with fail
    go_ret2
    exact ⟨by rw [HDK.out.1, HDK.out.2]; rfl, HC.out.drewN _⟩
  · have u1 : ¬ (dmin : Int) ≤ (d10 : Int) := by omega
    have HDK := Lib.hid hd
    clear hd
    have u2 : (dmin : Int) < (dmax : Int) := by omega
    clear h10 t1 t2
    go_wp2_with fail
    refine (usc40 g m hi lo s (w2.drewN (q1 + q2)) CC.out.1 CC.out.2.1 CC.out.2.2 U.out.1 V.out.2.2.2.1 U.out.2.2.1 U.out.2.2.2.1 V.out.2.2.2.2.1).mono ?_
    rintro e9 w9 ⟨rfl, q3, rfl⟩
    go_wp2_with fail
    refine (round44 (usc m hi lo s) (usc_lt _ _ _ _ V.out.2.2.2.2.2 V.out.2.2.2.1 U.out.2.2.1) _).mono ?_
    rintro e10 w10 ⟨rfl, rfl⟩
    go_wp2_with fail
    go_ret2
    exact ⟨by rw [HDK.out.1, HDK.out.2]; rfl, HC.out.drewN _⟩
  · have u1 : ¬ (dmin : Int) ≤ (d10 : Int) := by omega
    have HDK := Lib.hid hd
    clear hd
    have u2 : ¬ (dmin : Int) < (dmax : Int) := by omega
    clear h10 t1 t2
    go_wp2_with fail
    go_ret2
    exact ⟨by rw [HDK.out.1, HDK.out.2]; rfl, HC.out.drewN _⟩
set_option maxHeartbeats 4000000 in
theorem short_skew (i hi lo s m mn mx odd v1 v2 dmin dmax d0 d : Nat) (e p t k : Int) (w : World) (h0 : m = 9223372036854775808 ∧ True) (he0 : -1085 < e) (he : e ≤ 1200) (y2 : e + 11 = t) (yp : wrap64 (-(skw t)) = p) (y5 : IntKind.u64.wrap ((m : Int) - 512) = (mn : Int)) (y6 : IntKind.u64.wrap ((m : Int) + 1024) = (mx : Int)) (y7 : bits .and .i64 (wrap64 ((m : Int) / 2048)) 1 = (odd : Int)) (ht : -1100 ≤ t ∧ t ≤ 1000)
    (T : Hid (p + 348 = (i : Int) ∧ i < 696 ∧ w.cell? ⟨3, i * 2, none⟩ = some (.int .u64 hi) ∧ w.cell? ⟨3, i * 2 + 1, none⟩ = some (.int .u64 lo) ∧ -(e + l2 p + 3) = (s : Int) ∧ (-4000 ≤ e ∧ e ≤ 4000 ∧ -4000 ≤ l2 p ∧ l2 p ≤ 4000 ∧ -4000 ≤ p ∧ p ≤ 4000)))
    (U : Hid (s < 64 ∧ mn < 18446744073709551616 ∧ hi < 18446744073709551616 ∧ lo < 18446744073709551616 ∧ True ∧ odd ≤ 1 ∧ True))
    (V : Hid (18446744073709551616 ≤ mn * hi ∧ mx < 18446744073709551616 ∧ 18446744073709551616 ≤ mx * hi ∧ m < 18446744073709551616 ∧ 18446744073709551616 ≤ m * hi ∧ 1 ≤ s))
    (W : Hid (v1 < 9223372036854775808 ∧ v2 < 9223372036854775808))
    (D : Hid (v1 = usc mn hi lo s + odd ∧ dmin = (v1 + 3) / 4 ∧ d0 = dmax / 10 ∧ v2 + odd = usc mx hi lo s ∧ dmax = v2 / 4 ∧ dmax < 4611686018427387904))
    (E : Hid ((dmin ≤ d0 * 10 ∧ d = d0 ∧ k = -(p - 1)) ∨ (¬ dmin ≤ d0 * 10 ∧ dmin < dmax ∧ d = (usc m hi lo s + 1 + usc m hi lo s / 4 % 2) / 4 ∧ k = -p) ∨ (¬ dmin ≤ d0 * 10 ∧ ¬ dmin < dmax ∧ d = dmin ∧ k = -p))) :
    Calls Tryd.prog 36 #[.int .u64 m, .int .i64 e] w (PairOut d k w) := by
  have hp1 : -4000 ≤ p ∧ p ≤ 4000 := by have := T.out.2.2.2.2.2; omega
  have H0 := Lib.hid h0
  clear h0
  go_enter Tryd.func36, Tryd.ntmps36
  go_upto_region 12 with fail
  go_cut [28] (fun c wx => c = .bool true ∧ w = wx)
  case first =>
    obtain ⟨rfl, he1⟩ := H0.out
    clear y5 y6 y7
    go_wp2_with fail
    go_meet
    case rel => exact ⟨rfl, rfl⟩
  case rest =>
  obtain ⟨rfl, rfl⟩ := hcut
  go_wp2_with fail
  refine (skew37 t (by omega) (by omega) w).mono ?_
  rintro e1 w1 ⟨rfl, rfl⟩
  go_wp2_with fail
  refine (l2_39 p (by omega) (by omega) _).mono ?_
  rintro e1 w1 ⟨rfl, rfl⟩
  go_wp2_with fail
  have hC1 : Chg Nowhere w (w.alloc (.cells #[.int .u64 0, .int .u64 0, .int .i64 0] 117)) := (Chg.refl _ w).alloc _
  refine (pre38 w.heap.size i hi lo s p e (l2 p) (.int .u64 0) (.int .u64 0) (.int .i64 0) _ T.out.1 T.out.2.1 (hC1.cell T.out.2.2.1 (fun h => h)) (hC1.cell T.out.2.2.2.1 (fun h => h)) T.out.2.2.2.2.1 (by have := T.out.2.2.2.2.2; omega) (by have := T.out.2.2.2.2.2; omega) (by have := T.out.2.2.2.2.2; omega) (heap_at w _ _ rfl) (by have h' : 3 < w.heap.size := World.block_lt_of_cell? w _ T.out.2.2.1; omega)).mono ?_
  rintro e2 w2 ⟨rfl, hb2, hC2⟩
  have hC3 : Chg Nowhere w w2 := hC1.trans hC2 (fun k hk h => by have h' : k = w.heap.size := h; omega)
  have HC := Lib.hid hC3
  have c0 := cell_of_heap hb2 0
  have c1 := cell_of_heap hb2 1
  have c2 := cell_of_heap hb2 2
  simp only [List.getElem?_toArray, List.getElem?_cons_succ, List.getElem?_cons_zero] at c0 c1 c2
  generalize w.heap.size = g at c0 c1 c2 ⊢
  have CC := Lib.hid (And.intro c0 (And.intro c1 c2))
  clear hC1 hC2 hC3 hb2 c0 c1 c2
  have zo : wrap64 (-(odd : Int)) = -(odd : Int) := by have := U.out.2.2.2.2.2.1; unfold wrap64; omega
  have zq : (dmax : Int) / 10 = (d0 : Int) := by have := D.out.2.2.1; omega
  have zw : IntKind.u64.wrap (d0 : Int) = (d0 : Int) := by have := D.out; rw [IntKind.wrap_u64]; omega
  obtain ⟨d10, hd10⟩ : ∃ x, x = d0 * 10 := ⟨_, rfl⟩
  have zm : IntKind.u64.wrap ((d0 : Int) * 10) = (d10 : Int) := by have := D.out; rw [IntKind.wrap_u64]; omega
  have H10 := Lib.hid hd10
  clear hd10
  go_wp2_with fail
  refine (usc40 g mn hi lo s w2 CC.out.1 CC.out.2.1 CC.out.2.2 U.out.1 U.out.2.1 U.out.2.2.1 U.out.2.2.2.1 V.out.1).mono ?_
  rintro e3 w3 ⟨rfl, q1, rfl⟩
  go_wp2_with fail
  refine (nudge41 (usc mn hi lo s) odd v1 (by have := U.out.2.2.2.2.2.1; omega) (by have := D.out.1; omega) (usc_lt _ _ _ _ V.out.2.2.2.2.2 U.out.2.1 U.out.2.2.1) _).mono ?_
  rintro e4 w4 ⟨rfl, rfl⟩
  go_wp2_with fail
  refine (ceil42 v1 W.out.1 _).mono ?_
  rintro e5 w5 ⟨rfl, rfl⟩
  rw [← D.out.2.1]
  go_wp2_with fail
  refine (usc40 g mx hi lo s (w2.drewN q1) CC.out.1 CC.out.2.1 CC.out.2.2 U.out.1 V.out.2.1 U.out.2.2.1 U.out.2.2.2.1 V.out.2.2.1).mono ?_
  rintro e6 w6 ⟨rfl, q2, rfl⟩
  go_wp2_with fail
  refine (nudge41 (usc mx hi lo s) (-(odd : Int)) v2 (by have := U.out.2.2.2.2.2.1; omega) (by have := D.out.2.2.2.1; omega) (usc_lt _ _ _ _ V.out.2.2.2.2.2 V.out.2.1 U.out.2.2.1) _).mono ?_
  rintro e7 w7 ⟨rfl, rfl⟩
  go_wp2_with fail
  refine (floor43 v2 W.out.2 _).mono ?_
  rintro e8 w8 ⟨rfl, rfl⟩
  rw [← D.out.2.2.2.2.1]
  have h10 := H10.out
  rcases E.out with ⟨t1, hd⟩ | ⟨t1, t2, hd⟩ | ⟨t1, t2, hd⟩
  · have u1 : (dmin : Int) ≤ (d10 : Int) := by omega
    have HDK := Lib.hid hd
    clear hd h10 t1
    go_wp2_with fail
    go_ret2
    exact ⟨by rw [HDK.out.1, HDK.out.2]; rfl, HC.out.drewN _⟩
  · have u1 : ¬ (dmin : Int) ≤ (d10 : Int) := by omega
    have HDK := Lib.hid hd
    clear hd
    have u2 : (dmin : Int) < (dmax : Int) := by omega
    clear h10 t1 t2
    go_wp2_with fail
    refine (usc40 g m hi lo s (w2.drewN (q1 + q2)) CC.out.1 CC.out.2.1 CC.out.2.2 U.out.1 V.out.2.2.2.1 U.out.2.2.1 U.out.2.2.2.1 V.out.2.2.2.2.1).mono ?_
    rintro e9 w9 ⟨rfl, q3, rfl⟩
    go_wp2_with fail
    refine (round44 (usc m hi lo s) (usc_lt _ _ _ _ V.out.2.2.2.2.2 V.out.2.2.2.1 U.out.2.2.1) _).mono ?_
    rintro e10 w10 ⟨rfl, rfl⟩
    go_wp2_with fail
    go_ret2
    exact ⟨by rw [HDK.out.1, HDK.out.2]; rfl, HC.out.drewN _⟩
  · have u1 : ¬ (dmin : Int) ≤ (d10 : Int) := by omega
    have HDK := Lib.hid hd
    clear hd
    have u2 : ¬ (dmin : Int) < (dmax : Int) := by omega
    clear h10 t1 t2
    go_wp2_with fail
    go_ret2
    exact ⟨by rw [HDK.out.1, HDK.out.2]; rfl, HC.out.drewN _⟩
end Go.Proofs.YtmlgfhdjdmfdbaaDoor
