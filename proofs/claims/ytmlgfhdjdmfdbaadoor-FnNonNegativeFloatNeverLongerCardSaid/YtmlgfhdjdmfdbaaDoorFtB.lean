/-
  Proved: contracts of uscale and prescale of Go's float formatting. No condition; no statement of the seat stands here.
-/
import Derived.Test.YtmlgfhdjdmfdbaaDoorFtA
import Derived.Deep.RegionWith
namespace Go.Proofs.YtmlgfhdjdmfdbaaDoor
open Go.RowKit Go.ChangeAt
set_option linter.unusedSimpArgs false
set_option linter.unusedVariables false
set_option maxRecDepth 100000
theorem bool58q (b : Bool) (w : World) : Calls Tryd.prog 63 #[.bool b] w (Same (.int .u64 (b2n b : Nat)) w) := bool58 b w
theorem div_cast (h s : Nat) : (h : Int) / 2 ^ s = ((h / 2 ^ s : Nat) : Int) := by push_cast; rfl
theorem uscA (g x hi lo s h m q r y : Nat) (w : World) (h0 : w.cell? ⟨g, 0, none⟩ = some (.int .u64 hi)) (h2 : w.cell? ⟨g, 2, none⟩ = some (.int .i64 s))
    (hm : ∀ w, Calls Tryd.prog 62 #[.int .u64 x, .int .u64 hi] w (Same (.tuple #[.int .u64 h, .int .u64 m]) w))
    (es : bits .and .i64 (s : Int) 63 = (s : Int)) (hs : s < 64) (e1 : (h : Int) / 2 ^ s = (q : Int)) (e2 : IntKind.u64.wrap ((q : Int) * 2 ^ s) = (r : Int)) (e3 : ((r : Int) != (h : Int)) = true) (e4 : bits .or .u64 (q : Int) 1 = (y : Int)) :
    Calls Tryd.prog 46 #[.int .u64 x, .pointer (some ⟨g, 0, none⟩)] w (Drew (.int .u64 y) w) := by
  have HM := Lib.hid hm
  clear hm
  go_enter Tryd.func46, Tryd.ntmps46
  go_wp2_with fail
  refine (HM.out w).mono ?_
  rintro e1 w1 ⟨rfl, rfl⟩
  go_wp2_with fail
  go_ret
  exact ⟨rfl, 0, rfl⟩
set_option maxHeartbeats 4000000 in
theorem uscB (g x hi lo s h m m2 q r h' q' dm y n1 n2 : Nat) (w : World) (h0 : w.cell? ⟨g, 0, none⟩ = some (.int .u64 hi)) (h1 : w.cell? ⟨g, 1, none⟩ = some (.int .u64 lo)) (h2 : w.cell? ⟨g, 2, none⟩ = some (.int .i64 s))
    (hm : ∀ w, Calls Tryd.prog 62 #[.int .u64 x, .int .u64 hi] w (Same (.tuple #[.int .u64 h, .int .u64 m]) w))
    (hm2 : ∀ w, ∃ z : Nat, Calls Tryd.prog 62 #[.int .u64 x, .int .u64 lo] w (Same (.tuple #[.int .u64 m2, .int .u64 z]) w))
    (es : bits .and .i64 (s : Int) 63 = (s : Int)) (hs : s < 64) (e1 : (h : Int) / 2 ^ s = (q : Int)) (e2 : IntKind.u64.wrap ((q : Int) * 2 ^ s) = (r : Int)) (e3 : ((r : Int) != (h : Int)) = false)
    (hb1 : ∀ w, Calls Tryd.prog 63 #[.bool (decide (m < m2))] w (Same (.int .u64 n1) w)) (e6 : IntKind.u64.wrap ((h : Int) - (n1 : Int)) = (h' : Int)) (e7 : (h' : Int) / 2 ^ s = (q' : Int)) (e8 : IntKind.u64.wrap ((m : Int) - (m2 : Int)) = (dm : Int))
    (hb2 : ∀ w, Calls Tryd.prog 63 #[.bool (decide ((1 : Int) < (dm : Int)))] w (Same (.int .u64 n2) w)) (e10 : bits .or .u64 (q' : Int) (n2 : Int) = (y : Int)) :
    Calls Tryd.prog 46 #[.int .u64 x, .pointer (some ⟨g, 0, none⟩)] w (Drew (.int .u64 y) w) := by
  have HM := Lib.hid hm
  have HM2 := Lib.hid hm2
  have HB1 := Lib.hid hb1
  have HB2 := Lib.hid hb2
  clear hm hm2 hb1 hb2
  go_enter Tryd.func46, Tryd.ntmps46
  go_wp2_with fail
  refine (HM.out w).mono ?_
  rintro e1 w1 ⟨rfl, rfl⟩
  go_wp2_with fail
  obtain ⟨z, hz⟩ := HM2.out w
  refine hz.mono ?_
  rintro e1 w1 ⟨rfl, rfl⟩
  clear hz
  go_wp2_with fail
  refine (HB1.out w).mono ?_
  rintro e1 w1 ⟨rfl, rfl⟩
  go_wp2_with fail
  go_quiet ((go_at_call 63; exact Calls.quiet_of_same ((HB2.out _).mono fun e w' h => ⟨h.1, h.2.symm⟩)))
  go_wp2_with fail
  go_ret
  exact ⟨rfl, _, rfl⟩
theorem and63 : ∀ s, s < 64 → bits .and .i64 ((s : Nat) : Int) 63 = (s : Int) := by decide +kernel
theorem usc40 (g x hi lo s : Nat) (w : World) (h0 : w.cell? ⟨g, 0, none⟩ = some (.int .u64 hi)) (h1 : w.cell? ⟨g, 1, none⟩ = some (.int .u64 lo)) (h2 : w.cell? ⟨g, 2, none⟩ = some (.int .i64 s)) (hs : s < 64)
    (hx : x < 18446744073709551616) (hhi : hi < 18446744073709551616) (hlo : lo < 18446744073709551616) (hbig : 18446744073709551616 ≤ x * hi) :
    Calls Tryd.prog 46 #[.int .u64 x, .pointer (some ⟨g, 0, none⟩)] w (Drew (.int .u64 (usc x hi lo s)) w) := by
  have hm := fun w => mul57 x hi _ _ hx hhi rfl rfl w
  have hm2 := fun w => mul57 x lo _ _ hx hlo rfl rfl w
  have hh : x * hi / 18446744073709551616 < 18446744073709551616 := Nat.div_lt_of_lt_mul (Nat.mul_lt_mul'' hx hhi)
  have hh1 : 1 ≤ x * hi / 18446744073709551616 := (Nat.one_le_div_iff (by omega)).2 hbig
  have hmm : x * hi % 18446744073709551616 < 18446744073709551616 := Nat.mod_lt _ (by omega)
  have hmm2 : x * lo / 18446744073709551616 < 18446744073709551616 := Nat.div_lt_of_lt_mul (Nat.mul_lt_mul'' hx hlo)
  unfold usc
  generalize x * hi / 18446744073709551616 = h at hm hh hh1 ⊢
  generalize x * hi % 18446744073709551616 = m at hm hmm ⊢
  generalize x * lo / 18446744073709551616 = m2 at hm2 hmm2 ⊢
  have hq : h / 2 ^ s * 2 ^ s ≤ h := Nat.div_mul_le_self _ _
  have e2 : IntKind.u64.wrap (((h / 2 ^ s : Nat) : Int) * 2 ^ s) = ((h / 2 ^ s * 2 ^ s : Nat) : Int) := by
    rw [show ((h / 2 ^ s : Nat) : Int) * 2 ^ s = ((h / 2 ^ s * 2 ^ s : Nat) : Int) by push_cast; rfl, IntKind.wrap_u64]
    generalize h / 2 ^ s * 2 ^ s = z at hq
    omega
  have hq2 : h / 2 ^ s < 18446744073709551616 := Nat.lt_of_le_of_lt (Nat.div_le_self _ _) hh
  by_cases c : h / 2 ^ s * 2 ^ s = h
  · rw [if_pos c]
    have hdm : (m + 18446744073709551616 - m2) % 18446744073709551616 < 18446744073709551616 := Nat.mod_lt _ (by omega)
    have e8 : IntKind.u64.wrap ((m : Int) - (m2 : Int)) = (((m + 18446744073709551616 - m2) % 18446744073709551616 : Nat) : Int) := by rw [IntKind.wrap_u64]; omega
    generalize (m + 18446744073709551616 - m2) % 18446744073709551616 = dm at e8 hdm ⊢
    have e6 : IntKind.u64.wrap ((h : Int) - (b2n (decide (m < m2)) : Nat)) = ((if m < m2 then h - 1 else h : Nat) : Int) := by
      rw [IntKind.wrap_u64]
      unfold b2n
      by_cases hlt : m < m2
      · rw [if_pos hlt, if_pos (decide_eq_true hlt)]; omega
      · rw [if_neg hlt, if_neg (by simp [hlt])]; omega
    have hh' : (if m < m2 then h - 1 else h) < 18446744073709551616 := by split <;> omega
    generalize (if m < m2 then h - 1 else h) = h' at e6 hh' ⊢
    have hq3 : h' / 2 ^ s < 18446744073709551616 := Nat.lt_of_le_of_lt (Nat.div_le_self _ _) hh'
    have e10 := bits_or_u64_nat (h' / 2 ^ s) (b2n (decide ((1 : Int) < (dm : Int)))) hq3 (by unfold b2n; split <;> omega)
    have en : (if dm ≤ 1 then 0 else 1) = b2n (decide ((1 : Int) < (dm : Int))) := by
      unfold b2n
      by_cases hlt : dm ≤ 1
      · rw [if_pos hlt, if_neg (by simp; omega)]
      · rw [if_neg hlt, if_pos (by simp; omega)]
    rw [en]
    exact uscB g x hi lo s h m m2 _ _ h' _ dm _ _ _ w h0 h1 h2 hm (fun w => ⟨_, hm2 w⟩) (and63 s hs) hs (div_cast h s) e2 (by rw [c]; simp) (fun w => bool58 _ w) e6 (div_cast h' s) e8 (fun w => bool58 _ w) e10
  · rw [if_neg c]
    exact uscA g x hi lo s h m _ _ _ w h0 h2 hm (and63 s hs) hs (div_cast h s) e2 (by simp; exact_mod_cast c) (bits_or_u64_nat (h / 2 ^ s) 1 hq2 (by omega))
def PreOut (g hi lo s : Nat) (w : World) (e : Ending) (w' : World) : Prop := e = .returned (.tuple #[]) ∧ w'.heap[g]? = some (.cells #[.int .u64 hi, .int .u64 lo, .int .i64 s] 117 (0, 0)) ∧ Chg (fun k => k = g) w w'
theorem pre38 (g i hi lo s : Nat) (p e lp : Int) (a0 a1 a2 : Value) (w : World) (hp : p + 348 = (i : Int)) (hi0 : i < 696) (c0 : w.cell? ⟨3, i * 2, none⟩ = some (.int .u64 hi)) (c1 : w.cell? ⟨3, i * 2 + 1, none⟩ = some (.int .u64 lo))
    (hs : -(e + lp + 3) = (s : Int)) (he : -4000 ≤ e ∧ e ≤ 4000) (hlp : -4000 ≤ lp ∧ lp ≤ 4000) (hpb : -4000 ≤ p ∧ p ≤ 4000) (hb : w.heap[g]? = some (.cells #[a0, a1, a2] 117 (0, 0))) (hg : g ≠ 3) :
    Calls Tryd.prog 44 #[.pointer (some ⟨g, 0, none⟩), .int .i64 e, .int .i64 p, .int .i64 lp] w (PreOut g hi lo s w) := by
  have g0 := cell_of_heap hb 0
  have g1 := cell_of_heap hb 1
  have g2 := cell_of_heap hb 2
  simp only [List.getElem?_toArray, List.getElem?_cons_succ, List.getElem?_cons_zero] at g0 g1 g2
  have fz : ∀ j, w.frozen? ⟨g, j, none⟩ = false := fun j => frozen_of_heap hb j
  have hi1 : (i : Int) < 696 := by omega
  have HB := Lib.hid hb
  have hg2 := Ne.symm hg
  clear hb
  go_enter Tryd.func44, Tryd.ntmps44
  go_wp2_with fail
  refine bodyPost_end (v := .tuple #[]) (by simp [results, Tryd.f44]) rfl ⟨rfl, ?_, (((Chg.refl (fun k => k = g) w).setCell (p := ⟨g, 0, none⟩) (fun _ => rfl) _).setCell (p := ⟨g, 1, none⟩) (fun _ => rfl) _).setCell (p := ⟨g, 2, none⟩) (fun _ => rfl) _⟩
  exact heap_setCell (heap_setCell (heap_setCell HB.out 0 _) 1 _) 2 _
end Go.Proofs.YtmlgfhdjdmfdbaaDoor
