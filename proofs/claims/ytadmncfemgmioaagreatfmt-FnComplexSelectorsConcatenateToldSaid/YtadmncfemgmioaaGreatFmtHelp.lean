/-
  Proved: contracts of the law's helpers (sizes, levels, separator, spaces, equality). No statement of the seat stands here.
-/
import Derived.Test.YtadmncfemgmioaaGreatFmtNest
import Derived.RegionTactic
namespace Go.Proofs.YtadmncfemgmioaaGreatFmt
open Go.RowKit Go.ChangeAt
set_option linter.unusedSimpArgs false
set_option linter.unusedVariables false
set_option maxRecDepth 100000
def sumL (X : Nat → List UInt8) : Nat → Nat
  | 0 => 0
  | k + 1 => sumL X k + (X k).length
theorem sumL_mono (X : Nat → List UInt8) {j k : Nat} (h : j ≤ k) : sumL X j ≤ sumL X k := by
  induction k with
  | zero => obtain rfl : j = 0 := by omega
            exact Nat.le_refl _
  | succ k ih =>
    by_cases h2 : j ≤ k
    · have := ih h2
      simp only [sumL]
      omega
    · obtain rfl : j = k + 1 := by omega
      exact Nat.le_refl _
theorem sumL_get (X : Nat → List UInt8) {i n : Nat} (h : i < n) : (X i).length ≤ sumL X n := by
  have := sumL_mono X (show i + 1 ≤ n by omega)
  simp only [sumL] at this
  omega
def Bound2 (q : Nat) (w : World) (e : Ending) (w' : World) : Prop := ∃ r : Bool, e = .returned (.bool r) ∧ w = w' ∧ (r = true → q ≤ 1048576)
set_option maxHeartbeats 4000000 in
theorem sum5 (a : Option Addr) (n c : Nat) (X : Nat → List UInt8) (ca : Nat → Option Addr) (cc : Nat → Nat) (w : World) (hX : Nested w a n X ca cc) (hb : n + sumL X n ≤ 1048576) :
    Calls Tryz.prog 5 #[.slice a n c] w (fun e w' => e = .returned (.int .i64 ((24 * n + sumL X n : Nat) : Int)) ∧ w = w') := by
  have HX := Lib.hid hX
  clear hX
  go_enter Tryz.func5, Tryz.ntmps5
  go_wp2
  go_loop [3, 4] (fun z i => ∃ k : Nat, k ≤ n ∧ i = .int .i64 k ∧ z = .int .i64 ((24 * n + sumL X k : Nat) : Int)) (fun _ i => n - (intOf i).toNat)
  case atStart => exact ⟨0, by omega, rfl, by simp only [sumL]; go_num⟩
  case round =>
    obtain ⟨k, hk, rfl, rfl⟩ := hrel
    have hm := sumL_mono X hk
    by_cases hlt : k < n
    · rcases HX.out.row with h0 | ⟨g, o, rfl, hR1⟩
      · omega
      have hc := hR1 k hlt
      clear hR1
      have hm2 := sumL_mono X (show k + 1 ≤ n by omega)
      have hs : sumL X (k + 1) = sumL X k + (X k).length := rfl
      go_wp2
      go_round
      case rel => exact ⟨k + 1, by omega, by go_num, by go_num⟩
      case measure => simp [intOf]; omega
    · obtain rfl : k = n := by omega
      go_wp2
      go_ret
      exact ⟨rfl, rfl⟩
theorem lev6 (ind : Int) (h0 : -2147483648 ≤ ind) (h1 : ind ≤ 65536) (w : World) : Calls Tryz.prog 6 #[.int .i32 ind, .int .i64 0] w (fun e w' => e = .returned (.int .i64 (ind.toNat : Int)) ∧ w = w') := by
  have hw : IntKind.i64.wrap ind = ind := IntWalk.i64_in _ (by omega)
  by_cases hn : ind < 0
  · have e : ind.toNat = 0 := by omega
    rw [e]
    go_enter Tryz.func6, Tryz.ntmps6
    go_wp2
    go_ret
    exact ⟨rfl, rfl⟩
  · have e : (ind.toNat : Int) = ind := by omega
    rw [e]
    go_enter Tryz.func6, Tryz.ntmps6
    go_wp2
    go_ret
    exact ⟨rfl, rfl⟩
/-- The row that holds 'out', made since w. -/
structure RowAt (w wr : World) (vo : Option Addr) (L vc : Nat) (out : List UInt8) : Prop where
  len : L = out.length
  own : wr.ownsRow w.heap.size 5 1 (.slice vo L vc) L (Lib.byteCells out)
  chg : Chg Nowhere w wr
theorem RowAt.addr {w wr : World} {vo : Option Addr} {L vc : Nat} {out : List UInt8} (h : RowAt w wr vo L vc out) : ∀ k, InRow vo k → w.heap.size ≤ k := fun k hk => (inRow_own h.own k hk).1
theorem RowAt.more {w wr w' : World} {vo vo' : Option Addr} {L vc vc' : Nat} {out new : List UInt8} {x : Obj} (k : Nat) (hk : new.length = k) (h : RowAt w wr vo L vc out)
    (hown : w'.ownsRow w.heap.size 5 1 (.slice vo' (L + k) vc') (L + k) (Lib.byteCells out ++ Lib.byteCells new)) (hc : Chg (InRow vo) (wr.alloc x) w') : RowAt w w' vo' (L + k) vc' (out ++ new) := by
  subst hk
  refine ⟨by rw [List.length_append, h.len], ?_, (h.chg.alloc x).trans hc fun k hk hs => absurd (h.addr k hs) (by omega)⟩
  have hx : Lib.byteCells (out ++ new) = Lib.byteCells out ++ Lib.byteCells new := by simp [Lib.byteCells]
  rw [hx]; exact hown
theorem RowAt.more0 {w wr w' : World} {vo vo' : Option Addr} {L vc vc' : Nat} {out new : List UInt8} (h : RowAt w wr vo L vc out)
    (hown : w'.ownsRow w.heap.size 5 1 (.slice vo' (L + new.length) vc') (L + new.length) (Lib.byteCells out ++ Lib.byteCells new)) (hc : Chg (InRow vo) wr w') : RowAt w w' vo' (L + new.length) vc' (out ++ new) := by
  refine ⟨by rw [List.length_append, h.len], ?_, h.chg.trans hc fun k hk hs => absurd (h.addr k hs) (by omega)⟩
  have hx : Lib.byteCells (out ++ new) = Lib.byteCells out ++ Lib.byteCells new := by simp [Lib.byteCells]
  rw [hx]; exact hown
theorem newBytes (wl : World) (l : List UInt8) (q : Nat) (hq : q = wl.heap.size) : ∀ a, (some ⟨q, 0, none⟩ : Option Addr) = some a → ∀ j u, (Lib.byteCells l)[j]? = some u → (wl.alloc (.cells (Lib.byteCells l).toArray 5)).cell? (a.add j) = some u :=
  fun a ha j u hu => cells_new wl (Lib.byteCells l).toArray 5 a (hq ▸ ha) j u hu
theorem oneBytes (l : List UInt8) : ∀ u ∈ Lib.byteCells l, u.oneCell' = true := by
  intro u hu
  simp [Lib.byteCells] at hu
  obtain ⟨x, _, rfl⟩ := hu
  rfl
def SepOut (w0 : World) (out : List UInt8) (e : Ending) (w' : World) : Prop := ∃ vo L vc, e = .returned (.slice vo L vc) ∧ RowAt w0 w' vo L vc out
set_option maxHeartbeats 4000000 in
theorem spaces14 (w0 w : World) (vo : Option Addr) (L vc : Nat) (out : List UInt8) (n : Nat) (h : RowAt w0 w vo L vc out) (hL : L ≤ 1000000000) (hn : n ≤ 65536) :
    Calls Tryz.prog 14 #[.slice vo L vc, .int .i64 n] w (SepOut w0 (out ++ spaces n)) := by
  obtain ⟨i0, hi, hz0, hz1, hz2⟩ := info_parts info5
  have Hrow := Lib.hid h
  clear h
  go_enter Tryz.func14, Tryz.ntmps14
  go_wp2_with fail
  go_loopw [0, 5] (fun s i wr => ∃ k : Nat, ∃ vo L vc, k ≤ n ∧ i = .int .i64 k ∧ s = .slice vo L vc ∧ L ≤ 1000000000 + 2 * k ∧ RowAt w0 wr vo L vc (out ++ spaces k)) (fun _ i _ => n - (intOf i).toNat)
  case atStart => exact ⟨0, vo, L, vc, by omega, rfl, rfl, by omega, by simpa only [spaces, List.append_nil] using Hrow.out⟩
  case round =>
    obtain ⟨k, vo2, L2, vc2, hk, rfl, rfl, hL2, hr⟩ := hrel
    have Hr2 := Lib.hid hr
    have hsz := hr.chg.size
    clear hr
    by_cases hlt : k < n
    · have hx1 : (k : Int) < (n : Int) := by omega
      go_wp2_with (at_builtin; go_loud (refine wpList_append_fresh _ rfl (.tmp 11) (.tmp 12) 27 rfl w0.heap.size 5 i0 _ 1 1 Tryz.underlying27 hi hz0 hz1 hz2 rfl (by decide) vo2 L2 vc2 _ rfl (Hr2.out.own.alloc _) (some ⟨wr.heap.size, 0, none⟩) 2 2 (Lib.byteCells [32, 32]) rfl rfl (by simp) (newBytes wr [32, 32] _ (by simp)) (oneBytes _) (by unfold maxLen; omega) (by omega) (by have := Hr2.out.chg.size; simp; omega) ?_; intro vp vcp wp hown1 hg1 hf1; have Hr := Lib.hid (RowAt.more (new := [32, 32]) 2 rfl Hr2.out hown1 hg1); clear hown1 hg1 hf1))
      go_roundw
      case rel => exact ⟨k + 1, vp, L2 + 2, vcp, by omega, by go_num, rfl, by omega, by simpa only [spaces, List.append_assoc] using Hr.out⟩
      case measure => simp [intOf]; omega
    · have hke : k = n := by omega
      subst hke
      have hx1 : ¬ (k : Int) < (k : Int) := by omega
      go_wp2_with fail
      go_ret
      exact ⟨vo2, L2, vc2, rfl, Hr2.out⟩
def EqOut (w : World) (e : Ending) (w' : World) : Prop := e = .returned (.bool true) ∧ ∃ q, w' = w.drewN q
set_option maxHeartbeats 4000000 in
theorem equal11 (a1 a2 : Option Addr) (c1 c2 : Nat) (T : List UInt8) (w : World) (hn : T.length ≤ 4000000000) (h1 : Reads w a1 T.length (byteAt T)) (h2 : Reads w a2 T.length (byteAt T)) :
    Calls Tryz.prog 11 #[.slice a1 T.length c1, .slice a2 T.length c2] w (EqOut w) := by
  have H1 := Lib.hid h1
  have H2 := Lib.hid h2
  clear h1 h2
  go_enter Tryz.func11, Tryz.ntmps11
  go_wp2
  go_loopw [5] (fun i wr => ∃ k : Nat, k ≤ T.length ∧ i = .int .i64 k ∧ ∃ q, wr = w.drewN q) (fun i _ => T.length - (intOf i).toNat)
  case atStart => exact ⟨0, by omega, rfl, 0, rfl⟩
  case round =>
    obtain ⟨k, hk, rfl, q0, rfl⟩ := hrel
    by_cases hlt : k < T.length
    · rcases H1.out with h0 | ⟨g, o, rfl, hR1⟩
      · omega
      rcases H2.out with h0 | ⟨g2, o2, rfl, hR2⟩
      · omega
      have d1 := hR1 k hlt
      have d2 := hR2 k hlt
      unfold byteAt at d1 d2
      generalize byteOf T k = q at d1 d2
      clear hR1 hR2
      have hx1 : (k : Int) < (T.length : Int) := by omega
      have hx0 : (0 : Int) ≤ (k : Int) := by omega
      go_wp2
      go_region
      go_wp2
      go_roundw
      case rel => exact ⟨k + 1, by omega, by go_num, _, rfl⟩
      case measure => simp [intOf]; omega
    · have hke : k = T.length := by omega
      have hx1 : ¬ (k : Int) < (T.length : Int) := by omega
      go_wp2
      go_ret
      exact ⟨rfl, q0, rfl⟩
end Go.Proofs.YtadmncfemgmioaaGreatFmt
