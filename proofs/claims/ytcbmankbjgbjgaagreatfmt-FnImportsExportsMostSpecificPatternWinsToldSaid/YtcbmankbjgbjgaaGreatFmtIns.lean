/-
  Proved: contracts of sort.insertionSort, sort.swapRange and sort.rotate over the expansion keys. No statement of the seat stands here.
-/
import Derived.Test.YtcbmankbjgbjgaaGreatFmtSwap
namespace Go.Proofs.YtcbmankbjgbjgaaGreatFmt
open Go.RowKit Go.ChangeAt
set_option linter.unusedSimpArgs false
set_option linter.unusedVariables false
set_option maxRecDepth 100000
def KL (L : Nat → Nat) : Nat → Int := fun x => -(L x : Int)
theorem kl_less {L : Nat → Nat} {x y : Nat} : (KL L x < KL L y) ↔ L y < L x := by unfold KL; omega
def SortOut (g n : Nat) (f t : Nat → ByteArray) (P : (Nat → Nat) → Prop) (w : World) (e : Ending) (w' : World) : Prop := e = .returned (.tuple #[]) ∧ ∃ s', Tbl w' g n f t s' ∧ P s' ∧ Chg (fun k => k = g) w w'
structure InsAt (w wr : World) (g n : Nat) (f t : Nat → ByteArray) (L : Nat → Nat) (s : Nat → Nat) (a k : Nat) (s' : Nat → Nat) : Prop where
  tbl : Tbl wr g n f t s'
  perm : Stab.Perm s s' a k
  srt : Stab.Sorted (KL L) s' a k
  chg : Chg (fun x => x = g) w wr
structure InsIn (wo wr : World) (g n : Nat) (f t : Nat → ByteArray) (L : Nat → Nat) (a k : Nat) (t0 : Nat → Nat) (j : Nat) (s' : Nat → Nat) : Prop where
  tbl : Tbl wr g n f t s'
  inv : Stab.InsInv (K := KL L) a k t0 s' j
  chg : Chg (fun x => x = g) wo wr
set_option maxHeartbeats 4000000 in
theorem ins54x (g n c a b : Nat) (f t : Nat → ByteArray) (L : Nat → Nat) (s : Nat → Nat) (w : World) (hS : Star f L) (hT : Tbl w g n f t s) (hab : a < b) (hb : b ≤ n) (hn : n ≤ 1048576) (hid : ∀ x, a ≤ x → x < b → s x = x) :
    Calls Tryz.prog 54 #[.iface 56 (.slice (some ⟨g, 0, none⟩) n c), .int .i64 a, .int .i64 b] w (SortOut g n f t (fun s' => Stab.Mrgd (KL L) s s' a b) w) := by
  have hl := less56 (some ⟨g, 0, none⟩) n c
  have hs := swapm56 (some ⟨g, 0, none⟩) n c
  have H0 : Hid (InsAt w w g n f t L s a (a + 1) s) := Lib.hid ⟨hT, .refl _ _ _, .one _ _ _ (by omega), .refl _ _⟩
  have HI := Lib.hid hid
  have HS := Lib.hid hS
  clear hT hid hS
  go_enter Tryz.func54, Tryz.ntmps54
  go_wp2_with fail
  go_loopw [6] (fun i wr => ∃ k : Nat, ∃ s' : Nat → Nat, i = .int .i64 k ∧ a + 1 ≤ k ∧ k ≤ b ∧ InsAt w wr g n f t L s a k s') (fun i _ => b - (intOf i).toNat)
  case atStart => exact ⟨a + 1, s, by go_num, by omega, by omega, H0.out⟩
  case round =>
    obtain ⟨k, s1, rfl, hk1, hk2, hA⟩ := hrel
    have HA := Lib.hid hA
    clear hA
    by_cases hlt : k < b
    · have hx : (k : Int) < (b : Int) := by omega
      rename World => wo
      go_wp2_with fail
      go_loopw [7] (fun jv wr => ∃ j : Nat, ∃ s' : Nat → Nat, jv = .int .i64 j ∧ j ≤ k ∧ a ≤ j ∧ InsIn wo wr g n f t L a k s1 j s') (fun j _ => (intOf j).toNat)
      case atStart => exact ⟨k, s1, rfl, by omega, by omega, ⟨HA.out.tbl, Stab.InsInv.start a k (by omega) s1, Chg.refl _ _⟩⟩
      case round =>
        obtain ⟨j, s2, rfl, hj1, hj2, hI⟩ := hrel
        by_cases hgt : a < j
        · obtain ⟨j, rfl⟩ : ∃ j', j = j' + 1 := ⟨j - 1, by omega⟩
          have hx2 : (a : Int) < (j : Int) + 1 := by omega
          have Hin := Lib.hid hI
          clear hI
          go_wp2_with fail
          refine (less108 g n c (j + 1) j f t L s2 _ HS.out Hin.out.tbl (by omega) (by omega)).mono ?_
          rintro e1 w1 ⟨rfl, rfl⟩
          by_cases hd : L (s2 j) < L (s2 (j + 1))
          · rw [decide_eq_true hd]
            have Hd := Lib.hid hd
            clear hd
            go_wp2_with fail
            refine (swap109 g n c (j + 1) j f t s2 _ Hin.out.tbl (by omega) (by omega) (by omega)).mono ?_
            rintro e2 w2 ⟨rfl, ht, hc⟩
            have Ht := Lib.hid ht
            have Hc := Lib.hid hc
            clear ht hc
            go_wp2_with fail
            go_roundw
            case rel => exact ⟨j, _, by go_num, by omega, by omega, ⟨Ht.out, Hin.out.inv.step hgt (kl_less.2 Hd.out), Hin.out.chg.trans Hc.out (fun _ _ h => h)⟩⟩
            case measure => simp [intOf]
          · rw [decide_eq_false hd]
            have Hd := Lib.hid hd
            clear hd
            go_wp2_with fail
            go_roundw
            case rel =>
              have hdone := Hin.out.inv.done (.inr (fun h => Hd.out (kl_less.1 h))) HA.out.perm HA.out.srt (fun x h1 h2 => HI.out x h1 (by omega))
              exact ⟨k + 1, s2, by go_num, by omega, by omega, ⟨Hin.out.tbl, hdone.1, hdone.2, HA.out.chg.trans Hin.out.chg (fun _ _ h => h)⟩⟩
            case measure => simp [intOf]; omega
        · have hx2 : ¬ (a : Int) < (j : Int) := by omega
          have Hin := Lib.hid hI
          clear hI
          go_wp2_with fail
          go_roundw
          case rel =>
            have hdone := Hin.out.inv.done (.inl (by omega)) HA.out.perm HA.out.srt (fun x h1 h2 => HI.out x h1 (by omega))
            exact ⟨k + 1, s2, by go_num, by omega, by omega, ⟨Hin.out.tbl, hdone.1, hdone.2, HA.out.chg.trans Hin.out.chg (fun _ _ h => h)⟩⟩
          case measure => simp [intOf]; omega
    · have hx : ¬ (k : Int) < (b : Int) := by omega
      go_wp2_with fail
      obtain rfl : k = b := by omega
      exact bodyPost_end (v := .tuple #[]) (results_no (by rfl) _ _ _) rfl ⟨rfl, s1, HA.out.tbl, ⟨HA.out.perm, HA.out.srt⟩, HA.out.chg⟩
/-- No place, or one: nothing is turned. -/
theorem ins54n (g n c a b : Nat) (w : World) (hab : b ≤ a + 1) (ha : a ≤ 1048576) :
    Calls Tryz.prog 54 #[.iface 56 (.slice (some ⟨g, 0, none⟩) n c), .int .i64 a, .int .i64 b] w (NoneOut w) := by
  have hx : ¬ (a : Int) + 1 < (b : Int) := by omega
  go_enter Tryz.func54, Tryz.ntmps54
  go_wp2_with fail
  go_loop [6] (fun i => i = .int .i64 (a + 1)) (fun _ => 0)
  case atStart => go_num
  case round =>
    subst hrel
    go_wp2_with fail
    refine bodyPost_ret (v := .tuple #[]) (results_no (by rfl) _ _ _) rfl ⟨rfl, rfl⟩
structure SwrAt (w wr : World) (g n : Nat) (f t : Nat → ByteArray) (s' : Nat → Nat) : Prop where
  tbl : Tbl wr g n f t s'
  chg : Chg (fun x => x = g) w wr
set_option maxHeartbeats 4000000 in
theorem swr78 (g n c a b k : Nat) (f t : Nat → ByteArray) (s : Nat → Nat) (w : World) (hT : Tbl w g n f t s) (hab : a + k ≤ b) (hb : b + k ≤ n) (hn : n ≤ 1048576) :
    Calls Tryz.prog 78 #[.iface 56 (.slice (some ⟨g, 0, none⟩) n c), .int .i64 a, .int .i64 b, .int .i64 k] w (SortOut g n f t (fun s' => s' = Stab.swr s a b k) w) := by
  have hs := swapm56 (some ⟨g, 0, none⟩) n c
  have H0 : Hid (SwrAt w w g n f t (Stab.swr s a b 0)) := Lib.hid ⟨by rw [Stab.swr_zero]; exact hT, .refl _ _⟩
  clear hT
  go_enter Tryz.func78, Tryz.ntmps78
  go_wp2_with fail
  go_loopw [8] (fun i wr => ∃ q : Nat, i = .int .i64 q ∧ q ≤ k ∧ SwrAt w wr g n f t (Stab.swr s a b q)) (fun i _ => k - (intOf i).toNat)
  case atStart => exact ⟨0, by go_num, by omega, H0.out⟩
  case round =>
    obtain ⟨q, rfl, hq, hA⟩ := hrel
    have HA := Lib.hid hA
    clear hA
    by_cases hlt : q < k
    · have hx : (q : Int) < (k : Int) := by omega
      go_wp2_with fail
      refine (swap109 g n c (a + q) (b + q) f t _ _ HA.out.tbl (by omega) (by omega) (by omega)).mono ?_
      rintro e2 w2 ⟨rfl, ht, hc⟩
      rw [Stab.swr_step s a b q (by omega)] at ht
      have Ht := Lib.hid ht
      have Hc := Lib.hid hc
      clear ht hc
      go_wp2_with fail
      go_roundw
      case rel => exact ⟨q + 1, by go_num, by omega, Ht.out, HA.out.chg.trans Hc.out (fun _ _ h => h)⟩
      case measure => simp [intOf]; omega
    · have hx : ¬ (q : Int) < (k : Int) := by omega
      go_wp2_with fail
      obtain rfl : q = k := by omega
      exact bodyPost_end (v := .tuple #[]) (results_no (by rfl) _ _ _) rfl ⟨rfl, _, HA.out.tbl, rfl, HA.out.chg⟩
structure RotAt (w wr : World) (g n : Nat) (f t : Nat → ByteArray) (T s' : Nat → Nat) (m i j : Nat) : Prop where
  tbl : Tbl wr g n f t s'
  inv : Stab.RotInv T s' m i j
  chg : Chg (fun x => x = g) w wr
set_option maxHeartbeats 4000000 in
theorem rot64 (g n c a m b : Nat) (f t : Nat → ByteArray) (s : Nat → Nat) (w : World) (hT : Tbl w g n f t s) (ham : a < m) (hmb : m < b) (hb : b ≤ n) (hn : n ≤ 1048576) :
    Calls Tryz.prog 64 #[.iface 56 (.slice (some ⟨g, 0, none⟩) n c), .int .i64 a, .int .i64 m, .int .i64 b] w (SortOut g n f t (fun s' => Stab.Rot s s' a m b) w) := by
  obtain ⟨i0, hi0⟩ : ∃ i, m = a + i := ⟨m - a, by omega⟩
  obtain ⟨j0, hj0⟩ : ∃ j, b = m + j := ⟨b - m, by omega⟩
  have H0 : Hid (RotAt w w g n f t (Stab.rotT s a m b) s m i0 j0) := Lib.hid ⟨hT, by have h := Stab.RotInv.start s a m b (by omega) (by omega); rw [show m - a = i0 by omega, show b - m = j0 by omega] at h; exact h, .refl _ _⟩
  have HR := Lib.hid (Stab.rotT_rot s a m b)
  have e1 : (m : Int) - (a : Int) = (i0 : Int) := by omega
  have e2 : (b : Int) - (m : Int) = (j0 : Int) := by omega
  generalize Stab.rotT s a m b = T at H0 HR
  have Hij := Lib.hid (And.intro hi0 hj0)
  clear hT hi0 hj0
  have p1 : 1 ≤ i0 := by have := Hij.out; omega
  have p2 : 1 ≤ j0 := by have := Hij.out; omega
  go_enter Tryz.func64, Tryz.ntmps64
  go_wp2_with fail
  clear e1 e2
  go_loopw [8, 9] (fun iv jv wr => ∃ i j : Nat, ∃ s' : Nat → Nat, iv = .int .i64 i ∧ jv = .int .i64 j ∧ 1 ≤ i ∧ 1 ≤ j ∧ i ≤ m ∧ m + j ≤ b ∧ RotAt w wr g n f t T s' m i j) (fun iv jv _ => (intOf iv).toNat + (intOf jv).toNat)
  case atStart => exact ⟨i0, j0, s, rfl, rfl, p1, p2, by have := Hij.out; omega, by have := Hij.out; omega, H0.out⟩
  case round =>
    obtain ⟨i, j, s1, rfl, rfl, hi1, hj1, him, hmj, hA⟩ := hrel
    have HA := Lib.hid hA
    clear hA
    rcases Nat.lt_trichotomy i j with h | h | h
    · have x1 : ((i : Int) != (j : Int)) = true := by simp; omega
      have x2 : ¬ (j : Int) < (i : Int) := by omega
      have y1 : (m : Int) - (i : Int) = ((m - i : Nat) : Int) := by omega
      have y2 : (m : Int) + (j : Int) - (i : Int) = ((m + j - i : Nat) : Int) := by omega
      have y3 : (j : Int) - (i : Int) = ((j - i : Nat) : Int) := by omega
      go_wp2_with fail
      refine (swr78 g n c (m - i) (m + j - i) i f t s1 _ HA.out.tbl (by omega) (by omega) hn).mono ?_
      rintro e2 w2 ⟨rfl, s2, ht, rfl, hc⟩
      have Ht := Lib.hid ht
      have Hc := Lib.hid hc
      clear ht hc
      go_wp2_with fail
      go_roundw
      case rel => exact ⟨i, j - i, _, rfl, rfl, by omega, by omega, by omega, by omega, Ht.out, HA.out.inv.right h, HA.out.chg.trans Hc.out (fun _ _ h => h)⟩
      case measure => simp [intOf]; omega
    · subst h
      have x1 : ((i : Int) != (i : Int)) = false := by simp
      have y1 : (m : Int) - (i : Int) = ((m - i : Nat) : Int) := by omega
      go_wp2_with fail
      refine (swr78 g n c (m - i) m i f t s1 _ HA.out.tbl (by omega) (by omega) hn).mono ?_
      rintro e2 w2 ⟨rfl, s2, ht, rfl, hc⟩
      have Ht := Lib.hid ht
      have Hc := Lib.hid hc
      clear ht hc
      go_wp2_with fail
      exact bodyPost_end (v := .tuple #[]) (results_no (by rfl) _ _ _) rfl ⟨rfl, _, Ht.out, by rw [HA.out.inv.last]; exact HR.out, HA.out.chg.trans Hc.out (fun _ _ h => h)⟩
    · have x1 : ((i : Int) != (j : Int)) = true := by simp; omega
      have x2 : (j : Int) < (i : Int) := by omega
      have y1 : (m : Int) - (i : Int) = ((m - i : Nat) : Int) := by omega
      have y3 : (i : Int) - (j : Int) = ((i - j : Nat) : Int) := by omega
      go_wp2_with fail
      refine (swr78 g n c (m - i) m j f t s1 _ HA.out.tbl (by omega) (by omega) hn).mono ?_
      rintro e2 w2 ⟨rfl, s2, ht, rfl, hc⟩
      have Ht := Lib.hid ht
      have Hc := Lib.hid hc
      clear ht hc
      go_wp2_with fail
      go_roundw
      case rel => exact ⟨i - j, j, _, rfl, rfl, by omega, by omega, by omega, by omega, Ht.out, HA.out.inv.left h, HA.out.chg.trans Hc.out (fun _ _ h => h)⟩
      case measure => simp [intOf]; omega
end Go.Proofs.YtcbmankbjgbjgaaGreatFmt
