/-
  Proved: contracts of sort.stable and sort.Stable at the expansion keys: the keys lie sorted, equal ones in their order. No statement of the seat stands here.
-/
import Derived.Test.YtcbmankbjgbjgaaGreatFmtSymm
namespace Go.Proofs.YtcbmankbjgbjgaaGreatFmt
open Go.RowKit Go.ChangeAt
set_option linter.unusedSimpArgs false
set_option linter.unusedVariables false
set_option maxRecDepth 100000
theorem dvd_step {B p a : Nat} (h1 : B ∣ p) (h2 : B ∣ a) (h : p < a) : p + B ≤ a := by
  obtain ⟨x, rfl⟩ := h1
  obtain ⟨y, rfl⟩ := h2
  have hxy : x < y := by
    rcases Nat.lt_or_ge x y with c | c
    · exact c
    · have := Nat.mul_le_mul_left B c; omega
  have := Nat.mul_le_mul_left B (show x + 1 ≤ y by omega)
  rw [Nat.mul_add, Nat.mul_one] at this
  exact this
def BlkD (K : Nat → Int) (s : Nat → Nat) (B n : Nat) : Prop := ∀ p, B ∣ p → p < n → Stab.Blk K s p (min (p + B) n)
/-- The first round: blocks of 20 sorted by insertion. -/
structure St1 (w wr : World) (g n : Nat) (f t : Nat → ByteArray) (L : Nat → Nat) (a : Nat) (s : Nat → Nat) : Prop where
  tbl : Tbl wr g n f t s
  dvd : 20 ∣ a
  le : a ≤ n
  done : ∀ p, 20 ∣ p → p < a → Stab.Blk (KL L) s p (p + 20)
  todo : ∀ x, a ≤ x → s x = x
  chg : Chg (fun x => x = g) w wr
theorem St1.step {w wr w2 : World} {g n : Nat} {f t : Nat → ByteArray} {L : Nat → Nat} {a : Nat} {s s2 : Nat → Nat} (h : St1 w wr g n f t L a s) (ha : a + 20 ≤ n) (ht : Tbl w2 g n f t s2) (hm : Stab.Mrgd (KL L) s s2 a (a + 20)) (hc : Chg (fun x => x = g) wr w2) : St1 w w2 g n f t L (a + 20) s2 := by
  refine ⟨ht, Nat.dvd_add h.dvd (Nat.dvd_refl _), ha, fun p hp hlt => ?_, fun x hx => ?_, h.chg.trans hc (fun _ _ h => h)⟩
  · rcases Nat.lt_trichotomy p a with c | c | c
    · have := dvd_step hp h.dvd c
      exact (h.done p hp c).congr (fun x h1 h2 => hm.1.out x (.inl (by omega)))
    · subst c
      exact Stab.Blk.of_id (fun x h1 h2 => h.todo x h1) hm
    · have := dvd_step h.dvd hp c; omega
  · rw [hm.1.out x (.inr hx)]; exact h.todo x (by omega)
theorem St1.fin {w wr : World} {g n : Nat} {f t : Nat → ByteArray} {L : Nat → Nat} {a : Nat} {s s2 : Nat → Nat} (h : St1 w wr g n f t L a s) (ha : n < a + 20) (hm : Stab.Mrgd (KL L) s s2 a n) : BlkD (KL L) s2 20 n := by
  intro p hp hlt
  rcases Nat.lt_trichotomy p a with c | c | c
  · have := dvd_step hp h.dvd c
    rw [Nat.min_eq_left (by have := h.le; omega)]
    exact (h.done p hp c).congr (fun x h1 h2 => hm.1.out x (.inl (by omega)))
  · subst c
    rw [Nat.min_eq_right (by omega)]
    exact Stab.Blk.of_id (fun x h1 h2 => h.todo x h1) hm
  · have := dvd_step h.dvd hp c; omega
/-- A round of merges: the blocks below a have twice B places. -/
structure St2 (w wr : World) (g n : Nat) (f t : Nat → ByteArray) (L : Nat → Nat) (B a : Nat) (s : Nat → Nat) : Prop where
  tbl : Tbl wr g n f t s
  dvd : 2 * B ∣ a
  le : a ≤ n
  done : ∀ p, 2 * B ∣ p → p < a → Stab.Blk (KL L) s p (p + 2 * B)
  todo : ∀ p, B ∣ p → a ≤ p → p < n → Stab.Blk (KL L) s p (min (p + B) n)
  chg : Chg (fun x => x = g) w wr
theorem dvd_of2 {B a : Nat} (h : 2 * B ∣ a) : B ∣ a := Nat.dvd_trans ⟨2, by omega⟩ h
theorem St2.mrg {w wr : World} {g n : Nat} {f t : Nat → ByteArray} {L : Nat → Nat} {B a b : Nat} {s : Nat → Nat} (h : St2 w wr g n f t L B a s) (hB : 0 < B) (hab : a + B < n) (hb : b = min (a + 2 * B) n) :
    Stab.Blk (KL L) s a (a + B) ∧ Stab.Blk (KL L) s (a + B) b := by
  have h1 := h.todo a (dvd_of2 h.dvd) (Nat.le_refl _) (by omega)
  have h2 := h.todo (a + B) (Nat.dvd_add (dvd_of2 h.dvd) (Nat.dvd_refl _)) (by omega) hab
  rw [Nat.min_eq_left (by omega)] at h1
  rw [show a + B + B = a + 2 * B by omega, ← hb] at h2
  exact ⟨h1, h2⟩
theorem St2.step {w wr w2 : World} {g n : Nat} {f t : Nat → ByteArray} {L : Nat → Nat} {B a : Nat} {s s2 : Nat → Nat} (h : St2 w wr g n f t L B a s) (hB : 0 < B) (ha : a + 2 * B ≤ n) (ht : Tbl w2 g n f t s2) (hm : Stab.Mrgd (KL L) s s2 a (a + 2 * B)) (hc : Chg (fun x => x = g) wr w2) : St2 w w2 g n f t L B (a + 2 * B) s2 := by
  obtain ⟨b1, b2⟩ := h.mrg hB (by omega) (b := a + 2 * B) (by omega)
  refine ⟨ht, Nat.dvd_add h.dvd (Nat.dvd_refl _), ha, fun p hp hlt => ?_, fun p hp h1 h2 => ?_, h.chg.trans hc (fun _ _ h => h)⟩
  · rcases Nat.lt_trichotomy p a with c | c | c
    · have := dvd_step hp h.dvd c
      exact (h.done p hp c).congr (fun x h1 h2 => hm.1.out x (.inl (by omega)))
    · subst c
      exact Stab.Blk.merged b1 b2 (by omega) (by omega) hm
    · have := dvd_step h.dvd hp c; omega
  · exact (h.todo p hp (by omega) h2).congr (fun x h3 h4 => hm.1.out x (.inr (by omega)))
theorem St2.fin {w wr : World} {g n : Nat} {f t : Nat → ByteArray} {L : Nat → Nat} {B a : Nat} {s s2 : Nat → Nat} (h : St2 w wr g n f t L B a s) (hB : 0 < B) (ha : n < a + 2 * B) (hs : (a + B < n ∧ Stab.Mrgd (KL L) s s2 a n) ∨ (n ≤ a + B ∧ s2 = s)) : BlkD (KL L) s2 (2 * B) n := by
  intro p hp hlt
  rcases Nat.lt_trichotomy p a with c | c | c
  · have := dvd_step hp h.dvd c
    rw [Nat.min_eq_left (by have := h.le; omega)]
    refine (h.done p hp c).congr (fun x h1 h2 => ?_)
    rcases hs with ⟨_, hm⟩ | ⟨_, rfl⟩
    · exact hm.1.out x (.inl (by omega))
    · rfl
  · subst c
    rw [Nat.min_eq_right (by omega)]
    rcases hs with ⟨hl, hm⟩ | ⟨hl, rfl⟩
    · obtain ⟨b1, b2⟩ := h.mrg hB hl (b := n) (by omega)
      exact Stab.Blk.merged b1 b2 (by omega) (by omega) hm
    · have := h.todo p (dvd_of2 h.dvd) (Nat.le_refl _) hlt
      rw [Nat.min_eq_right (by omega)] at this
      exact this
  · have := dvd_step h.dvd hp c; omega
structure St3 (w wr : World) (g n : Nat) (f t : Nat → ByteArray) (L : Nat → Nat) (B : Nat) (s : Nat → Nat) : Prop where
  tbl : Tbl wr g n f t s
  blk : BlkD (KL L) s B n
  chg : Chg (fun x => x = g) w wr
set_option maxHeartbeats 8000000 in
theorem stable43x (g n c : Nat) (f t : Nat → ByteArray) (L : Nat → Nat) (w : World) (hS : Star f L) (hT : Tbl w g n f t (fun x => x)) (hn : n ≤ 1048576) (hn1 : 1 ≤ n) :
    Calls Tryz.prog 43 #[.iface 56 (.slice (some ⟨g, 0, none⟩) n c), .int .i64 n] w (SortOut g n f t (fun s' => Stab.Blk (KL L) s' 0 n) w) := by
  have HS := Lib.hid hS
  have H0 : Hid (St1 w w g n f t L 0 (fun x => x)) := Lib.hid ⟨hT, Nat.dvd_zero _, by omega, fun p _ h => by omega, fun x _ => rfl, .refl _ _⟩
  clear hS hT
  go_enter Tryz.func43, Tryz.ntmps43
  go_wp2_with fail
  go_loopw [5, 6] (fun i j wr => ∃ a : Nat, ∃ s : Nat → Nat, i = .int .i64 a ∧ j = .int .i64 (a + 20) ∧ St1 w wr g n f t L a s) (fun i _ _ => n - (intOf i).toNat)
  case atStart => exact ⟨0, _, rfl, rfl, H0.out⟩
  case round =>
    obtain ⟨a, s, rfl, rfl, hA⟩ := hrel
    have hle := hA.le
    have HA := Lib.hid hA
    clear hA
    by_cases hlt : a + 20 ≤ n
    · have hx : (a : Int) + 20 ≤ (n : Int) := by omega
      have hin := ins54x g n c a (a + 20) f t L s _ HS.out HA.out.tbl (by omega) hlt hn (fun x h1 h2 => HA.out.todo x h1)
      rw [show ((a + 20 : Nat) : Int) = (a : Int) + 20 by omega] at hin
      go_wp2_with fail
      refine hin.mono ?_
      rintro e1 w1 ⟨rfl, s2, ht, hm, hc⟩
      have HR := Lib.hid (And.intro ht (And.intro hm hc))
      clear ht hm hc hin
      go_wp2_with fail
      go_roundw
      case rel => exact ⟨a + 20, s2, by go_num, by go_num, HA.out.step hlt HR.out.1 HR.out.2.1 HR.out.2.2⟩
      case measure => simp [intOf]; omega
    · have hx : ¬ (a : Int) + 20 ≤ (n : Int) := by omega
      rename World => wa
      have hin : Calls Tryz.prog 54 #[.iface 56 (.slice (some ⟨g, 0, none⟩) n c), .int .i64 a, .int .i64 n] wa (SortOut g n f t (fun s' => Stab.Mrgd (KL L) s s' a n) wa) := by
        by_cases hl2 : a < n
        · exact ins54x g n c a n f t L s _ HS.out HA.out.tbl hl2 (Nat.le_refl _) hn (fun x h1 h2 => HA.out.todo x h1)
        · refine (ins54n g n c a n wa (by omega) (by omega)).mono ?_
          rintro e w' ⟨rfl, rfl⟩
          exact ⟨rfl, s, HA.out.tbl, ⟨.refl _ _ _, .one _ _ _ (by omega)⟩, .refl _ _⟩
      go_wp2_with fail
      refine hin.mono ?_
      rintro e1 w1 ⟨rfl, s2, ht, hm, hc⟩
      have H3 : Hid (St3 w w1 g n f t L 20 s2) := Lib.hid ⟨ht, HA.out.fin (by omega) hm, HA.out.chg.trans hc (fun _ _ h => h)⟩
      clear ht hm hc hin HA hx hlt hle
      go_wp2_with fail
      go_loopw [4, 5, 6, 7] (fun bs c5 c6 c7 wr => ∃ B : Nat, ∃ s : Nat → Nat, bs = .int .i64 B ∧ 20 ≤ B ∧ B ≤ 4194304 ∧ St3 w wr g n f t L B s) (fun bs _ _ _ _ => n - (intOf bs).toNat)
      case atStart => exact ⟨20, s2, rfl, by omega, by omega, H3.out⟩
      case round =>
        obtain ⟨B, s3, rfl, hB1, hB2, hA⟩ := hrel
        have HA := Lib.hid hA
        clear hA
        by_cases hlt : B < n
        · have hx : (B : Int) < (n : Int) := by omega
          rename World => wb
          have J0 : Hid (St2 wb wb g n f t L B 0 s3) := Lib.hid ⟨HA.out.tbl, Nat.dvd_zero _, by omega, fun p _ h => by omega, fun p hp _ h => HA.out.blk p hp h, .refl _ _⟩
          go_wp2_with fail
          go_loopw [5, 6] (fun i j wr => ∃ a : Nat, ∃ s : Nat → Nat, i = .int .i64 a ∧ j = .int .i64 (a + 2 * B) ∧ St2 wb wr g n f t L B a s) (fun i _ _ => n - (intOf i).toNat)
          case atStart => exact ⟨0, s3, rfl, by go_num, J0.out⟩
          case round =>
            obtain ⟨a, s4, rfl, rfl, hI⟩ := hrel
            have hle := hI.le
            have HI := Lib.hid hI
            clear hI
            by_cases hl3 : a + 2 * B ≤ n
            · have hx2 : (a : Int) + 2 * (B : Int) ≤ (n : Int) := by omega
              obtain ⟨b1, b2⟩ := HI.out.mrg (by omega) (by omega) (b := a + 2 * B) (by omega)
              have hin := sym55 g n c f t L HS.out hn _ a (a + B) (a + 2 * B) s4 _ (Nat.le_refl _) HI.out.tbl (b1.mrg b2 (by omega) (by omega)) hl3
              rw [show ((a + 2 * B : Nat) : Int) = (a : Int) + 2 * (B : Int) by omega, show ((a + B : Nat) : Int) = (a : Int) + (B : Int) by omega] at hin
              clear b1 b2
              go_wp2_with fail
              refine hin.mono ?_
              rintro e1 w1 ⟨rfl, s5, ht, hm, hc⟩
              have HR := Lib.hid (And.intro ht (And.intro hm hc))
              clear ht hm hc hin
              go_wp2_with fail
              go_roundw
              case rel => exact ⟨a + 2 * B, s5, by go_num, by go_num, HI.out.step (by omega) hl3 HR.out.1 HR.out.2.1 HR.out.2.2⟩
              case measure => simp [intOf]; omega
            · have hx2 : ¬ (a : Int) + 2 * (B : Int) ≤ (n : Int) := by omega
              by_cases hm4 : a + B < n
              · have hx3 : (a : Int) + (B : Int) < (n : Int) := by omega
                obtain ⟨b1, b2⟩ := HI.out.mrg (by omega) hm4 (b := n) (by omega)
                have hin := sym55 g n c f t L HS.out hn _ a (a + B) n s4 _ (Nat.le_refl _) HI.out.tbl (b1.mrg b2 (by omega) (by omega)) (Nat.le_refl _)
                rw [show ((a + B : Nat) : Int) = (a : Int) + (B : Int) by omega] at hin
                clear b1 b2
                go_wp2_with fail
                refine hin.mono ?_
                rintro e1 w1 ⟨rfl, s5, ht, hm, hc⟩
                have HR := Lib.hid (And.intro ht (And.intro hm hc))
                clear ht hm hc hin
                go_wp2_with fail
                go_roundw
                case rel => exact ⟨2 * B, s5, by go_num, by omega, by omega, HR.out.1, HI.out.fin (by omega) (by omega) (.inl ⟨hm4, HR.out.2.1⟩), (HA.out.chg.trans HI.out.chg (fun _ _ h => h)).trans HR.out.2.2 (fun _ _ h => h)⟩
                case measure => simp [intOf]; omega
              · have hx3 : ¬ (a : Int) + (B : Int) < (n : Int) := by omega
                go_wp2_with fail
                go_roundw
                case rel => exact ⟨2 * B, s4, by go_num, by omega, by omega, HI.out.tbl, HI.out.fin (by omega) (by omega) (.inr ⟨by omega, rfl⟩), HA.out.chg.trans HI.out.chg (fun _ _ h => h)⟩
                case measure => simp [intOf]; omega
        · have hx : ¬ (B : Int) < (n : Int) := by omega
          go_wp2_with fail
          have hfin := HA.out.blk 0 (Nat.dvd_zero _) (by omega)
          rw [Nat.zero_add, Nat.min_eq_right (by omega)] at hfin
          first
            | exact bodyPost_ret (v := .tuple #[]) (results_no (by rfl) _ _ _) rfl ⟨rfl, s3, HA.out.tbl, hfin, HA.out.chg⟩
            | exact bodyPost_end (v := .tuple #[]) (results_no (by rfl) _ _ _) rfl ⟨rfl, s3, HA.out.tbl, hfin, HA.out.chg⟩
theorem sort31x (g n c : Nat) (f t : Nat → ByteArray) (L : Nat → Nat) (w : World) (hS : Star f L) (hT : Tbl w g n f t (fun x => x)) (hn : n ≤ 1048576) (hn1 : 1 ≤ n) :
    Calls Tryz.prog 31 #[.iface 56 (.slice (some ⟨g, 0, none⟩) n c)] w (SortOut g n f t (fun s' => Stab.Blk (KL L) s' 0 n) w) := by
  have hm := len56 (some ⟨g, 0, none⟩) n c w
  have hst := stable43x g n c f t L w hS hT hn hn1
  clear hS hT
  go_enter Tryz.func31, Tryz.ntmps31
  go_wp2_with fail
  refine (len107 (some ⟨g, 0, none⟩) n c w).mono ?_
  rintro e1 w1 ⟨rfl, rfl⟩
  go_wp2_with fail
  refine hst.mono ?_
  rintro e2 w2 ⟨rfl, h2⟩
  have H2 := Lib.hid h2
  clear h2 hst
  go_wp2_with fail
  first
    | exact bodyPost_ret (v := .tuple #[]) (results_no (by rfl) _ _ _) rfl ⟨rfl, H2.out⟩
    | exact bodyPost_end (v := .tuple #[]) (results_no (by rfl) _ _ _) rfl ⟨rfl, H2.out⟩
end Go.Proofs.YtcbmankbjgbjgaaGreatFmt
