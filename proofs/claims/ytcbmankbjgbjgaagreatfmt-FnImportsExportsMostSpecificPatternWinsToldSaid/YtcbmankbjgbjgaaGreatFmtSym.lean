/-
  Proved: contract of sort.symMerge over the expansion keys. No statement of the seat stands here.
-/
import Derived.Test.YtcbmankbjgbjgaaGreatFmtIns
import Derived.Outline
import Derived.Deep.CutRange
import Derived.Deep.DeepCutAuto
namespace Go.Proofs.YtcbmankbjgbjgaaGreatFmt
open Go.RowKit Go.ChangeAt
set_option linter.unusedSimpArgs false
set_option linter.unusedVariables false
set_option maxRecDepth 100000
structure FindAt (i j m b : Nat) (P Q : Nat → Prop) : Prop where
  lo : m ≤ i ∧ i ≤ j ∧ j ≤ b
  l : ∀ x, m ≤ x → x < i → P x
  r : ∀ x, j ≤ x → x < b → Q x
structure BubAt (w wr : World) (g n : Nat) (f t : Nat → ByteArray) (s s' : Nat → Nat) (a k : Nat) : Prop where
  tbl : Tbl wr g n f t s'
  at_ : s' k = s a
  mid : ∀ x, a ≤ x → x < k → s' x = s (x + 1)
  out : ∀ x, x < a ∨ k < x → s' x = s x
  chg : Chg (fun x => x = g) w wr
structure BubDn (w wr : World) (g n : Nat) (f t : Nat → ByteArray) (s s' : Nat → Nat) (m k : Nat) : Prop where
  tbl : Tbl wr g n f t s'
  at_ : s' k = s m
  mid : ∀ x, k < x → x ≤ m → s' x = s (x - 1)
  out : ∀ x, x < k ∨ m < x → s' x = s x
  chg : Chg (fun x => x = g) w wr
theorem BubAt.step {w wr w2 : World} {g n : Nat} {f t : Nat → ByteArray} {s s' : Nat → Nat} {a k : Nat} (h : BubAt w wr g n f t s s' a k) (hak : a ≤ k) (ht : Tbl w2 g n f t (Stab.swp s' k (k + 1))) (hc : Chg (fun x => x = g) wr w2) : BubAt w w2 g n f t s (Stab.swp s' k (k + 1)) a (k + 1) := by
  refine ⟨ht, ?_, fun x h1 h2 => ?_, fun x hx => ?_, h.chg.trans hc (fun _ _ h => h)⟩
  · unfold Stab.swp; rw [if_neg (by omega), if_pos rfl]; exact h.at_
  · unfold Stab.swp
    by_cases e : x = k
    · subst e; rw [if_pos rfl]; exact h.out _ (by omega)
    · rw [if_neg e, if_neg (by omega)]; exact h.mid x h1 (by omega)
  · unfold Stab.swp; rw [if_neg (by omega), if_neg (by omega)]; exact h.out x (by omega)
theorem BubDn.step {w wr w2 : World} {g n : Nat} {f t : Nat → ByteArray} {s s' : Nat → Nat} {m k : Nat} (h : BubDn w wr g n f t s s' m (k + 1)) (hkm : k + 1 ≤ m) (ht : Tbl w2 g n f t (Stab.swp s' (k + 1) k)) (hc : Chg (fun x => x = g) wr w2) : BubDn w w2 g n f t s (Stab.swp s' (k + 1) k) m k := by
  refine ⟨ht, ?_, fun x h1 h2 => ?_, fun x hx => ?_, h.chg.trans hc (fun _ _ h => h)⟩
  · unfold Stab.swp; rw [if_neg (by omega), if_pos rfl]; exact h.at_
  · unfold Stab.swp
    by_cases e : x = k + 1
    · subst e; rw [if_pos rfl]; exact h.out _ (by omega)
    · rw [if_neg e, if_neg (by omega)]; exact h.mid x (by omega) h2
  · unfold Stab.swp; rw [if_neg (by omega), if_neg (by omega)]; exact h.out x (by omega)
theorem half_nat (i j : Nat) (h : i < j) : ∃ q : Nat, ((i : Int) + (j : Int)) / 2 = (q : Int) ∧ i ≤ q ∧ q < j := ⟨(i + j) / 2, by omega, by omega, by omega⟩
set_option maxHeartbeats 4000000 in
theorem sym55a (g n c a b : Nat) (f t : Nat → ByteArray) (L : Nat → Nat) (s : Nat → Nat) (w : World) (hS : Star f L) (hT : Tbl w g n f t s) (hM : Stab.Mrg (KL L) s a (a + 1) b) (hb : b ≤ n) (hn : n ≤ 1048576) :
    Calls Tryz.prog 55 #[.iface 56 (.slice (some ⟨g, 0, none⟩) n c), .int .i64 a, .int .i64 (a + 1), .int .i64 b] w (SortOut g n f t (fun s' => Stab.Mrgd (KL L) s s' a b) w) := by
  have hl := less56 (some ⟨g, 0, none⟩) n c
  have hs := swapm56 (some ⟨g, 0, none⟩) n c
  have HT := Lib.hid hT
  have HM := Lib.hid hM
  have HS := Lib.hid hS
  have hmb := hM.mb
  clear hT hM hS
  have e1 : (a : Int) + 1 - (a : Int) = 1 := by omega
  go_enter Tryz.func55, Tryz.ntmps55
  go_wp2_with fail
  go_loop [8, 9, 10] (fun iv jv _ => ∃ i j : Nat, iv = .int .i64 i ∧ jv = .int .i64 j ∧ FindAt i j (a + 1) b (fun x => L (s a) < L (s x)) (fun x => ¬ L (s a) < L (s x))) (fun iv jv _ => (intOf jv).toNat - (intOf iv).toNat)
  case atStart => exact ⟨a + 1, b, by go_num, rfl, ⟨by omega, fun x h1 h2 => by omega, fun x h1 h2 => by omega⟩⟩
  case round =>
    obtain ⟨i, j, rfl, rfl, hF⟩ := hrel
    have HF := Lib.hid hF
    have hlo := hF.lo
    clear hF
    by_cases hlt : i < j
    · have hx : (i : Int) < (j : Int) := by omega
      obtain ⟨q, eq1, q1, q2⟩ := half_nat i j hlt
      go_wp2_with fail
      refine (less108 g n c q a f t L s w HS.out HT.out (by omega) (by omega)).mono ?_
      rintro e1 w1 ⟨rfl, rfl⟩
      have K1 := Lib.hid (And.intro q1 q2)
      by_cases hd : L (s a) < L (s q)
      · rw [decide_eq_true hd]
        have Hd := Lib.hid hd
        clear hd eq1
        go_wp2_with fail
        go_round
        case rel => exact ⟨q + 1, j, by go_num, rfl, ⟨by have := K1.out; omega, fun x h1 h2 => by
          have h3 := HF.out.l
          by_cases e : x = q
          · subst e; exact Hd.out
          · have hr := HM.out.r x q (by omega) (by omega) (by have := K1.out; omega)
            have hq := Hd.out
            unfold Stab.lt KL at hr
            omega, HF.out.r⟩⟩
        case measure => simp [intOf]; have := K1.out; omega
      · rw [decide_eq_false hd]
        have Hd := Lib.hid hd
        clear hd eq1
        go_wp2_with fail
        go_round
        case rel => exact ⟨i, q, rfl, rfl, ⟨by have := K1.out; omega, HF.out.l, fun x h1 h2 => by
          by_cases e : x = q
          · subst e; exact Hd.out
          · have hr := HM.out.r q x (by have := K1.out; omega) (by omega) h2
            have hq := Hd.out
            unfold Stab.lt KL at hr
            omega⟩⟩
        case measure => simp [intOf]; have := K1.out; omega
    · have hx : ¬ (i : Int) < (j : Int) := by omega
      obtain rfl : i = j := by omega
      obtain ⟨i, rfl⟩ : ∃ i', i = i' + 1 := ⟨i - 1, by omega⟩
      have ei : (i : Int) + 1 - 1 = (i : Int) := by omega
      have H0 : Hid (BubAt w w g n f t s s a a) := Lib.hid ⟨HT.out, rfl, fun x h1 h2 => by omega, fun _ _ => rfl, .refl _ _⟩
      go_wp2_with fail
      go_loopw [11] (fun kv wr => ∃ k : Nat, ∃ s' : Nat → Nat, kv = .int .i64 k ∧ a ≤ k ∧ k ≤ i ∧ BubAt w wr g n f t s s' a k) (fun kv _ => i - (intOf kv).toNat)
      case atStart => exact ⟨a, s, rfl, by omega, by omega, H0.out⟩
      case round =>
        obtain ⟨k, s1, rfl, k1, k2, hA⟩ := hrel
        have HA := Lib.hid hA
        clear hA
        by_cases hlt2 : k < i
        · have hx2 : (k : Int) < (i : Int) := by omega
          go_wp2_with fail
          refine (swap109 g n c k (k + 1) f t _ _ HA.out.tbl (by omega) (by omega) (by omega)).mono ?_
          rintro e2 w2 ⟨rfl, ht, hc⟩
          have Ht := Lib.hid ht
          have Hc := Lib.hid hc
          clear ht hc
          go_wp2_with fail
          go_roundw
          case rel => exact ⟨k + 1, _, by go_num, by omega, by omega, HA.out.step k1 Ht.out Hc.out⟩
          case measure => simp [intOf]; omega
        · have hx2 : ¬ (k : Int) < (i : Int) := by omega
          go_wp2_with fail
          obtain rfl : k = i := by omega
          refine bodyPost_ret (v := .tuple #[]) (results_no (by rfl) _ _ _) rfl ⟨rfl, s1, HA.out.tbl, ?_, HA.out.chg⟩
          exact HM.out.one (i := k + 1) (by omega) (fun x h1 h2 => kl_less.2 (HF.out.l x h1 h2)) (fun x h1 h2 h3 => HF.out.r x h1 h2 (kl_less.1 h3)) HA.out.at_ (fun x h1 h2 => HA.out.mid x h1 h2) (fun x h1 => HA.out.out x (by omega))
set_option maxHeartbeats 4000000 in
theorem sym55b (g n c a m : Nat) (f t : Nat → ByteArray) (L : Nat → Nat) (s : Nat → Nat) (w : World) (hS : Star f L) (hT : Tbl w g n f t s) (hM : Stab.Mrg (KL L) s a m (m + 1)) (ham : a + 1 < m) (hb : m + 1 ≤ n) (hn : n ≤ 1048576) :
    Calls Tryz.prog 55 #[.iface 56 (.slice (some ⟨g, 0, none⟩) n c), .int .i64 a, .int .i64 m, .int .i64 (m + 1)] w (SortOut g n f t (fun s' => Stab.Mrgd (KL L) s s' a (m + 1)) w) := by
  have hl := less56 (some ⟨g, 0, none⟩) n c
  have hs := swapm56 (some ⟨g, 0, none⟩) n c
  have HT := Lib.hid hT
  have HM := Lib.hid hM
  have HS := Lib.hid hS
  clear hT hM hS
  have e1 : (m : Int) + 1 - (m : Int) = 1 := by omega
  have e0 : ((m : Int) - (a : Int) == 1) = false := by simp; omega
  go_enter Tryz.func55, Tryz.ntmps55
  go_wp2_with fail
  go_loop [12, 13, 14] (fun iv jv _ => ∃ i j : Nat, iv = .int .i64 i ∧ jv = .int .i64 j ∧ FindAt i j a m (fun x => ¬ L (s x) < L (s m)) (fun x => L (s x) < L (s m))) (fun iv jv _ => (intOf jv).toNat - (intOf iv).toNat)
  case atStart => exact ⟨a, m, rfl, rfl, ⟨by omega, fun x h1 h2 => by omega, fun x h1 h2 => by omega⟩⟩
  case round =>
    obtain ⟨i, j, rfl, rfl, hF⟩ := hrel
    have HF := Lib.hid hF
    have hlo := hF.lo
    clear hF
    by_cases hlt : i < j
    · have hx : (i : Int) < (j : Int) := by omega
      obtain ⟨q, eq1, q1, q2⟩ := half_nat i j hlt
      go_wp2_with fail
      refine (less108 g n c m q f t L s w HS.out HT.out (by omega) (by omega)).mono ?_
      rintro e1 w1 ⟨rfl, rfl⟩
      have K1 := Lib.hid (And.intro q1 q2)
      by_cases hd : L (s q) < L (s m)
      · rw [decide_eq_true hd]
        have Hd := Lib.hid hd
        clear hd eq1
        go_wp2_with fail
        go_round
        case rel => exact ⟨i, q, rfl, rfl, ⟨by have := K1.out; omega, HF.out.l, fun x h1 h2 => by
          by_cases e : x = q
          · subst e; exact Hd.out
          · have hr := HM.out.l q x (by have := K1.out; omega) (by omega) h2
            have hq := Hd.out
            unfold Stab.lt KL at hr
            omega⟩⟩
        case measure => simp [intOf]; have := K1.out; omega
      · rw [decide_eq_false hd]
        have Hd := Lib.hid hd
        clear hd eq1
        go_wp2_with fail
        go_round
        case rel => exact ⟨q + 1, j, by go_num, rfl, ⟨by have := K1.out; omega, fun x h1 h2 => by
          by_cases e : x = q
          · subst e; exact Hd.out
          · have hr := HM.out.l x q (by omega) (by omega) (by have := K1.out; omega)
            have hq := Hd.out
            unfold Stab.lt KL at hr
            omega, HF.out.r⟩⟩
        case measure => simp [intOf]; have := K1.out; omega
    · have hx : ¬ (i : Int) < (j : Int) := by omega
      obtain rfl : i = j := by omega
      have H0 : Hid (BubDn w w g n f t s s m m) := Lib.hid ⟨HT.out, rfl, fun x h1 h2 => by omega, fun _ _ => rfl, .refl _ _⟩
      go_wp2_with fail
      go_loopw [15] (fun kv wr => ∃ k : Nat, ∃ s' : Nat → Nat, kv = .int .i64 k ∧ i ≤ k ∧ k ≤ m ∧ BubDn w wr g n f t s s' m k) (fun kv _ => (intOf kv).toNat)
      case atStart => exact ⟨m, s, rfl, by omega, by omega, H0.out⟩
      case round =>
        obtain ⟨k, s1, rfl, k1, k2, hA⟩ := hrel
        have HA := Lib.hid hA
        clear hA
        by_cases hlt2 : i < k
        · obtain ⟨k, rfl⟩ : ∃ k', k = k' + 1 := ⟨k - 1, by omega⟩
          have hx2 : (i : Int) < (k : Int) + 1 := by omega
          go_wp2_with fail
          refine (swap109 g n c (k + 1) k f t _ _ HA.out.tbl (by omega) (by omega) (by omega)).mono ?_
          rintro e2 w2 ⟨rfl, ht, hc⟩
          have Ht := Lib.hid ht
          have Hc := Lib.hid hc
          clear ht hc
          go_wp2_with fail
          go_roundw
          case rel => exact ⟨k, _, by go_num, by omega, by omega, HA.out.step k2 Ht.out Hc.out⟩
          case measure => simp [intOf]
        · have hx2 : ¬ (i : Int) < (k : Int) := by omega
          go_wp2_with fail
          obtain rfl : k = i := by omega
          refine bodyPost_ret (v := .tuple #[]) (results_no (by rfl) _ _ _) rfl ⟨rfl, s1, HA.out.tbl, ?_, HA.out.chg⟩
          exact HM.out.last (i := k) (by omega) (fun x h1 h2 h3 => HF.out.l x h1 h2 (kl_less.1 h3)) (fun x h1 h2 => kl_less.2 (HF.out.r x h1 h2)) HA.out.at_ (fun x h1 h2 => HA.out.mid x h1 h2) (fun x h1 => HA.out.out x (by omega))
end Go.Proofs.YtcbmankbjgbjgaaGreatFmt
