/-
  Proved: contract of sort.symMerge over the expansion keys, at every length. No statement of the seat stands here.
-/
import Derived.Test.YtcbmankbjgbjgaaGreatFmtSym
namespace Go.Proofs.YtcbmankbjgbjgaaGreatFmt
open Go.RowKit Go.ChangeAt
set_option linter.unusedSimpArgs false
set_option linter.unusedVariables false
set_option maxRecDepth 100000
/-- The symmetric search: below i the left one may stay, from j on it may not. -/
structure SymAt (K : Nat → Int) (s : Nat → Nat) (p u v i j : Nat) : Prop where
  lo : u ≤ i ∧ i ≤ j ∧ j ≤ v
  l : ∀ x, u ≤ x → x < i → ¬ K (s (p - x)) < K (s x)
  r : ∀ x, j ≤ x → x < v → K (s (p - x)) < K (s x)
def Steps (g n : Nat) (f t : Nat → ByteArray) (P : (Nat → Nat) → Prop) (w wx : World) : Prop := ∃ s', Tbl wx g n f t s' ∧ P s' ∧ Chg (fun k => k = g) w wx
theorem lastHalf {K : Nat → Int} {t v : Nat → Nat} {a mid en b : Nat} (hp : ∀ x, x < a ∨ mid ≤ x → v x = t x) (h1 : Stab.Sorted K t mid en) (h2 : Stab.Sorted K t en b) (h3 : ∀ i j, mid ≤ i → i < en → en ≤ j → j < b → t i < t j) (hen : mid ≤ en ∧ en ≤ b) :
    Stab.Sorted K v mid en ∧ Stab.Sorted K v en b ∧ (∀ i j, mid ≤ i → i < en → en ≤ j → j < b → v i < v j) :=
  ⟨h1.congr fun x e1 e2 => hp x (by omega), h2.congr fun x e1 e2 => hp x (by omega), fun i j e1 e2 e3 e4 => by rw [hp i (by omega), hp j (by omega)]; exact h3 i j e1 e2 e3 e4⟩
theorem mrgd_same {K : Nat → Int} {t : Nat → Nat} {a m b : Nat} (h1 : Stab.Sorted K t a m) (h2 : Stab.Sorted K t m b) (h : m ≤ a ∨ b ≤ m) : Stab.Mrgd K t t a b := by
  refine ⟨.refl _ _ _, fun i j e1 e2 e3 => ?_⟩
  rcases h with h | h
  · exact h2 i j (by omega) e2 e3
  · exact h1 i j e1 e2 (by omega)
set_option maxHeartbeats 8000000 in
theorem sym55 (g n c : Nat) (f t : Nat → ByteArray) (L : Nat → Nat) (hS : Star f L) (hn : n ≤ 1048576) : ∀ (d a m b : Nat) (s : Nat → Nat) (w : World), b - a ≤ d → Tbl w g n f t s → Stab.Mrg (KL L) s a m b → b ≤ n →
    Calls Tryz.prog 55 #[.iface 56 (.slice (some ⟨g, 0, none⟩) n c), .int .i64 a, .int .i64 m, .int .i64 b] w (SortOut g n f t (fun s' => Stab.Mrgd (KL L) s s' a b) w) := by
  intro d
  induction d with
  | zero => intro a m b s w h1 _ hM _; have := hM.am; have := hM.mb; omega
  | succ d ih =>
  intro a m b s w hd0 hT hM hb
  have ham := hM.am
  have hmb := hM.mb
  by_cases c1 : m = a + 1
  · subst c1; exact sym55a g n c a b f t L s w hS hT hM hb hn
  by_cases c2 : b = m + 1
  · subst c2; exact sym55b g n c a m f t L s w hS hT hM (by omega) hb hn
  have hl := less56 (some ⟨g, 0, none⟩) n c
  have HT := Lib.hid hT
  have HM := Lib.hid hM
  have HS := Lib.hid hS
  have IH := Lib.hid ih
  have e1 : ((m : Int) - (a : Int) == 1) = false := by simp; omega
  have e2 : ((b : Int) - (m : Int) == 1) = false := by simp; omega
  obtain ⟨mid, em, m1, m2⟩ : ∃ q : Nat, ((a : Int) + (b : Int)) / 2 = (q : Int) ∧ 2 * q ≤ a + b ∧ a + b ≤ 2 * q + 1 := ⟨(a + b) / 2, by omega, by omega, by omega⟩
  have HD := Lib.hid (And.intro hd0 (And.intro m1 m2))
  clear hT hM hS ih hd0 m1 m2
  have main : ∀ lo hi : Nat, ((mid < m ∧ lo = mid + m - b ∧ hi = mid) ∨ (m ≤ mid ∧ lo = a ∧ hi = m)) → Calls Tryz.prog 55 #[.iface 56 (.slice (some ⟨g, 0, none⟩) n c), .int .i64 a, .int .i64 m, .int .i64 b] w (SortOut g n f t (fun s' => Stab.Mrgd (KL L) s s' a b) w) := by
    intro lo hi hlh
    have hm1 := HD.out
    have q1 : a ≤ lo ∧ lo ≤ hi ∧ hi ≤ m := by omega
    have q2 : ∀ x, lo ≤ x → x < hi → m ≤ mid + m - 1 - x ∧ mid + m - 1 - x < b ∧ x ≤ mid + m - 1 := fun x h1 h2 => by omega
    have Q := Lib.hid (And.intro hlh (And.intro q1 q2))
    have ep : (mid : Int) + (m : Int) - 1 = ((mid + m - 1 : Nat) : Int) := by omega
    have hpre : (¬ (mid : Int) < (m : Int) ∧ (lo : Int) = (a : Int) ∧ (hi : Int) = (m : Int)) ∨ ((mid : Int) < (m : Int) ∧ (lo : Int) = (mid : Int) + (m : Int) - (b : Int) ∧ (hi : Int) = (mid : Int)) := by omega
    clear hlh q1 q2 hm1
    have S0 : Hid (SymAt (KL L) s (mid + m - 1) lo hi lo hi) := Lib.hid ⟨by have := Q.out.2.1; omega, fun x h1 h2 => by omega, fun x h1 h2 => by omega⟩
    have HP := Lib.hid hpre
    have EP := Lib.hid ep
    clear hpre ep
    go_enter Tryz.func55, Tryz.ntmps55
    go_upto_if 102 with fail
    go_cut [18, 19] (fun c18 c19 wx => c18 = .int .i64 lo ∧ c19 = .int .i64 hi ∧ w = wx)
    case first =>
      have hm1 := HD.out
      have hp := HP.out
      rcases hp with ⟨h1, h2, h3⟩ | ⟨h1, h2, h3⟩
      · go_wp2_with fail
        go_meet
        case rel => exact ⟨by rw [h2], by rw [h3], rfl⟩
      · go_wp2_with fail
        go_meet
        case rel => exact ⟨by rw [h2], by rw [h3], rfl⟩
    case rest =>
    obtain ⟨rfl, rfl, rfl⟩ := hcut
    have ep := EP.out
    have hq := Q.out.2.1
    have hm1 := HD.out
    go_wp2_with fail
    go_loop [18, 19, 21] (fun iv jv _ => ∃ i j : Nat, iv = .int .i64 i ∧ jv = .int .i64 j ∧ SymAt (KL L) s (mid + m - 1) lo hi i j) (fun iv jv _ => (intOf jv).toNat - (intOf iv).toNat)
    case atStart => exact ⟨lo, hi, rfl, rfl, S0.out⟩
    case round =>
      obtain ⟨i, j, rfl, rfl, hF⟩ := hrel
      have HF := Lib.hid hF
      have hlo := hF.lo
      clear hF
      by_cases hlt : i < j
      · have hx : (i : Int) < (j : Int) := by omega
        obtain ⟨q, eq1, q1, q2⟩ := half_nat i j hlt
        have Q2 := Q.out.2.2 q (by omega) (by omega)
        have epq : ((mid + m - 1 : Nat) : Int) - (q : Int) = ((mid + m - 1 - q : Nat) : Int) := by omega
        go_wp2_with fail
        refine (less108 g n c (mid + m - 1 - q) q f t L s w HS.out HT.out (by omega) (by omega)).mono ?_
        rintro e1 w1 ⟨rfl, rfl⟩
        by_cases hd : L (s q) < L (s (mid + m - 1 - q))
        · rw [decide_eq_true hd]
          have Hd := Lib.hid hd
          clear hd eq1 epq
          go_wp2_with fail
          go_round
          case rel => exact ⟨i, q, rfl, rfl, ⟨by omega, HF.out.l, fun x h1 h2 => by
            by_cases e : x = q
            · subst e; exact kl_less.2 Hd.out
            · have hr := Q.out.2.2 x (by omega) h2
              exact HM.out.right (by omega) (by omega) (kl_less.2 Hd.out) (by omega) hr.1 hr.2.2⟩⟩
          case measure => simp [intOf]; omega
        · rw [decide_eq_false hd]
          have Hd := Lib.hid hd
          clear hd eq1 epq
          go_wp2_with fail
          go_round
          case rel => exact ⟨q + 1, j, by go_num, rfl, ⟨by omega, fun x h1 h2 => by
            by_cases e : x = q
            · subst e; exact fun h => Hd.out (kl_less.1 h)
            · have hr := Q.out.2.2 x h1 (by omega)
              exact HM.out.left (c := q) (by omega) (by omega) (fun h => Hd.out (kl_less.1 h)) (by omega) hr.2.1, HF.out.r⟩⟩
          case measure => simp [intOf]; omega
      · have hx : ¬ (i : Int) < (j : Int) := by omega
        obtain rfl : i = j := by omega
        clear ep
        obtain ⟨en, een, hen⟩ : ∃ en : Nat, (mid : Int) + (m : Int) - (i : Int) = (en : Int) ∧ en + i = mid + m := ⟨mid + m - i, by omega, by omega⟩
        have HEN := Lib.hid hen
        clear hen
        have q1 := Q.out.2.1
        have q0 := Q.out.1
        have m12 := HD.out
        have hen0 := HEN.out
        go_upto_region 39 with fail
        go_cut [140] (fun c wx => c = .bool (decide (i < m ∧ m < en)) ∧ w = wx)
        case first =>
          by_cases c1 : i < m
          · by_cases c2 : m < en
            · have x1 : (i : Int) < (m : Int) := by omega
              have x2 : (m : Int) < (en : Int) := by omega
              go_wp2_with fail
              go_meet
              case rel => exact ⟨congrArg Value.bool (decide_eq_true (And.intro c1 c2)).symm, rfl⟩
            · have x1 : (i : Int) < (m : Int) := by omega
              have x2 : ¬ (m : Int) < (en : Int) := by omega
              go_wp2_with fail
              go_meet
              case rel => exact ⟨congrArg Value.bool (decide_eq_false (fun h => c2 h.2)).symm, rfl⟩
          · have x1 : ¬ (i : Int) < (m : Int) := by omega
            go_wp2_with fail
            go_meet
            case rel => exact ⟨congrArg Value.bool (decide_eq_false (fun h => c1 h.1)).symm, rfl⟩
        case rest =>
        obtain ⟨rfl, rfl⟩ := hcut
        clear een
        go_upto_if 140 with fail
        go_cut [] (fun wx => Steps g n f t (fun s' => Stab.Rot s s' i m en) w wx)
        case first =>
          by_cases c1 : i < m ∧ m < en
          · rw [decide_eq_true c1]
            go_wp2_with fail
            refine (rot64 g n c i m en f t s w HT.out c1.1 c1.2 (by omega) hn).mono ?_
            rintro e2 w2 ⟨rfl, t1, ht, hr, hc⟩
            have Hr := Lib.hid (And.intro ht (And.intro hr hc))
            clear ht hr hc
            go_wp2_with fail
            go_meet
            case rel => exact ⟨t1, Hr.out.1, Hr.out.2.1, Hr.out.2.2⟩
          · rw [decide_eq_false c1]
            go_wp2_with fail
            go_meet
            case rel => exact ⟨s, HT.out, ⟨fun x h1 h2 => by congr 1; omega, fun x h1 h2 => by congr 1; omega, fun _ _ => rfl⟩, .refl _ _⟩
        case rest =>
        obtain ⟨t1, T1, R1, C1⟩ := hcut
        rename World => wa
        have hal := HM.out.halves (mid := mid) (start := i) (en := en) (by omega) (by omega) (by omega) (by omega) (by omega) (by omega)
          (fun x h1 h2 h3 h4 => HF.out.l x (by omega) h2) (fun x h1 h2 h3 h4 h5 => HF.out.r x h1 (by omega)) R1
        have HA := Lib.hid (And.intro T1 (And.intro C1 hal))
        clear T1 R1 C1 hal
        go_upto_region 41 with fail
        go_cut [153] (fun c wx => c = .bool (decide (a < i ∧ i < mid)) ∧ wa = wx)
        case first =>
          by_cases c1 : a < i
          · by_cases c2 : i < mid
            · have x1 : (a : Int) < (i : Int) := by omega
              have x2 : (i : Int) < (mid : Int) := by omega
              go_wp2_with fail
              go_meet
              case rel => exact ⟨congrArg Value.bool (decide_eq_true (And.intro c1 c2)).symm, rfl⟩
            · have x1 : (a : Int) < (i : Int) := by omega
              have x2 : ¬ (i : Int) < (mid : Int) := by omega
              go_wp2_with fail
              go_meet
              case rel => exact ⟨congrArg Value.bool (decide_eq_false (fun h => c2 h.2)).symm, rfl⟩
          · have x1 : ¬ (a : Int) < (i : Int) := by omega
            go_wp2_with fail
            go_meet
            case rel => exact ⟨congrArg Value.bool (decide_eq_false (fun h => c1 h.1)).symm, rfl⟩
        case rest =>
        obtain ⟨rfl, rfl⟩ := hcut
        go_upto_if 153 with fail
        go_cut [] (fun wx => Steps g n f t (fun s' => Stab.Mrgd (KL L) t1 s' a mid) wa wx)
        case first =>
          by_cases c1 : a < i ∧ i < mid
          · rw [decide_eq_true c1]
            go_wp2_with fail
            have hh := HA.out.2.2.2.1
            refine (IH.out a i mid t1 wa (by omega) HA.out.1 ⟨c1.1, c1.2, hh.1, hh.2.1, hh.2.2⟩ (by omega)).mono ?_
            rintro e2 w2 ⟨rfl, t2, ht, hr, hc⟩
            have Hr := Lib.hid (And.intro ht (And.intro hr hc))
            clear ht hr hc hh
            go_wp2_with fail
            go_meet
            case rel => exact ⟨t2, Hr.out.1, Hr.out.2.1, Hr.out.2.2⟩
          · rw [decide_eq_false c1]
            go_wp2_with fail
            go_meet
            case rel =>
              have hh := HA.out.2.2.2.1
              exact ⟨t1, HA.out.1, mrgd_same hh.1 hh.2.1 (by omega), .refl _ _⟩
        case rest =>
        obtain ⟨t2, T2, R2, C2⟩ := hcut
        rename World => wb
        have hlast := lastHalf (fun x hx => R2.1.out x hx) HA.out.2.2.2.2.1.1 HA.out.2.2.2.2.1.2.1 HA.out.2.2.2.2.1.2.2 (by omega)
        have HB := Lib.hid (And.intro T2 (And.intro C2 (And.intro R2 hlast)))
        clear T2 R2 C2 hlast
        go_upto_region 43 with fail
        go_cut [166] (fun c wx => c = .bool (decide (mid < en ∧ en < b)) ∧ wb = wx)
        case first =>
          by_cases c1 : mid < en
          · by_cases c2 : en < b
            · have x1 : (mid : Int) < (en : Int) := by omega
              have x2 : (en : Int) < (b : Int) := by omega
              go_wp2_with fail
              go_meet
              case rel => exact ⟨congrArg Value.bool (decide_eq_true (And.intro c1 c2)).symm, rfl⟩
            · have x1 : (mid : Int) < (en : Int) := by omega
              have x2 : ¬ (en : Int) < (b : Int) := by omega
              go_wp2_with fail
              go_meet
              case rel => exact ⟨congrArg Value.bool (decide_eq_false (fun h => c2 h.2)).symm, rfl⟩
          · have x1 : ¬ (mid : Int) < (en : Int) := by omega
            go_wp2_with fail
            go_meet
            case rel => exact ⟨congrArg Value.bool (decide_eq_false (fun h => c1 h.1)).symm, rfl⟩
        case rest =>
        obtain ⟨rfl, rfl⟩ := hcut
        by_cases c1 : mid < en ∧ en < b
        · rw [decide_eq_true c1]
          go_wp2_with fail
          have hh := HB.out.2.2.2
          refine (IH.out mid en b t2 wb (by omega) HB.out.1 ⟨c1.1, c1.2, hh.1, hh.2.1, hh.2.2⟩ (by omega)).mono ?_
          rintro e2 w2 ⟨rfl, t3, ht, hr, hc⟩
          have FIN : Hid (Stab.Mrgd (KL L) s t3 a b) := Lib.hid (Stab.join_halves (by omega) HA.out.2.2.1 HA.out.2.2.2.2.2 ⟨t2, HB.out.2.2.1, hr⟩)
          have FC : Hid (Chg (fun x => x = g) w w2) := Lib.hid ((HA.out.2.1.trans HB.out.2.1 (fun _ _ h => h)).trans hc (fun _ _ h => h))
          have FT := Lib.hid ht
          clear ht hr hc hh
          go_wp2_with fail
          exact bodyPost_end (v := .tuple #[]) (results_no (by rfl) _ _ _) rfl ⟨rfl, t3, FT.out, FIN.out, FC.out⟩
        · rw [decide_eq_false c1]
          have hh := HB.out.2.2.2
          have FIN : Hid (Stab.Mrgd (KL L) s t2 a b) := Lib.hid (Stab.join_halves (by omega) HA.out.2.2.1 HA.out.2.2.2.2.2 ⟨t2, HB.out.2.2.1, mrgd_same hh.1 hh.2.1 (by omega)⟩)
          have FC : Hid (Chg (fun x => x = g) w wb) := Lib.hid (HA.out.2.1.trans HB.out.2.1 (fun _ _ h => h))
          clear hh
          go_wp2_with fail
          exact bodyPost_end (v := .tuple #[]) (results_no (by rfl) _ _ _) rfl ⟨rfl, t2, HB.out.1, FIN.out, FC.out⟩
  by_cases hc : mid < m
  · exact main _ _ (.inl ⟨hc, rfl, rfl⟩)
  · exact main _ _ (.inr ⟨by omega, rfl, rfl⟩)
end Go.Proofs.YtcbmankbjgbjgaaGreatFmt
