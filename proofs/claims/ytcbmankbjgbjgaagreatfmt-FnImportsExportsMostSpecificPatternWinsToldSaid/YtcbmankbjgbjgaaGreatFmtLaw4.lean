/-
  Proved: the walk of FnImportsExportsExactKeysFirstMatch. No statement of the seat stands here.
-/
import Derived.Test.YtcbmankbjgbjgaaGreatFmtHelp4
import Derived.Test.YtcbmankbjgbjgaaGreatFmtLaw3
namespace Go.Proofs.YtcbmankbjgbjgaaGreatFmt
open Go.RowKit Go.ChangeAt
open Go.Extern.Stop Go.Stop Go.Extern
set_option linter.unusedSimpArgs false
set_option linter.unusedVariables false
set_option maxRecDepth 100000
/-- The answer of the resolver at exact keys. -/
def Hit (n : Nat) (f g : Nat → ByteArray) (s r : ByteArray) (st : Int) : Prop :=
  (∃ i, i < n ∧ f i = s ∧ (∀ j, j < i → f j ≠ s) ∧ Ans (g i) r st) ∨ ((∀ i, i < n → f i ≠ s) ∧ r = ⟨#[]⟩ ∧ st = 2)
def HitOut (n : Nat) (f g : Nat → ByteArray) (s : ByteArray) (w : World) (e : Ending) (w' : World) : Prop :=
  (∃ r st, Hit n f g s r st ∧ e = .returned (.tuple #[.string r, .int .u8 st])) ∧ Chg Nowhere w w'
set_option maxHeartbeats 8000000 in
theorem zim17 (F : Interp) (a b d : Option Addr) (n c c2 c3 : Nat) (f g tt : Nat → ByteArray) (s : ByteArray) (bi : Bool) (w : World) (hA : F.answers w.tape) (hg : ∀ i, i < n → File (g i)) (hne : ∀ i, i < n → ¬ Exp (f i)) (hR : Reads w a n (strAt f)) (hT : Reads w b n (strAt tt)) (hD : Reads w d n noAt) (ht : ∀ i, i < n → tt i = dotted (g i)) (hs : s.size ≤ 1048576) (hn : n ≤ 1048576) :
    Calls Tryz.prog 17 #[.string s, .slice a n c, .slice b n c2, .slice d n c3, .string ⟨#[47, 112, 107, 103]⟩, .bool bi] w (HitOut n f g s w) := by
  have HA := Lib.hid hA
  have Hg := Lib.hid hg
  have Hne := Lib.hid hne
  have Ht := Lib.hid ht
  have HR := Lib.hid hR
  have HT := Lib.hid hT
  have HD := Lib.hid hD
  clear hA hg ht hne hR hT hD
  go_enter Tryz.func17, Tryz.ntmps17
  go_wp2_with fail
  refine (obj23 a b d n c c2 c3 f tt w HR.out HT.out HD.out hn).mono ?_
  rintro e1 w1 ⟨ma, mc, ea, ec, rfl, hI, hc1⟩
  have Hc1 := Lib.hid hc1
  have HI := Lib.hid hI
  clear hc1 hI
  unfold oent
  go_wp2_with fail
  refine (iex25 F ma n mc ea ec f g tt bi s (.map none) w1 (by rw [Hc1.out.tape]; exact HA.out) HI.out Ht.out Hg.out Hne.out hn hs).mono ?_
  rintro e2 w2 ⟨hv, hc2⟩
  have Hc2 := Lib.hid (Hc1.out.trans hc2 (fun _ _ h => h))
  clear hc2
  have hv2 : ∃ r st t, Hit n f g s r st ∧ e2 = .returned (.tuple #[.string r, .int .u8 st, .agg (dbg t)]) := by
    rcases hv with ⟨i, hi, h1, h2, r, st, t, h3, h4⟩ | ⟨h1, t, h2⟩
    · exact ⟨r, st, t, .inl ⟨i, hi, h1, h2, h3⟩, h4⟩
    · exact ⟨_, _, t, .inr ⟨h1, rfl, rfl⟩, h2⟩
  obtain ⟨r, st, t2, hh, rfl⟩ := hv2
  have HH := Lib.hid hh
  clear hv hh
  unfold dbg
  go_wp2_with fail
  refine bodyPost_ret (v := .tuple #[.string r, .int .u8 st]) ?_ rfl ⟨⟨r, st, HH.out, rfl⟩, Hc2.out.alloc _⟩
  exact (results_tmp2' (by rfl) _ _ _).trans (by rfl)
theorem Small.shorts {f : Nat → ByteArray} {n : Nat} (h : Small f n) : ∀ i, i < n → (f i).size ≤ 1048576 := h.short
set_option maxHeartbeats 16000000 in
theorem law4 (F : Interp) (s : ByteArray) (a b : Option Addr) (n c m d : Nat) (f g : Nat → ByteArray) (bi : Bool) (w : World) (hA : F.answers w.tape) (hF : Reads w a n (strAt f)) (hG : Reads w b m (strAt g)) (na : a = none → n = 0 ∧ c = 0) (nb : b = none → m = 0 ∧ d = 0) :
    Calls Tryz.prog 4 #[.string s, .slice a n c, .slice b m d, .bool bi] w (TrueOut w) := by
  have HA := Lib.hid hA
  have HF := Lib.hid hF
  have HG := Lib.hid hG
  have Na := Lib.hid na
  have Nb := Lib.hid nb
  clear hA hF hG na nb
  go_enter Tryz.func4, Tryz.ntmps4
  go_wp2_with fail
  refine (zb12 s (.bool bi) a b n c m d f g w HF.out HG.out).mono ?_
  rintro e1 w1 ⟨r, rfl, rfl, hr⟩
  cases r
  · clear hr
    go_wp2_with fail
    go_ret
    exact ⟨rfl, Chg.refl _ _⟩
  obtain ⟨hs, hf, hg⟩ := hr rfl
  clear hr
  have Hf := Lib.hid hf
  have Hg := Lib.hid hg
  have hn := hf.few
  have hm := hg.few
  clear hf hg
  go_wp2_with fail
  refine (sum13 a n c f w HF.out Hf.out).mono ?_
  rintro e2 w2 ⟨y1, hy1, hy2, rfl, rfl⟩
  by_cases ht1 : 1048576 < y1
  · go_wp2_with fail
    go_ret
    exact ⟨rfl, Chg.refl _ _⟩
  go_wp2_with fail
  refine (sum13 b m d g w HG.out Hg.out).mono ?_
  rintro e3 w3 ⟨y2, hy3, hy4, rfl, rfl⟩
  by_cases ht2 : 1048576 < y2
  · go_wp2_with fail
    go_ret
    exact ⟨rfl, Chg.refl _ _⟩
  go_wp2_with fail
  refine (sum13 a n c f w HF.out Hf.out).mono ?_
  rintro e2 w2 ⟨y3, hy5, hy6, rfl, rfl⟩
  go_wp2_with fail
  refine (sum13 b m d g w HG.out Hg.out).mono ?_
  rintro e3 w3 ⟨y4, hy7, hy8, rfl, rfl⟩
  by_cases ht3 : 1048576 < (s.size : Int) + 2 * y3 + 3 * y4
  · go_wp2_with fail
    go_ret
    exact ⟨rfl, Chg.refl _ _⟩
  by_cases hnm : n = m
  case neg =>
    have e0 : ((n : Int) != (m : Int)) = true := by simp; omega
    clear hnm
    go_wp2_with fail
    go_ret
    exact ⟨rfl, Chg.refl _ _⟩
  subst hnm
  go_wp2_with fail
  refine (dot14 a n c f w HF.out Hf.out).mono ?_
  rintro e4 w4 ⟨r4, rfl, hc4⟩
  have Hc4 := Lib.hid hc4
  clear hc4
  cases r4
  · go_wp2_with fail
    go_ret
    exact ⟨rfl, Hc4.out⟩
  go_wp2_with fail
  clear ht1 ht2 ht3 hy1 hy2 hy3 hy4 hy5 hy6 hy7 hy8
  go_loop [9] (fun i => ∃ k : Nat, k ≤ n ∧ i = .int .i64 k ∧ ∀ j, j < k → ¬ Exp (f j) ∧ File (g j)) (fun i => n - (intOf i).toNat)
  case atStart => exact ⟨0, by omega, rfl, fun j hj => by omega⟩
  case round =>
    obtain ⟨k, hk, rfl, hall⟩ := hrel
    have Hall := Lib.hid hall
    clear hall
    by_cases hlt : k < n
    · rcases HF.out with h1 | ⟨g1, o1, rfl, hR1⟩
      · omega
      rcases HG.out with h1 | ⟨g2, o2, rfl, hR2⟩
      · omega
      have hc1 := Hc4.out.cell (hR1 k hlt) (fun h => h)
      have hc2 := Hc4.out.cell (hR2 k hlt) (fun h => h)
      have hz1 := Hf.out.short k hlt
      have hz2 := Hg.out.short k hlt
      clear hR1 hR2
      unfold strAt at hc1 hc2
      have hx : (k : Int) < (n : Int) := by omega
      have hx1 : (0 : Int) ≤ (k : Int) := by omega
      go_wp2_with fail
      refine (exp15 (f k) w4 hz1).mono ?_
      rintro e5 w5 ⟨r5, rfl, rfl, h1, h2⟩
      cases r5
      case true =>
        clear h1 h2
        go_wp2_with fail
        go_ret
        exact ⟨rfl, Hc4.out⟩
      have Hne := Lib.hid (h2 rfl)
      clear h1 h2
      by_cases hg0 : g k = ⟨#[]⟩
      · have e0 := lit_eq hg0
        clear hg0
        go_wp2_with fail
        go_ret
        exact ⟨rfl, Hc4.out⟩
      have e0 := lit_ne hg0
      have Hg0 := Lib.hid hg0
      clear hg0
      go_wp2_with fail
      refine (hasSep7 (g k) w4 hz2).mono ?_
      rintro e6 w6 ⟨r6, rfl, rfl, h1⟩
      cases r6
      case true =>
        clear h1
        go_wp2_with fail
        go_ret
        exact ⟨rfl, Hc4.out⟩
      have Hfile : Hid (File (g k)) := Lib.hid ⟨h1 (by trivial), Hg0.out, hz2⟩
      clear h1
      go_wp2_with fail
      go_round
      case rel => exact ⟨k + 1, by omega, by go_num, fun j hj => by
        by_cases e : j = k
        · subst e; exact ⟨Hne.out, Hfile.out⟩
        · exact Hall.out j (by omega)⟩
      case measure => simp [intOf]; omega
    · have hx : ¬ (k : Int) < (n : Int) := by omega
      obtain rfl : k = n := by omega
      clear hlt hk
      go_wp2_with fail
      refine (clone16 a k c f w4 (HF.out.kept Hc4.out (fun _ _ _ h => h)) Na.out hn).mono ?_
      rintro e5 w5 ⟨a5, c5, rfl, hR5, hc5⟩
      have HR5 := Lib.hid hR5
      have Hc5 := Lib.hid (Hc4.out.trans hc5 (fun _ _ h => h))
      clear hR5 hc5
      go_wp2_with fail
      refine (clone16 b k d g w5 (HG.out.kept Hc5.out (fun _ _ _ h => h)) Nb.out hn).mono ?_
      rintro e6 w6 ⟨a6, c6, rfl, hR6, hc6⟩
      have HR6 := Lib.hid hR6
      have HR5b := Lib.hid (HR5.out.kept hc6 (fun _ _ _ h => h))
      have Hc6 := Lib.hid (Hc5.out.trans hc6 (fun _ _ h => h))
      clear hR6 hc6
      obtain ⟨i0, hi, hz0, hz1, hz2⟩ := info_parts info9
      have hmk := run_make_one (P := Tryz.prog) 24 9 i0 _ Tryz.underlying24 hi hz0 hz1 rfl 16 hz2 k (by omega) (by omega) w6
      clear hi hz0 hz1 hz2
      go_wp2_with fail
      clear hmk
      go_loopw [11] (fun i wr => ∃ q : Nat, q ≤ k ∧ i = .int .i64 q ∧ Made w6 wr 9 k q (strAt fun j => dotted (g j))) (fun i _ => k - (intOf i).toNat)
      case atStart => exact ⟨0, by omega, rfl, Made.start w6 9 _ k _⟩
      case round =>
        obtain ⟨q, hq, rfl, hmd⟩ := hrel
        by_cases hlt2 : q < k
        · rcases HR6.out with h0 | ⟨g2, o2, hx6, hR⟩
          · omega
          subst hx6
          have hch : Chg Nowhere w6 wr := hmd.1
          have hc2 := hch.cell (hR q hlt2) (fun h => h)
          obtain ⟨v, hv⟩ := hmd.cell q hlt2
          have hfz := hmd.frozen q
          have hl := hmd.lt
          have Hm := Lib.hid hmd
          have hz2 := Hg.out.short q hlt2
          clear hR hmd hch
          unfold strAt at hc2
          have hx1 : (q : Int) < (k : Int) := by omega
          have hx0 : (0 : Int) ≤ (q : Int) := by omega
          go_wp2_with fail
          go_roundw
          case rel => exact ⟨q + 1, by omega, by go_num, Hm.out.step hlt2⟩
          case measure => simp [intOf]; omega
        · obtain rfl : q = k := by omega
          have hx2 : ¬ (q : Int) < (q : Int) := by omega
          have HT := Lib.hid hmd.reads
          have Hc7 := Lib.hid (Hc6.out.trans hmd.1 (fun _ _ h => h))
          have HR5c := Lib.hid (HR5b.out.kept hmd.1 (fun _ _ _ h => h))
          have HR6c := Lib.hid (HR6.out.kept hmd.1 (fun _ _ _ h => h))
          clear hmd
          go_wp2_with fail
          refine (flags9 a5 q c5 f wr HR5c.out hn Hf.out.shorts (fun i hi => (Hall.out i hi).1)).mono ?_
          rintro e8 w8 ⟨a8, c8, rfl, hR8, hc8⟩
          have HR8 := Lib.hid hR8
          have Hc8 := Lib.hid (Hc7.out.trans hc8 (fun _ _ h => h))
          have HR5d := Lib.hid (HR5c.out.kept hc8 (fun _ _ _ h => h))
          have HR6d := Lib.hid (HR6c.out.kept hc8 (fun _ _ _ h => h))
          have HTd := Lib.hid (HT.out.kept hc8 (fun _ _ _ h => h))
          clear hR8 hc8
          go_wp2_with fail
          refine (zim17 F a5 (some ⟨w6.heap.size, 0, none⟩) (some a8) q c5 q c8 f g (fun j => dotted (g j)) s bi w8 (by rw [Hc8.out.tape]; exact HA.out) (fun i hi => (Hall.out i hi).2) (fun i hi => (Hall.out i hi).1) HR5d.out HTd.out HR8.out (fun i hi => rfl) hs hn).mono ?_
          rintro e9 w9 ⟨⟨r, st, hh, rfl⟩, hc9⟩
          have HH := Lib.hid hh
          have Hc9 := Lib.hid (Hc8.out.trans hc9 (fun _ _ h => h))
          have HR5e := Lib.hid (HR5d.out.kept hc9 (fun _ _ _ h => h))
          have HR6e := Lib.hid (HR6d.out.kept hc9 (fun _ _ _ h => h))
          clear hh hc9
          go_wp2_with fail
          go_loop [14] (fun i => ∃ k : Nat, k ≤ q ∧ i = .int .i64 k ∧ ∀ j, j < k → f j ≠ s) (fun i => q - (intOf i).toNat)
          case atStart => exact ⟨0, by omega, rfl, fun j hj => by omega⟩
          case round =>
            obtain ⟨k, hk, rfl, hno⟩ := hrel
            have Hno := Lib.hid hno
            clear hno
            have hse : ∀ x : ByteArray, (x.toList == x.toList) = true := fun x => by simp
            by_cases hlt : k < q
            · rcases HR5e.out with h1 | ⟨g1, o1, hx5, hR1⟩
              · omega
              subst hx5
              rcases HR6e.out with h1 | ⟨g2, o2, hx6, hR2⟩
              · omega
              subst hx6
              have hc1 := hR1 k hlt
              have hc2 := hR2 k hlt
              clear hR1 hR2
              unfold strAt at hc1 hc2
              have hx : (k : Int) < (q : Int) := by omega
              have hx1 : (0 : Int) ≤ (k : Int) := by omega
              have hz2 := Hg.out.short k hlt
              by_cases heq : f k = s
              · have ha : Ans (g k) r st := by
                  rcases HH.out with ⟨i, hi, h1, h2, h3⟩ | ⟨h1, _, _⟩
                  · by_cases e : i = k
                    · subst e; exact h3
                    · by_cases e2 : i < k
                      · exact absurd h1 (Hno.out i e2)
                      · exact absurd heq (h2 k (by omega))
                  · exact absurd heq (h1 k hlt)
                have e1 : ((f k).toList == s.toList) = true := by rw [heq]; exact hse s
                clear heq
                go_wp2_with fail
                refine (bad11 (g k) _).mono ?_
                rintro e10 w10 ⟨rb, rfl, rfl, hb1, hb2⟩
                cases rb
                · obtain ⟨rfl, rfl⟩ := ha.2 (hb2 (by trivial))
                  clear ha hb1 hb2
                  have hse2 := hse (⟨#[47, 112, 107, 103, 47]⟩ ++ g k)
                  clear hse
                  go_wp2_with fail
                  go_ret
                  exact ⟨rfl, Hc9.out⟩
                · obtain ⟨rfl, rfl⟩ := ha.1 (hb1 (by trivial))
                  clear ha hb1 hb2
                  have hse2 := hse (⟨#[46, 47]⟩ ++ g k)
                  clear hse
                  unfold dotted
                  go_wp2_with fail
                  go_ret
                  exact ⟨rfl, Hc9.out⟩
              · have e1 : ((f k).toList == s.toList) = false := by
                  refine beq_eq_false_iff_ne.2 fun e => heq ?_
                  rw [ByteArray.toList_eq, ByteArray.toList_eq] at e
                  exact WideShapes.bytes_inj e
                have Heq := Lib.hid heq
                clear heq hse
                go_wp2_with fail
                go_round
                case rel => exact ⟨k + 1, by omega, by go_num, fun j hj => by
                  by_cases e : j = k
                  · subst e; exact Heq.out
                  · exact Hno.out j (by omega)⟩
                case measure => simp [intOf]; omega
            · have hx : ¬ (k : Int) < (q : Int) := by omega
              have hmiss : r = ⟨#[]⟩ ∧ st = 2 := by
                rcases HH.out with ⟨i, hi, h1, h2, h3⟩ | ⟨_, h1, h2⟩
                · exact absurd h1 (Hno.out i (by omega))
                · exact ⟨h1, h2⟩
              obtain ⟨rfl, rfl⟩ := hmiss
              clear hse
              go_wp2_with fail
              go_ret
              exact ⟨rfl, Hc9.out⟩
end Go.Proofs.YtcbmankbjgbjgaaGreatFmt
