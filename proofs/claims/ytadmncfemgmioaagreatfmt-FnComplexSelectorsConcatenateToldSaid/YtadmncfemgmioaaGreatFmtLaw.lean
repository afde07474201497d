/-
  Proved: the walk of FnComplexSelectorsConcatenate: it answers true. The frame and the card stand in a later text.
-/
import Derived.Test.YtadmncfemgmioaaGreatFmtBoth
namespace Go.Proofs.YtadmncfemgmioaaGreatFmt
open Go.RowKit Go.ChangeAt
set_option linter.unusedSimpArgs false
set_option linter.unusedVariables false
set_option maxRecDepth 100000
def TrueOut (w : World) (e : Ending) (w' : World) : Prop := e = .returned (.bool true) ∧ Chg Nowhere w w'
theorem sep_bound (m : Bool) (lay ind : Int) (q : Nat) (h : m = true ∨ lay ≠ 0 ∨ q * ind.toNat ≤ 262144) : q * (sepT m lay ind).length ≤ 2 * q + 524288 := by
  unfold sepT
  by_cases hm : m = true
  · subst hm
    simp
    omega
  · rw [if_neg hm]
    by_cases hl : lay = 0
    · rw [if_pos hl]
      have hq : q * ind.toNat ≤ 262144 := by
        rcases h with h | h | h
        · exact absurd h hm
        · exact absurd hl h
        · exact h
      rw [List.length_append, spaces_length]
      have e : q * (([44, 10] : List UInt8).length + 2 * ind.toNat) = q * 2 + 2 * (q * ind.toNat) := by
        simp only [List.length_cons, List.length_nil]
        rw [Nat.mul_add, Nat.mul_left_comm]
      rw [e]
      omega
    · rw [if_neg hl]
      simp
      omega
theorem total_bound (m : Bool) (lay ind : Int) (X : Nat → List UInt8) (n q k : Nat) (hk : k ≤ n) (hn : n ≤ q) (hq : q ≤ 262144) (hs : q * (sepT m lay ind).length ≤ 2 * q + 524288) (hx : sumL X n ≤ 1048576) : (selsTo (sepT m lay ind) m X k).length ≤ 8000000 := by
  have h1 := selsTo_length (sepT m lay ind) m X k
  have h2 : k * (sepT m lay ind).length ≤ q * (sepT m lay ind).length := Nat.mul_le_mul_right _ (by omega)
  have h3 := sumL_mono X hk
  omega
theorem info27' : (Tryz.prog.info? 27).map (fun i => (i.zero, i.size, i.bytes)) = some (some (.slice none 0 0), 1, 24) := info27
theorem oneSlice (v : Value) (w : World) (q : Nat) (hq : q = w.heap.size) : ∀ a, (some ⟨q, 0, none⟩ : Option Addr) = some a → ∀ j u, ([v])[j]? = some u → (w.alloc (.cells #[v] 27)).cell? (a.add j) = some u :=
  fun a ha j u hu => cells_new w #[v] 27 a (hq ▸ ha) j u hu
set_option maxHeartbeats 8000000 in
theorem law_m (a a2 : Option Addr) (n c n2 c2 : Nat) (X Y : Nat → List UInt8) (ca cb : Nat → Option Addr) (cc cd : Nat → Nat) (lay : Int) (ind : Int) (hi0 : -2147483648 ≤ ind) (w : World) (hX : Nested w a n X ca cc) (hY : Nested w a2 n2 Y cb cd) :
    Calls Tryz.prog 3 #[.bool true, .slice a n c, .slice a2 n2 c2, .int .i32 ind, .int .u8 lay] w (TrueOut w) := by
  have HX := Lib.hid hX
  have HY := Lib.hid hY
  clear hX hY
  go_enter Tryz.func3, Tryz.ntmps3
  go_wp2_with fail
  refine (zz4 _ _ _ a a2 n c n2 c2 X Y ca cb cc cd w HX.out HY.out).mono ?_
  rintro ex w1 ⟨r, rfl, rfl, hb⟩
  cases r
  · go_wp2_with fail
    go_ret
    exact ⟨rfl, Chg.refl _ _⟩
  replace hb := hb rfl
  by_cases hn1 : n ≤ 131072
  rotate_left
  · have x1 : (131072 : Int) < (n : Int) := by omega
    go_wp2_with fail
    go_ret
    exact ⟨rfl, Chg.refl _ _⟩
  have x1 : ¬ (131072 : Int) < (n : Int) := by omega
  by_cases hn2 : n2 ≤ 131072
  rotate_left
  · have x2 : (131072 : Int) < (n2 : Int) := by omega
    go_wp2_with fail
    go_ret
    exact ⟨rfl, Chg.refl _ _⟩
  have x2 : ¬ (131072 : Int) < (n2 : Int) := by omega
  go_wp2_with fail
  refine (sum5 a n c X ca cc w HX.out (by omega)).mono ?_
  rintro ex w1 ⟨rfl, rfl⟩
  go_wp2_with fail
  refine (sum5 a2 n2 c2 Y cb cd w HY.out (by omega)).mono ?_
  rintro ex w1 ⟨rfl, rfl⟩
  by_cases hs5 : 24 * n + sumL X n + (24 * n2 + sumL Y n2) ≤ 1048576
  rotate_left
  · have x3 : (1048576 : Int) < 24 * (n : Int) + (sumL X n : Int) + (24 * (n2 : Int) + (sumL Y n2 : Int)) := by omega
    go_wp2_with fail
    go_ret
    exact ⟨rfl, Chg.refl _ _⟩
  have x3 : ¬ (1048576 : Int) < 24 * (n : Int) + (sumL X n : Int) + (24 * (n2 : Int) + (sumL Y n2 : Int)) := by omega
  by_cases hi1 : ind ≤ 65536
  rotate_left
  · have x4 : (65536 : Int) < ind := by omega
    go_wp2_with fail
    go_ret
    exact ⟨rfl, Chg.refl _ _⟩
  have x4 : ¬ (65536 : Int) < ind := by omega
  by_cases hz1 : n = 0
  · have x6 : ((n : Int) == 0) = true := beq_iff_eq.2 (by omega)
    go_wp2_with fail
    all_goals (go_ret; exact ⟨rfl, Chg.refl _ _⟩)
  have x6 : ((n : Int) == 0) = false := beq_eq_false_iff_ne.2 (by omega)
  by_cases hz2 : n2 = 0
  · have x7 : ((n2 : Int) == 0) = true := beq_iff_eq.2 (by omega)
    go_wp2_with fail
    all_goals (go_ret; exact ⟨rfl, Chg.refl _ _⟩)
  have x7 : ((n2 : Int) == 0) = false := beq_eq_false_iff_ne.2 (by omega)
  have hsb := sep_bound true lay ind (n + n2) (.inl rfl)
  have hlx : ∀ i, i < n → (X i).length ≤ 1048576 := fun i hi => by have := sumL_get X hi; omega
  have hly : ∀ i, i < n2 → (Y i).length ≤ 1048576 := fun i hi => by have := sumL_get Y hi; omega
  have htx : ∀ k, k ≤ n → (selsTo (sepT true lay ind) true X k).length ≤ 8000000 := fun k hk => total_bound true lay ind X n (n + n2) k hk (by omega) (by omega) hsb (by omega)
  have hty : ∀ k, k ≤ n2 → (selsTo (sepT true lay ind) true Y k).length ≤ 8000000 := fun k hk => total_bound true lay ind Y n2 (n + n2) k hk (by omega) (by omega) hsb (by omega)
  have htz : ∀ k, k ≤ n + n2 → (selsTo (sepT true lay ind) true (join n X Y) k).length ≤ 8000000 := fun k hk => total_bound true lay ind (join n X Y) (n + n2) (n + n2) k hk (by omega) (by omega) hsb (by rw [sumL_join]; omega)
  have hlz : ∀ i, i < n + n2 → (join n X Y i).length ≤ 1048576 := fun i hi => by have := sumL_get (join n X Y) hi; rw [sumL_join] at this; omega
  have hjoin := selsTo_join (sepT true lay ind) true X Y (show 0 < n by omega) n2
  rw [if_neg hz2] at hjoin
  have Hlx := Lib.hid hlx
  have Hly := Lib.hid hly
  have Htx := Lib.hid htx
  have Hty := Lib.hid hty
  have Htz := Lib.hid htz
  have Hlz := Lib.hid hlz
  have Hjoin := Lib.hid hjoin
  clear hlx hly htx hty htz hlz hjoin hsb
  have Hnz := Lib.hid hz1
  clear hz1 hz2
  go_wp2_with fail
  refine (nest7 a n c X ca cc w HX.out (by omega) Hlx.out).mono ?_
  rintro ex w1 ⟨ax, cx, cax, ccx, rfl, hN1, hc1⟩
  have HN1 := Lib.hid hN1
  have Hc1 := Lib.hid hc1
  clear hN1 hc1
  go_wp2_with fail
  refine (nest7 a2 n2 c2 Y cb cd w1 (HY.out.kept Hc1.out) (by omega) Hly.out).mono ?_
  rintro ex w2 ⟨ay, cy, cay, ccy, rfl, hN2, hc2⟩
  have HN2 := Lib.hid hN2
  have Hc2 := Lib.hid hc2
  clear hN2 hc2
  have hmk : (Instr.makeSlice 22 (.int .i64 0) (.int .i64 ((n : Int) + (n2 : Int)))).run Tryz.prog w2 = .ok (.slice (some ⟨w2.heap.size, 0, none⟩) 0 (n + n2)) (w2.alloc (.cells (madeCells #[.slice none 0 0] (n + n2)) 27)) := by
    rw [show ((n : Int) + (n2 : Int)) = ((n + n2 : Nat) : Int) by omega]
    exact make22 0 (n + n2) (by omega) (by omega) w2
  obtain ⟨j0, ji, jz0, jz1, jz2⟩ := info_parts info27
  obtain ⟨i0, hi, hz0, hz1, hz2⟩ := info_parts info5
  have hs2 := Hc2.out.size
  go_wp2_with fail
  clear hmk
  go_loopw [11, 12] (fun s i wr => ∃ k : Nat, ∃ vo vc xs, k ≤ n ∧ i = .int .i64 k ∧ s = .slice vo k vc ∧ BothAt w2 wr vo vc k (join n X Y) xs) (fun _ i _ => n - (intOf i).toNat)
  case atStart => exact ⟨0, _, _, [], by omega, rfl, rfl, BothAt.start w2 (n + n2) (by omega) _⟩
  case round =>
    obtain ⟨k, vo, vc, xs, hk, rfl, rfl, hbo⟩ := hrel
    have Hbo := Lib.hid hbo
    have hso := hbo.chg.size
    clear hbo
    by_cases hlt : k < n
    · rcases HN1.out.row with h0 | ⟨g, o, rfl, hR1⟩
      · omega
      have hcw := Hc2.out.trans Hbo.out.chg (fun _ _ h => h)
      have hcell := hcw.cell (hR1 k hlt) (fun h => h)
      have hre := (HN1.out.each k hlt).kept hcw (fun _ _ _ h => h)
      have Hre := Lib.hid hre
      clear hR1 hcw hre
      have y1 : (k : Int) < (n : Int) := by omega
      have y0 : (0 : Int) ≤ (k : Int) := by omega
      go_wp2_with fail
      refine (clone8 (cax k) (ccx k) (X k) wr (by have := Hlx.out k hlt; omega) Hre.out).mono ?_
      rintro ex w3 ⟨va, cva, rfl, hoa, hca⟩
      have Hoa := Lib.hid hoa
      have Hca := Lib.hid hca
      have hs3 := hca.size
      clear hoa hca
      go_wp2_with (at_builtin; go_loud (refine wpList_append_fresh _ rfl (.tmp 82) (.tmp 88) 22 rfl w2.heap.size 27 j0 _ 1 24 Tryz.underlying22 ji jz0 jz1 jz2 rfl (by decide) vo k vc xs rfl ((Hca.out.owns Hbo.out.own (fun _ _ h => h)).alloc _) (some ⟨w3.heap.size, 0, none⟩) 1 1 [.slice va (X k).length cva] rfl rfl (by simp) (oneSlice _ w3 _ rfl) (by intro u hu; simp at hu; subst hu; rfl) (by unfold maxLen; omega) (by omega) (by simp; omega) ?_; intro vp vcp wp hown1 hg1 hf1; have Hnew := Lib.hid (Hbo.out.step (join_lt hlt) Hca.out Hoa.out hown1 hg1 (by simpa using hf1)); clear hown1 hg1 hf1))
      go_roundw
      case rel => exact ⟨k + 1, vp, vcp, _, by omega, by go_num, rfl, Hnew.out⟩
      case measure => simp [intOf]; omega
    · have hke : k = n := by omega
      subst hke
      have y1 : ¬ (k : Int) < (k : Int) := by omega
      go_wp2_with fail
      go_loopw [11, 13] (fun s i wr => ∃ j : Nat, ∃ vo vc xs, j ≤ n2 ∧ i = .int .i64 j ∧ s = .slice vo (k + j) vc ∧ BothAt w2 wr vo vc (k + j) (join k X Y) xs) (fun _ i _ => n2 - (intOf i).toNat)
      case atStart => exact ⟨0, vo, vc, xs, by omega, rfl, rfl, Hbo.out⟩
      case round =>
        obtain ⟨j, vo, vc, xs, hj, rfl, rfl, hbo⟩ := hrel
        have Hbo := Lib.hid hbo
        have hso := hbo.chg.size
        clear hbo
        by_cases hlt : j < n2
        · rcases HN2.out.row with h0 | ⟨g, o, rfl, hR1⟩
          · omega
          have hcell := Hbo.out.chg.cell (hR1 j hlt) (fun h => h)
          have hre := (HN2.out.each j hlt).kept Hbo.out.chg (fun _ _ _ h => h)
          have Hre := Lib.hid hre
          clear hR1 hre
          have y2 : (j : Int) < (n2 : Int) := by omega
          have y0 : (0 : Int) ≤ (j : Int) := by omega
          go_wp2_with fail
          refine (clone8 (cay j) (ccy j) (Y j) wr (by have := Hly.out j hlt; omega) Hre.out).mono ?_
          rintro ex w3 ⟨va, cva, rfl, hoa, hca⟩
          have Hoa := Lib.hid hoa
          have Hca := Lib.hid hca
          have hs3 := hca.size
          clear hoa hca
          go_wp2_with (at_builtin; go_loud (refine wpList_append_fresh _ rfl (.tmp 96) (.tmp 102) 22 rfl w2.heap.size 27 j0 _ 1 24 Tryz.underlying22 ji jz0 jz1 jz2 rfl (by decide) vo (k + j) vc xs rfl ((Hca.out.owns Hbo.out.own (fun _ _ h => h)).alloc _) (some ⟨w3.heap.size, 0, none⟩) 1 1 [.slice va (Y j).length cva] rfl rfl (by simp) (oneSlice _ w3 _ rfl) (by intro u hu; simp at hu; subst hu; rfl) (by unfold maxLen; omega) (by omega) (by simp; omega) ?_; intro vp vcp wp hown1 hg1 hf1; have Hnew := Lib.hid (Hbo.out.step (join_ge j) Hca.out Hoa.out hown1 hg1 (by simpa using hf1)); clear hown1 hg1 hf1))
          go_roundw
          case rel => exact ⟨j + 1, vp, vcp, _, by omega, by go_num, rfl, Hnew.out⟩
          case measure => simp [intOf]; omega
        · have hje : j = n2 := by omega
          subst hje
          have y2 : ¬ (j : Int) < (j : Int) := by omega
          rename World => w3
          obtain ⟨caz, ccz, hNz⟩ := Hbo.out.nested
          have HNz := Lib.hid hNz
          clear hNz
          go_wp2_with fail
          refine (zprint9 true ax k cx X cax ccx lay ind w3 (HN1.out.kept (Hc2.out.trans Hbo.out.chg (fun _ _ h => h))) (by omega) Hlx.out (fun q hq => by have := Htx.out q hq; omega) hi1 hi0).mono ?_
          rintro ex w4 ⟨vx, lx, rfl, hox, hc4⟩
          have Hox := Lib.hid hox
          have Hc4 := Lib.hid hc4
          clear hox hc4
          go_wp2_with fail
          refine (zprint9 true ay j cy Y cay ccy lay ind w4 ((HN2.out.kept Hbo.out.chg).kept Hc4.out) (by omega) Hly.out (fun q hq => by have := Hty.out q hq; omega) hi1 hi0).mono ?_
          rintro ex w5 ⟨vy, ly, rfl, hoy, hc5⟩
          have Hoy := Lib.hid hoy
          have Hc5 := Lib.hid hc5
          clear hoy hc5
          go_wp2_with fail
          refine (zprint9 true vo (k + j) vc (join k X Y) caz ccz lay ind w5 ((HNz.out.kept Hc4.out).kept Hc5.out) (by omega) Hlz.out (fun q hq => by have := Htz.out q hq; omega) hi1 hi0).mono ?_
          rintro ex w6 ⟨vz, lz, rfl, hoz, hc6⟩
          have Hoz := Lib.hid hoz
          have Hc6 := Lib.hid hc6
          clear hoz hc6
          have hlX := Htx.out k (Nat.le_refl _)
          have hlY := Hty.out j (Nat.le_refl _)
          have hlZ := Htz.out (k + j) (Nat.le_refl _)
          have hjz := Hjoin.out
          generalize selsTo (sepT true lay ind) true X k = TX at *
          generalize selsTo (sepT true lay ind) true Y j = TY at *
          generalize selsTo (sepT true lay ind) true (join k X Y) (k + j) = TZ at *
          have Hjz := Lib.hid hjz
          clear hjz
          go_wp2_with fail
          refine (clone8 vx lx TX w6 (by omega) (((reads_own Hox.out).kept Hc5.out (fun _ _ _ h => h)).kept Hc6.out (fun _ _ _ h => h))).mono ?_
          rintro ex w7 ⟨vw, lw, rfl, how, hc7⟩
          have Hrw : Hid (RowAt w6 w7 vw TX.length lw TX) := Lib.hid ⟨rfl, how, hc7⟩
          clear how hc7
          go_wp2_with fail
          refine (sep10 w6 w7 vw TX.length lw TX true lay ind Hrw.out (by omega) hi1 hi0).mono ?_
          rintro ex w8 ⟨vs, Ls, cs, rfl, hrs⟩
          have hls := hrs.len
          have hzl := congrArg List.length Hjz.out
          simp only [List.length_append] at hls hzl
          have hs6 := hrs.chg.size
          have hoy8 := (Hc6.out.trans hrs.chg (fun _ _ h => h)).owns Hoy.out (fun _ _ h => h)
          have hnil : vy = none → TY.length = 0 ∧ ly = 0 := by
            intro hv
            rcases ownsRow_addr hoy8 with ⟨h1, h2⟩ | ⟨g, h1, _⟩
            · exact ⟨h2.1, h2.2.1⟩
            · rw [hv] at h1; cases h1
          have hsrc : ∀ a, vy = some a → ∀ j u, (Lib.byteCells TY)[j]? = some u → w8.cell? (a.add j) = some u := by
            intro a hv j u hu
            rcases ownsRow_addr hoy8 with ⟨h1, h2⟩ | ⟨g, h1, _⟩
            · rw [hv] at h1; cases h1
            · rw [hv] at h1
              injection h1 with h1
              subst h1
              exact hoy8.cells (g := g) (by rw [hv]; rfl) j u hu
          have Hrs := Lib.hid hrs
          have Hnil := Lib.hid hnil
          have Hsrc := Lib.hid hsrc
          have hle8 : Ls + TY.length ≤ 9000000 := by omega
          have htzl : TZ.length ≤ 9000000 := by omega
          clear hrs hls hzl hoy8 hnil hsrc
          go_wp2_with (at_builtin; go_loud (refine wpList_append_fresh _ rfl (.tmp 126) (.tmp 127) 27 rfl w6.heap.size 5 i0 _ 1 1 Tryz.underlying27 hi hz0 hz1 hz2 rfl (by decide) vs Ls cs _ rfl Hrs.out.own vy TY.length ly (Lib.byteCells TY) rfl (by simp [Lib.byteCells]) Hnil.out Hsrc.out (oneBytes _) (by unfold maxLen; omega) (by omega) hs6 ?_; intro vt vct w9 hown1 hg1 hf1; have Hf := Lib.hid (Hrs.out.more0 (new := TY) hown1 hg1); clear hown1 hg1 hf1))
          have hf := Hf.out
          rw [List.append_assoc, ← Hjz.out] at hf
          have hlen := hf.len
          have hown := hf.own
          rw [hlen] at hown ⊢
          refine (equal11 vz vt lz vct TZ w9 (by omega) ((reads_own Hoz.out).kept hf.chg (fun _ _ _ h => h)) (reads_own hown)).mono ?_
          rintro ex w10 ⟨rfl, q, rfl⟩
          have hfin := ((((((Hc1.out.trans Hc2.out (fun _ _ h => h)).trans Hbo.out.chg (fun _ _ h => h)).trans Hc4.out (fun _ _ h => h)).trans Hc5.out (fun _ _ h => h)).trans Hc6.out (fun _ _ h => h)).trans hf.chg (fun _ _ h => h)).drewN q
          clear hf hown
          go_wp2_with fail
          go_ret
          exact ⟨rfl, hfin⟩
set_option maxHeartbeats 8000000 in
theorem law_l (a a2 : Option Addr) (n c n2 c2 : Nat) (X Y : Nat → List UInt8) (ca cb : Nat → Option Addr) (cc cd : Nat → Nat) (ind : Int) (hi0 : -2147483648 ≤ ind) (w : World) (hX : Nested w a n X ca cc) (hY : Nested w a2 n2 Y cb cd) :
    Calls Tryz.prog 3 #[.bool false, .slice a n c, .slice a2 n2 c2, .int .i32 ind, .int .u8 0] w (TrueOut w) := by
  have HX := Lib.hid hX
  have HY := Lib.hid hY
  clear hX hY
  go_enter Tryz.func3, Tryz.ntmps3
  go_wp2_with fail
  refine (zz4 _ _ _ a a2 n c n2 c2 X Y ca cb cc cd w HX.out HY.out).mono ?_
  rintro ex w1 ⟨r, rfl, rfl, hb⟩
  cases r
  · go_wp2_with fail
    go_ret
    exact ⟨rfl, Chg.refl _ _⟩
  replace hb := hb rfl
  by_cases hn1 : n ≤ 131072
  rotate_left
  · have x1 : (131072 : Int) < (n : Int) := by omega
    go_wp2_with fail
    go_ret
    exact ⟨rfl, Chg.refl _ _⟩
  have x1 : ¬ (131072 : Int) < (n : Int) := by omega
  by_cases hn2 : n2 ≤ 131072
  rotate_left
  · have x2 : (131072 : Int) < (n2 : Int) := by omega
    go_wp2_with fail
    go_ret
    exact ⟨rfl, Chg.refl _ _⟩
  have x2 : ¬ (131072 : Int) < (n2 : Int) := by omega
  go_wp2_with fail
  refine (sum5 a n c X ca cc w HX.out (by omega)).mono ?_
  rintro ex w1 ⟨rfl, rfl⟩
  go_wp2_with fail
  refine (sum5 a2 n2 c2 Y cb cd w HY.out (by omega)).mono ?_
  rintro ex w1 ⟨rfl, rfl⟩
  by_cases hs5 : 24 * n + sumL X n + (24 * n2 + sumL Y n2) ≤ 1048576
  rotate_left
  · have x3 : (1048576 : Int) < 24 * (n : Int) + (sumL X n : Int) + (24 * (n2 : Int) + (sumL Y n2 : Int)) := by omega
    go_wp2_with fail
    go_ret
    exact ⟨rfl, Chg.refl _ _⟩
  have x3 : ¬ (1048576 : Int) < 24 * (n : Int) + (sumL X n : Int) + (24 * (n2 : Int) + (sumL Y n2 : Int)) := by omega
  by_cases hi1 : ind ≤ 65536
  rotate_left
  · have x4 : (65536 : Int) < ind := by omega
    go_wp2_with fail
    go_ret
    exact ⟨rfl, Chg.refl _ _⟩
  have x4 : ¬ (65536 : Int) < ind := by omega
  have hprod : ((n : Int) + (n2 : Int)) * (ind.toNat : Int) = (((n + n2) * ind.toNat : Nat) : Int) := by push_cast; rfl
  have hple : (n + n2) * ind.toNat ≤ 262144 * 65536 := Nat.mul_le_mul (by omega) (by omega)
  generalize hP : (n + n2) * ind.toNat = P at hprod hple
  by_cases hP2 : P ≤ 262144
  rotate_left
  · have x5 : (262144 : Int) < (P : Int) := by omega
    go_wp2_with fail
    refine (lev6 ind hi0 hi1 w).mono ?_
    rintro ex w1 ⟨rfl, rfl⟩
    generalize (ind.toNat : Int) = I at hprod ⊢
    have hwr : wrap64 (((n : Int) + (n2 : Int)) * I) = (P : Int) := by rw [hprod]; unfold wrap64; omega
    clear hprod
    go_wp2_with fail
    go_ret
    exact ⟨rfl, Chg.refl _ _⟩
  have x5 : ¬ (262144 : Int) < (P : Int) := by omega
  go_wp2_with fail
  refine (lev6 ind hi0 hi1 w).mono ?_
  rintro ex w1 ⟨rfl, rfl⟩
  generalize (ind.toNat : Int) = I at hprod ⊢
  have hwr : wrap64 (((n : Int) + (n2 : Int)) * I) = (P : Int) := by rw [hprod]; unfold wrap64; omega
  clear hprod
  by_cases hz1 : n = 0
  · have x6 : ((n : Int) == 0) = true := beq_iff_eq.2 (by omega)
    go_wp2_with fail
    all_goals (go_ret; exact ⟨rfl, Chg.refl _ _⟩)
  have x6 : ((n : Int) == 0) = false := beq_eq_false_iff_ne.2 (by omega)
  by_cases hz2 : n2 = 0
  · have x7 : ((n2 : Int) == 0) = true := beq_iff_eq.2 (by omega)
    go_wp2_with fail
    all_goals (go_ret; exact ⟨rfl, Chg.refl _ _⟩)
  have x7 : ((n2 : Int) == 0) = false := beq_eq_false_iff_ne.2 (by omega)
  have hsb := sep_bound false 0 ind (n + n2) (.inr (.inr (by rw [hP]; exact hP2)))
  have hlx : ∀ i, i < n → (X i).length ≤ 1048576 := fun i hi => by have := sumL_get X hi; omega
  have hly : ∀ i, i < n2 → (Y i).length ≤ 1048576 := fun i hi => by have := sumL_get Y hi; omega
  have htx : ∀ k, k ≤ n → (selsTo (sepT false 0 ind) false X k).length ≤ 8000000 := fun k hk => total_bound false 0 ind X n (n + n2) k hk (by omega) (by omega) hsb (by omega)
  have hty : ∀ k, k ≤ n2 → (selsTo (sepT false 0 ind) false Y k).length ≤ 8000000 := fun k hk => total_bound false 0 ind Y n2 (n + n2) k hk (by omega) (by omega) hsb (by omega)
  have htz : ∀ k, k ≤ n + n2 → (selsTo (sepT false 0 ind) false (join n X Y) k).length ≤ 8000000 := fun k hk => total_bound false 0 ind (join n X Y) (n + n2) (n + n2) k hk (by omega) (by omega) hsb (by rw [sumL_join]; omega)
  have hlz : ∀ i, i < n + n2 → (join n X Y i).length ≤ 1048576 := fun i hi => by have := sumL_get (join n X Y) hi; rw [sumL_join] at this; omega
  have hjoin := selsTo_join (sepT false 0 ind) false X Y (show 0 < n by omega) n2
  rw [if_neg hz2] at hjoin
  have Hlx := Lib.hid hlx
  have Hly := Lib.hid hly
  have Htx := Lib.hid htx
  have Hty := Lib.hid hty
  have Htz := Lib.hid htz
  have Hlz := Lib.hid hlz
  have Hjoin := Lib.hid hjoin
  clear hlx hly htx hty htz hlz hjoin hsb
  have Hnz := Lib.hid hz1
  clear hz1 hz2
  go_wp2_with fail
  refine (nest7 a n c X ca cc w HX.out (by omega) Hlx.out).mono ?_
  rintro ex w1 ⟨ax, cx, cax, ccx, rfl, hN1, hc1⟩
  have HN1 := Lib.hid hN1
  have Hc1 := Lib.hid hc1
  clear hN1 hc1
  go_wp2_with fail
  refine (nest7 a2 n2 c2 Y cb cd w1 (HY.out.kept Hc1.out) (by omega) Hly.out).mono ?_
  rintro ex w2 ⟨ay, cy, cay, ccy, rfl, hN2, hc2⟩
  have HN2 := Lib.hid hN2
  have Hc2 := Lib.hid hc2
  clear hN2 hc2
  have hmk : (Instr.makeSlice 22 (.int .i64 0) (.int .i64 ((n : Int) + (n2 : Int)))).run Tryz.prog w2 = .ok (.slice (some ⟨w2.heap.size, 0, none⟩) 0 (n + n2)) (w2.alloc (.cells (madeCells #[.slice none 0 0] (n + n2)) 27)) := by
    rw [show ((n : Int) + (n2 : Int)) = ((n + n2 : Nat) : Int) by omega]
    exact make22 0 (n + n2) (by omega) (by omega) w2
  obtain ⟨j0, ji, jz0, jz1, jz2⟩ := info_parts info27
  obtain ⟨i0, hi, hz0, hz1, hz2⟩ := info_parts info5
  have hs2 := Hc2.out.size
  go_wp2_with fail
  clear hmk
  go_loopw [11, 12] (fun s i wr => ∃ k : Nat, ∃ vo vc xs, k ≤ n ∧ i = .int .i64 k ∧ s = .slice vo k vc ∧ BothAt w2 wr vo vc k (join n X Y) xs) (fun _ i _ => n - (intOf i).toNat)
  case atStart => exact ⟨0, _, _, [], by omega, rfl, rfl, BothAt.start w2 (n + n2) (by omega) _⟩
  case round =>
    obtain ⟨k, vo, vc, xs, hk, rfl, rfl, hbo⟩ := hrel
    have Hbo := Lib.hid hbo
    have hso := hbo.chg.size
    clear hbo
    by_cases hlt : k < n
    · rcases HN1.out.row with h0 | ⟨g, o, rfl, hR1⟩
      · omega
      have hcw := Hc2.out.trans Hbo.out.chg (fun _ _ h => h)
      have hcell := hcw.cell (hR1 k hlt) (fun h => h)
      have hre := (HN1.out.each k hlt).kept hcw (fun _ _ _ h => h)
      have Hre := Lib.hid hre
      clear hR1 hcw hre
      have y1 : (k : Int) < (n : Int) := by omega
      have y0 : (0 : Int) ≤ (k : Int) := by omega
      go_wp2_with fail
      refine (clone8 (cax k) (ccx k) (X k) wr (by have := Hlx.out k hlt; omega) Hre.out).mono ?_
      rintro ex w3 ⟨va, cva, rfl, hoa, hca⟩
      have Hoa := Lib.hid hoa
      have Hca := Lib.hid hca
      have hs3 := hca.size
      clear hoa hca
      go_wp2_with (at_builtin; go_loud (refine wpList_append_fresh _ rfl (.tmp 82) (.tmp 88) 22 rfl w2.heap.size 27 j0 _ 1 24 Tryz.underlying22 ji jz0 jz1 jz2 rfl (by decide) vo k vc xs rfl ((Hca.out.owns Hbo.out.own (fun _ _ h => h)).alloc _) (some ⟨w3.heap.size, 0, none⟩) 1 1 [.slice va (X k).length cva] rfl rfl (by simp) (oneSlice _ w3 _ rfl) (by intro u hu; simp at hu; subst hu; rfl) (by unfold maxLen; omega) (by omega) (by simp; omega) ?_; intro vp vcp wp hown1 hg1 hf1; have Hnew := Lib.hid (Hbo.out.step (join_lt hlt) Hca.out Hoa.out hown1 hg1 (by simpa using hf1)); clear hown1 hg1 hf1))
      go_roundw
      case rel => exact ⟨k + 1, vp, vcp, _, by omega, by go_num, rfl, Hnew.out⟩
      case measure => simp [intOf]; omega
    · have hke : k = n := by omega
      subst hke
      have y1 : ¬ (k : Int) < (k : Int) := by omega
      go_wp2_with fail
      go_loopw [11, 13] (fun s i wr => ∃ j : Nat, ∃ vo vc xs, j ≤ n2 ∧ i = .int .i64 j ∧ s = .slice vo (k + j) vc ∧ BothAt w2 wr vo vc (k + j) (join k X Y) xs) (fun _ i _ => n2 - (intOf i).toNat)
      case atStart => exact ⟨0, vo, vc, xs, by omega, rfl, rfl, Hbo.out⟩
      case round =>
        obtain ⟨j, vo, vc, xs, hj, rfl, rfl, hbo⟩ := hrel
        have Hbo := Lib.hid hbo
        have hso := hbo.chg.size
        clear hbo
        by_cases hlt : j < n2
        · rcases HN2.out.row with h0 | ⟨g, o, rfl, hR1⟩
          · omega
          have hcell := Hbo.out.chg.cell (hR1 j hlt) (fun h => h)
          have hre := (HN2.out.each j hlt).kept Hbo.out.chg (fun _ _ _ h => h)
          have Hre := Lib.hid hre
          clear hR1 hre
          have y2 : (j : Int) < (n2 : Int) := by omega
          have y0 : (0 : Int) ≤ (j : Int) := by omega
          go_wp2_with fail
          refine (clone8 (cay j) (ccy j) (Y j) wr (by have := Hly.out j hlt; omega) Hre.out).mono ?_
          rintro ex w3 ⟨va, cva, rfl, hoa, hca⟩
          have Hoa := Lib.hid hoa
          have Hca := Lib.hid hca
          have hs3 := hca.size
          clear hoa hca
          go_wp2_with (at_builtin; go_loud (refine wpList_append_fresh _ rfl (.tmp 96) (.tmp 102) 22 rfl w2.heap.size 27 j0 _ 1 24 Tryz.underlying22 ji jz0 jz1 jz2 rfl (by decide) vo (k + j) vc xs rfl ((Hca.out.owns Hbo.out.own (fun _ _ h => h)).alloc _) (some ⟨w3.heap.size, 0, none⟩) 1 1 [.slice va (Y j).length cva] rfl rfl (by simp) (oneSlice _ w3 _ rfl) (by intro u hu; simp at hu; subst hu; rfl) (by unfold maxLen; omega) (by omega) (by simp; omega) ?_; intro vp vcp wp hown1 hg1 hf1; have Hnew := Lib.hid (Hbo.out.step (join_ge j) Hca.out Hoa.out hown1 hg1 (by simpa using hf1)); clear hown1 hg1 hf1))
          go_roundw
          case rel => exact ⟨j + 1, vp, vcp, _, by omega, by go_num, rfl, Hnew.out⟩
          case measure => simp [intOf]; omega
        · have hje : j = n2 := by omega
          subst hje
          have y2 : ¬ (j : Int) < (j : Int) := by omega
          rename World => w3
          obtain ⟨caz, ccz, hNz⟩ := Hbo.out.nested
          have HNz := Lib.hid hNz
          clear hNz
          go_wp2_with fail
          refine (zprint9 false ax k cx X cax ccx 0 ind w3 (HN1.out.kept (Hc2.out.trans Hbo.out.chg (fun _ _ h => h))) (by omega) Hlx.out (fun q hq => by have := Htx.out q hq; omega) hi1 hi0).mono ?_
          rintro ex w4 ⟨vx, lx, rfl, hox, hc4⟩
          have Hox := Lib.hid hox
          have Hc4 := Lib.hid hc4
          clear hox hc4
          go_wp2_with fail
          refine (zprint9 false ay j cy Y cay ccy 0 ind w4 ((HN2.out.kept Hbo.out.chg).kept Hc4.out) (by omega) Hly.out (fun q hq => by have := Hty.out q hq; omega) hi1 hi0).mono ?_
          rintro ex w5 ⟨vy, ly, rfl, hoy, hc5⟩
          have Hoy := Lib.hid hoy
          have Hc5 := Lib.hid hc5
          clear hoy hc5
          go_wp2_with fail
          refine (zprint9 false vo (k + j) vc (join k X Y) caz ccz 0 ind w5 ((HNz.out.kept Hc4.out).kept Hc5.out) (by omega) Hlz.out (fun q hq => by have := Htz.out q hq; omega) hi1 hi0).mono ?_
          rintro ex w6 ⟨vz, lz, rfl, hoz, hc6⟩
          have Hoz := Lib.hid hoz
          have Hc6 := Lib.hid hc6
          clear hoz hc6
          have hlX := Htx.out k (Nat.le_refl _)
          have hlY := Hty.out j (Nat.le_refl _)
          have hlZ := Htz.out (k + j) (Nat.le_refl _)
          have hjz := Hjoin.out
          generalize selsTo (sepT false 0 ind) false X k = TX at *
          generalize selsTo (sepT false 0 ind) false Y j = TY at *
          generalize selsTo (sepT false 0 ind) false (join k X Y) (k + j) = TZ at *
          have Hjz := Lib.hid hjz
          clear hjz
          go_wp2_with fail
          refine (clone8 vx lx TX w6 (by omega) (((reads_own Hox.out).kept Hc5.out (fun _ _ _ h => h)).kept Hc6.out (fun _ _ _ h => h))).mono ?_
          rintro ex w7 ⟨vw, lw, rfl, how, hc7⟩
          have Hrw : Hid (RowAt w6 w7 vw TX.length lw TX) := Lib.hid ⟨rfl, how, hc7⟩
          clear how hc7
          go_wp2_with fail
          refine (sep10 w6 w7 vw TX.length lw TX false 0 ind Hrw.out (by omega) hi1 hi0).mono ?_
          rintro ex w8 ⟨vs, Ls, cs, rfl, hrs⟩
          have hls := hrs.len
          have hzl := congrArg List.length Hjz.out
          simp only [List.length_append] at hls hzl
          have hs6 := hrs.chg.size
          have hoy8 := (Hc6.out.trans hrs.chg (fun _ _ h => h)).owns Hoy.out (fun _ _ h => h)
          have hnil : vy = none → TY.length = 0 ∧ ly = 0 := by
            intro hv
            rcases ownsRow_addr hoy8 with ⟨h1, h2⟩ | ⟨g, h1, _⟩
            · exact ⟨h2.1, h2.2.1⟩
            · rw [hv] at h1; cases h1
          have hsrc : ∀ a, vy = some a → ∀ j u, (Lib.byteCells TY)[j]? = some u → w8.cell? (a.add j) = some u := by
            intro a hv j u hu
            rcases ownsRow_addr hoy8 with ⟨h1, h2⟩ | ⟨g, h1, _⟩
            · rw [hv] at h1; cases h1
            · rw [hv] at h1
              injection h1 with h1
              subst h1
              exact hoy8.cells (g := g) (by rw [hv]; rfl) j u hu
          have Hrs := Lib.hid hrs
          have Hnil := Lib.hid hnil
          have Hsrc := Lib.hid hsrc
          have hle8 : Ls + TY.length ≤ 9000000 := by omega
          have htzl : TZ.length ≤ 9000000 := by omega
          clear hrs hls hzl hoy8 hnil hsrc
          go_wp2_with (at_builtin; go_loud (refine wpList_append_fresh _ rfl (.tmp 126) (.tmp 127) 27 rfl w6.heap.size 5 i0 _ 1 1 Tryz.underlying27 hi hz0 hz1 hz2 rfl (by decide) vs Ls cs _ rfl Hrs.out.own vy TY.length ly (Lib.byteCells TY) rfl (by simp [Lib.byteCells]) Hnil.out Hsrc.out (oneBytes _) (by unfold maxLen; omega) (by omega) hs6 ?_; intro vt vct w9 hown1 hg1 hf1; have Hf := Lib.hid (Hrs.out.more0 (new := TY) hown1 hg1); clear hown1 hg1 hf1))
          have hf := Hf.out
          rw [List.append_assoc, ← Hjz.out] at hf
          have hlen := hf.len
          have hown := hf.own
          rw [hlen] at hown ⊢
          refine (equal11 vz vt lz vct TZ w9 (by omega) ((reads_own Hoz.out).kept hf.chg (fun _ _ _ h => h)) (reads_own hown)).mono ?_
          rintro ex w10 ⟨rfl, q, rfl⟩
          have hfin := ((((((Hc1.out.trans Hc2.out (fun _ _ h => h)).trans Hbo.out.chg (fun _ _ h => h)).trans Hc4.out (fun _ _ h => h)).trans Hc5.out (fun _ _ h => h)).trans Hc6.out (fun _ _ h => h)).trans hf.chg (fun _ _ h => h)).drewN q
          clear hf hown
          go_wp2_with fail
          go_ret
          exact ⟨rfl, hfin⟩
set_option maxHeartbeats 8000000 in
theorem law_s (a a2 : Option Addr) (n c n2 c2 : Nat) (X Y : Nat → List UInt8) (ca cb : Nat → Option Addr) (cc cd : Nat → Nat) (lay : Int) (hl : lay ≠ 0) (ind : Int) (hi0 : -2147483648 ≤ ind) (w : World) (hX : Nested w a n X ca cc) (hY : Nested w a2 n2 Y cb cd) :
    Calls Tryz.prog 3 #[.bool false, .slice a n c, .slice a2 n2 c2, .int .i32 ind, .int .u8 lay] w (TrueOut w) := by
  have HX := Lib.hid hX
  have HY := Lib.hid hY
  clear hX hY
  have el : (lay == 0) = false := beq_eq_false_iff_ne.2 hl
  have Hl := Lib.hid hl
  clear hl
  go_enter Tryz.func3, Tryz.ntmps3
  go_wp2_with fail
  refine (zz4 _ _ _ a a2 n c n2 c2 X Y ca cb cc cd w HX.out HY.out).mono ?_
  rintro ex w1 ⟨r, rfl, rfl, hb⟩
  cases r
  · go_wp2_with fail
    go_ret
    exact ⟨rfl, Chg.refl _ _⟩
  replace hb := hb rfl
  by_cases hn1 : n ≤ 131072
  rotate_left
  · have x1 : (131072 : Int) < (n : Int) := by omega
    go_wp2_with fail
    go_ret
    exact ⟨rfl, Chg.refl _ _⟩
  have x1 : ¬ (131072 : Int) < (n : Int) := by omega
  by_cases hn2 : n2 ≤ 131072
  rotate_left
  · have x2 : (131072 : Int) < (n2 : Int) := by omega
    go_wp2_with fail
    go_ret
    exact ⟨rfl, Chg.refl _ _⟩
  have x2 : ¬ (131072 : Int) < (n2 : Int) := by omega
  go_wp2_with fail
  refine (sum5 a n c X ca cc w HX.out (by omega)).mono ?_
  rintro ex w1 ⟨rfl, rfl⟩
  go_wp2_with fail
  refine (sum5 a2 n2 c2 Y cb cd w HY.out (by omega)).mono ?_
  rintro ex w1 ⟨rfl, rfl⟩
  by_cases hs5 : 24 * n + sumL X n + (24 * n2 + sumL Y n2) ≤ 1048576
  rotate_left
  · have x3 : (1048576 : Int) < 24 * (n : Int) + (sumL X n : Int) + (24 * (n2 : Int) + (sumL Y n2 : Int)) := by omega
    go_wp2_with fail
    go_ret
    exact ⟨rfl, Chg.refl _ _⟩
  have x3 : ¬ (1048576 : Int) < 24 * (n : Int) + (sumL X n : Int) + (24 * (n2 : Int) + (sumL Y n2 : Int)) := by omega
  by_cases hi1 : ind ≤ 65536
  rotate_left
  · have x4 : (65536 : Int) < ind := by omega
    go_wp2_with fail
    go_ret
    exact ⟨rfl, Chg.refl _ _⟩
  have x4 : ¬ (65536 : Int) < ind := by omega
  by_cases hz1 : n = 0
  · have x6 : ((n : Int) == 0) = true := beq_iff_eq.2 (by omega)
    go_wp2_with fail
    all_goals (go_ret; exact ⟨rfl, Chg.refl _ _⟩)
  have x6 : ((n : Int) == 0) = false := beq_eq_false_iff_ne.2 (by omega)
  by_cases hz2 : n2 = 0
  · have x7 : ((n2 : Int) == 0) = true := beq_iff_eq.2 (by omega)
    go_wp2_with fail
    all_goals (go_ret; exact ⟨rfl, Chg.refl _ _⟩)
  have x7 : ((n2 : Int) == 0) = false := beq_eq_false_iff_ne.2 (by omega)
  have hsb := sep_bound false lay ind (n + n2) (.inr (.inl Hl.out))
  have hlx : ∀ i, i < n → (X i).length ≤ 1048576 := fun i hi => by have := sumL_get X hi; omega
  have hly : ∀ i, i < n2 → (Y i).length ≤ 1048576 := fun i hi => by have := sumL_get Y hi; omega
  have htx : ∀ k, k ≤ n → (selsTo (sepT false lay ind) false X k).length ≤ 8000000 := fun k hk => total_bound false lay ind X n (n + n2) k hk (by omega) (by omega) hsb (by omega)
  have hty : ∀ k, k ≤ n2 → (selsTo (sepT false lay ind) false Y k).length ≤ 8000000 := fun k hk => total_bound false lay ind Y n2 (n + n2) k hk (by omega) (by omega) hsb (by omega)
  have htz : ∀ k, k ≤ n + n2 → (selsTo (sepT false lay ind) false (join n X Y) k).length ≤ 8000000 := fun k hk => total_bound false lay ind (join n X Y) (n + n2) (n + n2) k hk (by omega) (by omega) hsb (by rw [sumL_join]; omega)
  have hlz : ∀ i, i < n + n2 → (join n X Y i).length ≤ 1048576 := fun i hi => by have := sumL_get (join n X Y) hi; rw [sumL_join] at this; omega
  have hjoin := selsTo_join (sepT false lay ind) false X Y (show 0 < n by omega) n2
  rw [if_neg hz2] at hjoin
  have Hlx := Lib.hid hlx
  have Hly := Lib.hid hly
  have Htx := Lib.hid htx
  have Hty := Lib.hid hty
  have Htz := Lib.hid htz
  have Hlz := Lib.hid hlz
  have Hjoin := Lib.hid hjoin
  clear hlx hly htx hty htz hlz hjoin hsb
  have Hnz := Lib.hid hz1
  clear hz1 hz2
  go_wp2_with fail
  refine (nest7 a n c X ca cc w HX.out (by omega) Hlx.out).mono ?_
  rintro ex w1 ⟨ax, cx, cax, ccx, rfl, hN1, hc1⟩
  have HN1 := Lib.hid hN1
  have Hc1 := Lib.hid hc1
  clear hN1 hc1
  go_wp2_with fail
  refine (nest7 a2 n2 c2 Y cb cd w1 (HY.out.kept Hc1.out) (by omega) Hly.out).mono ?_
  rintro ex w2 ⟨ay, cy, cay, ccy, rfl, hN2, hc2⟩
  have HN2 := Lib.hid hN2
  have Hc2 := Lib.hid hc2
  clear hN2 hc2
  have hmk : (Instr.makeSlice 22 (.int .i64 0) (.int .i64 ((n : Int) + (n2 : Int)))).run Tryz.prog w2 = .ok (.slice (some ⟨w2.heap.size, 0, none⟩) 0 (n + n2)) (w2.alloc (.cells (madeCells #[.slice none 0 0] (n + n2)) 27)) := by
    rw [show ((n : Int) + (n2 : Int)) = ((n + n2 : Nat) : Int) by omega]
    exact make22 0 (n + n2) (by omega) (by omega) w2
  obtain ⟨j0, ji, jz0, jz1, jz2⟩ := info_parts info27
  obtain ⟨i0, hi, hz0, hz1, hz2⟩ := info_parts info5
  have hs2 := Hc2.out.size
  go_wp2_with fail
  clear hmk
  go_loopw [11, 12] (fun s i wr => ∃ k : Nat, ∃ vo vc xs, k ≤ n ∧ i = .int .i64 k ∧ s = .slice vo k vc ∧ BothAt w2 wr vo vc k (join n X Y) xs) (fun _ i _ => n - (intOf i).toNat)
  case atStart => exact ⟨0, _, _, [], by omega, rfl, rfl, BothAt.start w2 (n + n2) (by omega) _⟩
  case round =>
    obtain ⟨k, vo, vc, xs, hk, rfl, rfl, hbo⟩ := hrel
    have Hbo := Lib.hid hbo
    have hso := hbo.chg.size
    clear hbo
    by_cases hlt : k < n
    · rcases HN1.out.row with h0 | ⟨g, o, rfl, hR1⟩
      · omega
      have hcw := Hc2.out.trans Hbo.out.chg (fun _ _ h => h)
      have hcell := hcw.cell (hR1 k hlt) (fun h => h)
      have hre := (HN1.out.each k hlt).kept hcw (fun _ _ _ h => h)
      have Hre := Lib.hid hre
      clear hR1 hcw hre
      have y1 : (k : Int) < (n : Int) := by omega
      have y0 : (0 : Int) ≤ (k : Int) := by omega
      go_wp2_with fail
      refine (clone8 (cax k) (ccx k) (X k) wr (by have := Hlx.out k hlt; omega) Hre.out).mono ?_
      rintro ex w3 ⟨va, cva, rfl, hoa, hca⟩
      have Hoa := Lib.hid hoa
      have Hca := Lib.hid hca
      have hs3 := hca.size
      clear hoa hca
      go_wp2_with (at_builtin; go_loud (refine wpList_append_fresh _ rfl (.tmp 82) (.tmp 88) 22 rfl w2.heap.size 27 j0 _ 1 24 Tryz.underlying22 ji jz0 jz1 jz2 rfl (by decide) vo k vc xs rfl ((Hca.out.owns Hbo.out.own (fun _ _ h => h)).alloc _) (some ⟨w3.heap.size, 0, none⟩) 1 1 [.slice va (X k).length cva] rfl rfl (by simp) (oneSlice _ w3 _ rfl) (by intro u hu; simp at hu; subst hu; rfl) (by unfold maxLen; omega) (by omega) (by simp; omega) ?_; intro vp vcp wp hown1 hg1 hf1; have Hnew := Lib.hid (Hbo.out.step (join_lt hlt) Hca.out Hoa.out hown1 hg1 (by simpa using hf1)); clear hown1 hg1 hf1))
      go_roundw
      case rel => exact ⟨k + 1, vp, vcp, _, by omega, by go_num, rfl, Hnew.out⟩
      case measure => simp [intOf]; omega
    · have hke : k = n := by omega
      subst hke
      have y1 : ¬ (k : Int) < (k : Int) := by omega
      go_wp2_with fail
      go_loopw [11, 13] (fun s i wr => ∃ j : Nat, ∃ vo vc xs, j ≤ n2 ∧ i = .int .i64 j ∧ s = .slice vo (k + j) vc ∧ BothAt w2 wr vo vc (k + j) (join k X Y) xs) (fun _ i _ => n2 - (intOf i).toNat)
      case atStart => exact ⟨0, vo, vc, xs, by omega, rfl, rfl, Hbo.out⟩
      case round =>
        obtain ⟨j, vo, vc, xs, hj, rfl, rfl, hbo⟩ := hrel
        have Hbo := Lib.hid hbo
        have hso := hbo.chg.size
        clear hbo
        by_cases hlt : j < n2
        · rcases HN2.out.row with h0 | ⟨g, o, rfl, hR1⟩
          · omega
          have hcell := Hbo.out.chg.cell (hR1 j hlt) (fun h => h)
          have hre := (HN2.out.each j hlt).kept Hbo.out.chg (fun _ _ _ h => h)
          have Hre := Lib.hid hre
          clear hR1 hre
          have y2 : (j : Int) < (n2 : Int) := by omega
          have y0 : (0 : Int) ≤ (j : Int) := by omega
          go_wp2_with fail
          refine (clone8 (cay j) (ccy j) (Y j) wr (by have := Hly.out j hlt; omega) Hre.out).mono ?_
          rintro ex w3 ⟨va, cva, rfl, hoa, hca⟩
          have Hoa := Lib.hid hoa
          have Hca := Lib.hid hca
          have hs3 := hca.size
          clear hoa hca
          go_wp2_with (at_builtin; go_loud (refine wpList_append_fresh _ rfl (.tmp 96) (.tmp 102) 22 rfl w2.heap.size 27 j0 _ 1 24 Tryz.underlying22 ji jz0 jz1 jz2 rfl (by decide) vo (k + j) vc xs rfl ((Hca.out.owns Hbo.out.own (fun _ _ h => h)).alloc _) (some ⟨w3.heap.size, 0, none⟩) 1 1 [.slice va (Y j).length cva] rfl rfl (by simp) (oneSlice _ w3 _ rfl) (by intro u hu; simp at hu; subst hu; rfl) (by unfold maxLen; omega) (by omega) (by simp; omega) ?_; intro vp vcp wp hown1 hg1 hf1; have Hnew := Lib.hid (Hbo.out.step (join_ge j) Hca.out Hoa.out hown1 hg1 (by simpa using hf1)); clear hown1 hg1 hf1))
          go_roundw
          case rel => exact ⟨j + 1, vp, vcp, _, by omega, by go_num, rfl, Hnew.out⟩
          case measure => simp [intOf]; omega
        · have hje : j = n2 := by omega
          subst hje
          have y2 : ¬ (j : Int) < (j : Int) := by omega
          rename World => w3
          obtain ⟨caz, ccz, hNz⟩ := Hbo.out.nested
          have HNz := Lib.hid hNz
          clear hNz
          go_wp2_with fail
          refine (zprint9 false ax k cx X cax ccx lay ind w3 (HN1.out.kept (Hc2.out.trans Hbo.out.chg (fun _ _ h => h))) (by omega) Hlx.out (fun q hq => by have := Htx.out q hq; omega) hi1 hi0).mono ?_
          rintro ex w4 ⟨vx, lx, rfl, hox, hc4⟩
          have Hox := Lib.hid hox
          have Hc4 := Lib.hid hc4
          clear hox hc4
          go_wp2_with fail
          refine (zprint9 false ay j cy Y cay ccy lay ind w4 ((HN2.out.kept Hbo.out.chg).kept Hc4.out) (by omega) Hly.out (fun q hq => by have := Hty.out q hq; omega) hi1 hi0).mono ?_
          rintro ex w5 ⟨vy, ly, rfl, hoy, hc5⟩
          have Hoy := Lib.hid hoy
          have Hc5 := Lib.hid hc5
          clear hoy hc5
          go_wp2_with fail
          refine (zprint9 false vo (k + j) vc (join k X Y) caz ccz lay ind w5 ((HNz.out.kept Hc4.out).kept Hc5.out) (by omega) Hlz.out (fun q hq => by have := Htz.out q hq; omega) hi1 hi0).mono ?_
          rintro ex w6 ⟨vz, lz, rfl, hoz, hc6⟩
          have Hoz := Lib.hid hoz
          have Hc6 := Lib.hid hc6
          clear hoz hc6
          have hlX := Htx.out k (Nat.le_refl _)
          have hlY := Hty.out j (Nat.le_refl _)
          have hlZ := Htz.out (k + j) (Nat.le_refl _)
          have hjz := Hjoin.out
          generalize selsTo (sepT false lay ind) false X k = TX at *
          generalize selsTo (sepT false lay ind) false Y j = TY at *
          generalize selsTo (sepT false lay ind) false (join k X Y) (k + j) = TZ at *
          have Hjz := Lib.hid hjz
          clear hjz
          go_wp2_with fail
          refine (clone8 vx lx TX w6 (by omega) (((reads_own Hox.out).kept Hc5.out (fun _ _ _ h => h)).kept Hc6.out (fun _ _ _ h => h))).mono ?_
          rintro ex w7 ⟨vw, lw, rfl, how, hc7⟩
          have Hrw : Hid (RowAt w6 w7 vw TX.length lw TX) := Lib.hid ⟨rfl, how, hc7⟩
          clear how hc7
          go_wp2_with fail
          refine (sep10 w6 w7 vw TX.length lw TX false lay ind Hrw.out (by omega) hi1 hi0).mono ?_
          rintro ex w8 ⟨vs, Ls, cs, rfl, hrs⟩
          have hls := hrs.len
          have hzl := congrArg List.length Hjz.out
          simp only [List.length_append] at hls hzl
          have hs6 := hrs.chg.size
          have hoy8 := (Hc6.out.trans hrs.chg (fun _ _ h => h)).owns Hoy.out (fun _ _ h => h)
          have hnil : vy = none → TY.length = 0 ∧ ly = 0 := by
            intro hv
            rcases ownsRow_addr hoy8 with ⟨h1, h2⟩ | ⟨g, h1, _⟩
            · exact ⟨h2.1, h2.2.1⟩
            · rw [hv] at h1; cases h1
          have hsrc : ∀ a, vy = some a → ∀ j u, (Lib.byteCells TY)[j]? = some u → w8.cell? (a.add j) = some u := by
            intro a hv j u hu
            rcases ownsRow_addr hoy8 with ⟨h1, h2⟩ | ⟨g, h1, _⟩
            · rw [hv] at h1; cases h1
            · rw [hv] at h1
              injection h1 with h1
              subst h1
              exact hoy8.cells (g := g) (by rw [hv]; rfl) j u hu
          have Hrs := Lib.hid hrs
          have Hnil := Lib.hid hnil
          have Hsrc := Lib.hid hsrc
          have hle8 : Ls + TY.length ≤ 9000000 := by omega
          have htzl : TZ.length ≤ 9000000 := by omega
          clear hrs hls hzl hoy8 hnil hsrc
          go_wp2_with (at_builtin; go_loud (refine wpList_append_fresh _ rfl (.tmp 126) (.tmp 127) 27 rfl w6.heap.size 5 i0 _ 1 1 Tryz.underlying27 hi hz0 hz1 hz2 rfl (by decide) vs Ls cs _ rfl Hrs.out.own vy TY.length ly (Lib.byteCells TY) rfl (by simp [Lib.byteCells]) Hnil.out Hsrc.out (oneBytes _) (by unfold maxLen; omega) (by omega) hs6 ?_; intro vt vct w9 hown1 hg1 hf1; have Hf := Lib.hid (Hrs.out.more0 (new := TY) hown1 hg1); clear hown1 hg1 hf1))
          have hf := Hf.out
          rw [List.append_assoc, ← Hjz.out] at hf
          have hlen := hf.len
          have hown := hf.own
          rw [hlen] at hown ⊢
          refine (equal11 vz vt lz vct TZ w9 (by omega) ((reads_own Hoz.out).kept hf.chg (fun _ _ _ h => h)) (reads_own hown)).mono ?_
          rintro ex w10 ⟨rfl, q, rfl⟩
          have hfin := ((((((Hc1.out.trans Hc2.out (fun _ _ h => h)).trans Hbo.out.chg (fun _ _ h => h)).trans Hc4.out (fun _ _ h => h)).trans Hc5.out (fun _ _ h => h)).trans Hc6.out (fun _ _ h => h)).trans hf.chg (fun _ _ h => h)).drewN q
          clear hf hown
          go_wp2_with fail
          go_ret
          exact ⟨rfl, hfin⟩
theorem law3 (m : Bool) (a a2 : Option Addr) (n c n2 c2 : Nat) (X Y : Nat → List UInt8) (ca cb : Nat → Option Addr) (cc cd : Nat → Nat) (lay ind : Int) (hi0 : -2147483648 ≤ ind) (w : World) (hX : Nested w a n X ca cc) (hY : Nested w a2 n2 Y cb cd) :
    Calls Tryz.prog 3 #[.bool m, .slice a n c, .slice a2 n2 c2, .int .i32 ind, .int .u8 lay] w (TrueOut w) := by
  cases m
  · by_cases hl : lay = 0
    · subst hl
      exact law_l a a2 n c n2 c2 X Y ca cb cc cd ind hi0 w hX hY
    · exact law_s a a2 n c n2 c2 X Y ca cb cc cd lay hl ind hi0 w hX hY
  · exact law_m a a2 n c n2 c2 X Y ca cb cc cd lay ind hi0 w hX hY
end Go.Proofs.YtadmncfemgmioaaGreatFmt
