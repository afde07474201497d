/-
  Proved: the law, walked whole: it answers true at all arguments. No statement of the seat stands here.
-/
import Derived.Test.YtambbfgmbfamkaaGreatDoorLawi
namespace Go.Proofs.YtambbfgmbfamkaaGreatDoor
open Go.RowKit Go.ChangeAt
set_option linter.unusedSimpArgs false
set_option linter.unusedVariables false
set_option maxRecDepth 1000000
set_option maxHeartbeats 16000000 in
theorem law3 (q : ByteArray) (f h u : Nat → ByteArray) (a b y : Option Addr) (n cn m cm p cp : Nat) (w0 : World) (hR : Reads w0 a n (strAt f)) (hH : Reads w0 b m (strAt h)) (hU : Reads w0 y p (strAt u)) :
    Calls Tryz.prog 3 #[.string q, .slice a n cn, .slice b m cm, .slice y p cp] w0 (LawOut w0) := by
  have HR := Lib.hid hR
  have HH := Lib.hid hH
  have HU := Lib.hid hU
  clear hR hH hU
  go_enter Tryz.func3, Tryz.ntmps3
  go_wp2_with fail
  refine (zb4 q a b y n cn m cm p cp f h u w0 HR.out HH.out HU.out).mono ?_
  rintro e1 w1 ⟨r, rfl, rfl, hr⟩
  cases r
  · go_wp2_with fail
    go_ret
    exact ⟨rfl, Chg.refl _ _⟩
  obtain ⟨hq, hn, hm, hp⟩ := hr rfl
  clear hr
  have Hn := Lib.hid hn
  have Hm := Lib.hid hm
  have Hp := Lib.hid hp
  have hnb := hn.few
  have hmb := hm.few
  have hpb := hp.few
  clear hn hm hp
  go_wp2_with fail
  refine (sum5 a n cn f w0 HR.out Hn.out).mono ?_
  rintro e1 w1 ⟨y1, hy1, hz1, rfl, rfl⟩
  go_wp2_with fail
  refine (sum5 b m cm h w0 HH.out Hm.out).mono ?_
  rintro e1 w1 ⟨y2, hy2, hz2, rfl, rfl⟩
  go_wp2_with fail
  refine (sum5 y p cp u w0 HU.out Hp.out).mono ?_
  rintro e1 w1 ⟨y3, hy3, hz3, rfl, rfl⟩
  obtain ⟨T, hT⟩ : ∃ T, T = (q.size : Int) + y1 + y2 + y3 := ⟨_, rfl⟩
  by_cases hbig : (q.size : Int) + y1 + y2 + y3 > 1048576
  · go_wp2_with fail
    go_ret
    exact ⟨rfl, Chg.refl _ _⟩
  go_wp2_with fail
  refine (all6 a n cn f w0 HR.out Hn.out).mono ?_
  rintro e1 w1 ⟨r, rfl, rfl, hrl⟩
  cases r
  · go_wp2_with fail
    go_ret
    exact ⟨rfl, Chg.refl _ _⟩
  have Hrl := Lib.hid (hrl rfl)
  clear hrl hbig hT T hy1 hy2 hy3 hz1 hz2 hz3
  have hmk := make26 n hnb
  have H0 := Lib.hid (FilesTo.start w0 n f)
  obtain ⟨g, hg⟩ : ∃ g, g = w0.heap.size := ⟨_, rfl⟩
  have hgl : g < (w0.alloc (.cells (madeCells file0 (n * 3)) 30)).heap.size := by simp [hg]
  have Hgl := Lib.hid hgl
  clear hgl
  go_wp2_with fail
  rw [← hg] at H0 ⊢
  generalize w0.alloc (.cells (madeCells file0 (n * 3)) 30) = ws at H0 Hgl ⊢
  clear hmk hg
  go_loopw [10] (fun i wr => ∃ (k : Nat) (c : Nat → Option Addr × Nat × Nat), k ≤ n ∧ i = .int .i64 k ∧ FilesTo w0 wr g n k f c ∧ g < wr.heap.size) (fun i _ => n - (intOf i).toNat)
  case atStart => exact ⟨0, _, Nat.zero_le _, rfl, H0.out, Hgl.out⟩
  case round =>
    clear H0 Hgl
    obtain ⟨k, c, hk, rfl, hft, hgw⟩ := hrel
    rename World => wr
    by_cases hlt : k < n
    · rcases HR.out with h0 | ⟨g1, o1, rfl, hR1⟩
      · omega
      have hcell := hft.chg.cell (hR1 k hlt) (fun h => h)
      unfold strAt at hcell
      clear hR1
      have hx : (k : Int) < (n : Int) := by omega
      have hx0 : (0 : Int) ≤ (k : Int) := by omega
      have hfs := Hn.out.short k hlt
      have hxl : ¬ 9223372036854775807 < 5 + (f k).size := by omega
      have hit := itoa_size k (by omega)
      obtain ⟨cc, cw, hcw⟩ := conv_any (itoa k) (by omega)
      obtain ⟨cur, b1, b2, b3⟩ := hft.blk
      have hszb : k * 3 + 3 ≤ cur.size := by rw [b2]; have := Nat.mul_le_mul_right 3 (show k + 1 ≤ n by omega); omega
      have Hft := Lib.hid hft
      have B1 := Lib.hid b1
      have Hcw := Lib.hid hcw
      clear hft b3 b1 hcw
      have hcv := fun W => (Hcw.out W).1
      go_upto_region 11 with fail
      go_region_with (go_at_call 7; go_must (refine (itoa7 k _ (by omega)).mono ?_; rintro e w' ⟨rfl, hch⟩; have hw' : Chg Nowhere wr w' := ⟨hch.os, hch.tape, hch.output, hch.size, hch.block⟩; have hcell2 := hw'.cell hcell (fun h => h); have hX1 := hw'.trans (Hcw.out w').2.2.2.1 (fun _ _ h => h); have hX2 := hw'.drew.trans (Hcw.out w'.drew).2.2.2.1 (fun _ _ h => h); obtain ⟨v0, v1, v2, m0, m1, m2, fm⟩ := Hft.out.place hlt hX1; obtain ⟨v3, v4, v5, m3, m4, m5, fn⟩ := Hft.out.place hlt hX2; have hcell3 := hX1.cell hcell (fun h => h); have hcell4 := hX2.cell hcell (fun h => h); have HC := Lib.hid hw'; clear hch hw' hX1 hX2))
      all_goals (
        have hX1 := HC.out.trans (Hcw.out w').2.2.2.1 (fun _ _ h => h)
        have hs1 := HC.out.size
        have hs2 := (Hcw.out w').2.2.2.2.1
        have hb0 := Hft.out.chg.size
        have Hnew := Lib.hid ((Hft.out.keep hX1).step hlt w'.heap.size (itoa k).size (cc w') rfl (Hcw.out w').2.2.2.2.2 (Hcw.out w').2.1 (Hcw.out w').2.2.1 (by omega) (by omega) (by omega))
        have Hsz := Lib.hid (Nat.lt_of_lt_of_le (Nat.lt_of_lt_of_le hgw hX1.size) (st3_chg (cw w') g (k * 3) (.string (outS ++ f k)) (.slice (some ⟨w'.heap.size, 0, none⟩) (itoa k).size (cc w')) (.string ⟨#[]⟩)).size)
        clear hX1 hs1 hs2 hb0
        go_wp2_with fail
        go_roundw
        (case rel => exact ⟨k + 1, _, hlt, by go_num, Hnew.out, Hsz.out⟩)
        (case measure => simp [intOf]; omega))
    · obtain rfl : k = n := by omega
      have hx : ¬ ((k : Nat) : Int) < (k : Int) := by omega
      have Hft := Lib.hid hft
      clear hft
      go_upto_if 67 with fail
      iterate 6 go_step
      exact tail6' q f h u c a b y k cn m cm p cp g w0 wr Hft.out.fil hgw Hft.out.con Hft.out.chg HR.out HH.out HU.out Hn.out Hm.out Hp.out Hrl.out hq _ rfl rfl rfl rfl rfl rfl rfl
end Go.Proofs.YtambbfgmbfamkaaGreatDoor
