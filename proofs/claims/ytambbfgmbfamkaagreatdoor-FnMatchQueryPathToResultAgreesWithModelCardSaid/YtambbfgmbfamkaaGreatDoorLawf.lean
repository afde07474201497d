/-
  Proved: the law's loop that gathers the given folders' names. No statement of the seat stands here.
-/
import Derived.Test.YtambbfgmbfamkaaGreatDoorLawe
namespace Go.Proofs.YtambbfgmbfamkaaGreatDoor
open Go.RowKit Go.ChangeAt
set_option linter.unusedSimpArgs false
set_option linter.unusedVariables false
set_option maxRecDepth 1000000
theorem tail25' (q : ByteArray) (f h u : Nat → ByteArray) (c : Nat → Option Addr × Nat × Nat) (a b y : Option Addr) (n cn m cm p cp bD bF kD kF S : Nat) (w0 wa wb : World) (B bE bG : Nat) (vo vo2 : Option Addr) (l vc l2 vc2 : Nat) (DL FL : List (List UInt8)) (hM : Mod wa wb B bE bG vo vo2 l vc l2 vc2 m 0 DL FL (keys h m) [])
    (hD : SetAt Tryz.prog 9 4 wa bD kD (gatD f (qdir q) S ++ keys h m)) (hE : SetAt Tryz.prog 9 4 wa bF kF (gatF f (qdir q) S ++ keys u p)) (hS : S ≤ n)
    (hch : Chg Nowhere w0 wa) (hR : Reads wa a n (strAt f)) (hU : Reads wa y p (strAt u)) (hn : Small f n) (hm : Small h m) (hp : Small u p) (hC : Con wa w0.heap.size n c) (v17 v18 v19 v20 v23 : Value) (hA : Ans f q c n S v17 v18 v19 v20 v23) (hq : q.size ≤ 1048576)
    (t : Act) (hd : t.defers = []) (hs : t.tmps.size = 345) (h0 : t.tmps[0]? = some (.string q)) (h1 : t.tmps[1]? = some (.slice a n cn)) (h2 : t.tmps[2]? = some (.slice b m cm)) (h3 : t.tmps[3]? = some (.slice y p cp)) (h12 : t.tmps[12]? = some (.map (some bD))) (h13 : t.tmps[13]? = some (.map (some bF)))
    (h17 : t.tmps[17]? = some v17) (h18 : t.tmps[18]? = some v18) (h19 : t.tmps[19]? = some v19) (h20 : t.tmps[20]? = some v20) (h21 : t.tmps[21]? = some (.string (qdir q))) (h23 : t.tmps[23]? = some v23) (h25 : t.tmps[25]? = some (.int .i64 S)) (h26 : t.tmps[26]? = some (.map (some bE))) (h27 : t.tmps[27]? = some (.map (some bG)))
    (h28 : t.tmps[28]? = some (.slice vo l vc)) (h29 : t.tmps[29]? = some (.slice vo2 l2 vc2)) :
    Code.wp Tryz.prog T25 (bodyPost Tryz.prog Tryz.f3 (LawOut w0)) t wb := by
  obtain ⟨x, rfl⟩ := lit25 t hd hs h0 h1 h2 h3 h12 h13 h17 h18 h19 h20 h21 h23 h25 h26 h27 h28 h29
  exact tail25 q f h u c a b y n cn m cm p cp bD bF kD kF S w0 wa wb B bE bG vo vo2 l vc l2 vc2 DL FL hM hD hE hS hch hR hU hn hm hp hC v17 v18 v19 v20 v23 hA hq x
set_option maxHeartbeats 16000000 in
theorem tail18 (q : ByteArray) (f h u : Nat → ByteArray) (c : Nat → Option Addr × Nat × Nat) (a b y : Option Addr) (n cn m cm p cp bD bF kD kF S : Nat) (w0 wa : World)
    (hD : SetAt Tryz.prog 9 4 wa bD kD (gatD f (qdir q) S ++ keys h m)) (hE : SetAt Tryz.prog 9 4 wa bF kF (gatF f (qdir q) S ++ keys u p)) (hS : S ≤ n)
    (hch : Chg Nowhere w0 wa) (hR : Reads wa a n (strAt f)) (hH : Reads wa b m (strAt h)) (hU : Reads wa y p (strAt u)) (hn : Small f n) (hm : Small h m) (hp : Small u p) (hC : Con wa w0.heap.size n c) (v17 v18 v19 v20 v23 : Value) (hA : Ans f q c n S v17 v18 v19 v20 v23) (hq : q.size ≤ 1048576) (x : Nat → Value) :
    Code.wp Tryz.prog T18 (bodyPost Tryz.prog Tryz.f3 (LawOut w0)) ⟨#[.string q, .slice a n cn, .slice b m cm, .slice y p cp, x 4, x 5, x 6, x 7, x 8, x 9, x 10, x 11, .map (some bD), .map (some bF), x 14, x 15, x 16, v17, v18, v19, v20, .string (qdir q), x 22, v23, x 24, x 25, x 26, x 27, x 28, x 29, x 30, x 31, x 32, x 33, x 34, x 35, x 36, x 37, x 38, x 39, x 40, x 41, x 42, x 43, x 44, x 45, x 46, x 47, x 48, x 49, x 50, x 51, x 52, x 53, x 54, x 55, x 56, x 57, x 58, x 59, x 60, x 61, x 62, x 63, x 64, x 65, x 66, x 67, x 68, x 69, x 70, x 71, x 72, x 73, x 74, x 75, x 76, x 77, x 78, x 79, x 80, x 81, x 82, x 83, x 84, x 85, x 86, x 87, x 88, x 89, x 90, x 91, x 92, x 93, x 94, x 95, x 96, x 97, x 98, x 99, x 100, x 101, x 102, x 103, x 104, x 105, x 106, x 107, x 108, x 109, x 110, x 111, x 112, x 113, x 114, x 115, x 116, x 117, x 118, x 119, x 120, x 121, x 122, x 123, x 124, x 125, x 126, x 127, x 128, x 129, x 130, x 131, x 132, x 133, x 134, x 135, x 136, x 137, x 138, x 139, x 140, x 141, x 142, x 143, x 144, x 145, x 146, x 147, x 148, x 149, x 150, x 151, x 152, x 153, x 154, x 155, x 156, x 157, x 158, x 159, x 160, x 161, x 162, x 163, x 164, x 165, x 166, x 167, x 168, x 169, x 170, x 171, x 172, x 173, x 174, x 175, x 176, x 177, x 178, x 179, x 180, x 181, x 182, x 183, x 184, x 185, x 186, x 187, x 188, x 189, x 190, x 191, x 192, x 193, x 194, x 195, x 196, x 197, x 198, x 199, x 200, x 201, x 202, x 203, x 204, x 205, x 206, x 207, x 208, x 209, x 210, x 211, x 212, x 213, x 214, x 215, x 216, x 217, x 218, x 219, x 220, x 221, x 222, x 223, x 224, x 225, x 226, x 227, x 228, x 229, x 230, x 231, x 232, x 233, x 234, x 235, x 236, x 237, x 238, x 239, x 240, x 241, x 242, x 243, x 244, x 245, x 246, x 247, x 248, x 249, x 250, x 251, x 252, x 253, x 254, x 255, x 256, x 257, x 258, x 259, x 260, x 261, x 262, x 263, x 264, x 265, x 266, x 267, x 268, x 269, x 270, x 271, x 272, x 273, x 274, x 275, x 276, x 277, x 278, x 279, x 280, x 281, x 282, x 283, x 284, x 285, x 286, x 287, x 288, x 289, x 290, x 291, x 292, x 293, x 294, x 295, x 296, x 297, x 298, x 299, x 300, x 301, x 302, x 303, x 304, x 305, x 306, x 307, x 308, x 309, x 310, x 311, x 312, x 313, x 314, x 315, x 316, x 317, x 318, x 319, x 320, x 321, x 322, x 323, x 324, x 325, x 326, x 327, x 328, x 329, x 330, x 331, x 332, x 333, x 334, x 335, x 336, x 337, x 338, x 339, x 340, x 341, x 342, x 343, x 344], []⟩ wa := by
  have HH := Lib.hid hH
  have HU := Lib.hid hU
  obtain ⟨H, hH23, hHS⟩ : ∃ H : Int, v23 = .int .i64 H ∧ (H = S ∨ (H = -1 ∧ n = S)) := by
    rcases hA with ⟨h1, h2, h3, h4, h5, h6⟩ | ⟨h1, h2, h3, h4, h5, h6⟩
    · exact ⟨_, h6, .inl rfl⟩
    · exact ⟨_, h6, .inr ⟨rfl, h1.symm⟩⟩
  subst hH23
  have hmm := @run_makeMap Tryz.prog
  clear hH hU
  obtain ⟨i0, hi, hz0, hz1, hz2⟩ := info_parts' infoStr
  have HD := Lib.hid hD
  have HE := Lib.hid hE
  have Hch := Lib.hid hch
  have HR := Lib.hid hR
  have HA := Lib.hid hA
  have HC := Lib.hid hC
  have Hn := Lib.hid hn
  have Hm := Lib.hid hm
  have Hp := Lib.hid hp
  have hnb := hn.few
  have hmb := hm.few
  have hpb := hp.few
  clear hD hE hch hR hC hA hn hm hp
  conv => arg 2; whnf
  go_upto_if 150 with fail
  go_cut [25] (fun v wx => v = .int .i64 S ∧ wx = wa)
  case first =>
    rcases hHS with rfl | ⟨rfl, rfl⟩
    · have hx0 : (0 : Int) ≤ (S : Int) := by omega
      go_wp2_with fail
      go_meet
      case rel => exact ⟨rfl, rfl⟩
    · go_wp2_with fail
      go_meet
      case rel => exact ⟨rfl, rfl⟩
  case rest =>
  obtain ⟨rfl, rfl⟩ := hcut
  go_wp2_with fail
  have hst := Mod.start wc
  obtain ⟨bE, hbE⟩ : ∃ v, v = wc.heap.size := ⟨_, rfl⟩
  obtain ⟨bG, hbG⟩ : ∃ v, v = bE + 1 := ⟨_, rfl⟩
  obtain ⟨B, hB⟩ : ∃ v, v = bE + 2 := ⟨_, rfl⟩
  rw [← hbE, ← hbG, ← hB] at hst
  rw [← hbE, ← hbG]
  have Hst := Lib.hid hst
  clear hst hbE hbG hB hmm hHS
  generalize (wc.alloc (.map #[] 0)).alloc (.map #[] 0) = wb at Hst ⊢
  go_loopw [28, 30] (fun vl i wr => ∃ (k : Nat) (vo : Option Addr) (l vc : Nat) (LL : List (List UInt8)), k ≤ m ∧ i = .int .i64 k ∧ vl = .slice vo l vc ∧ Mod wc wr B bE bG vo none l vc 0 0 k 0 LL [] (keys h k) []) (fun _ i _ => m - (intOf i).toNat)
  case atStart => exact ⟨0, _, _, _, _, Nat.zero_le _, rfl, rfl, Hst.out⟩
  case round =>
    obtain ⟨k, vo, l, vc, LL, hk, rfl, rfl, hM⟩ := hrel
    rename World => wr
    have HM := Lib.hid hM
    have hl := hM.lcD
    have hB := hM.bB
    clear hM
    by_cases hlt : k < m
    · rcases HH.out with h0 | ⟨g, o, rfl, hR1⟩
      · omega
      have hgl := World.block_lt_of_cell? _ _ (hR1 k hlt)
      have hcell := HM.out.old.cell (hR1 k hlt) (fun h => h)
      unfold strAt at hcell
      clear hR1
      have hx : (k : Int) < (m : Int) := by omega
      have hx0 : (0 : Int) ≤ (k : Int) := by omega
      have hfs := Hm.out.short k hlt
      have hEs : (h k).size ≤ maxLen := by unfold maxLen; omega
      have hget := run_set_get (t := 35) Tryz.underlying35 Tryz.underlying9 Tryz.underlying4 Tryz.zeroValue4 HM.out.d (h k) hEs
      by_cases hmem : (h k).data.toList ∈ keys h k
      · rw [decide_eq_true hmem] at hget
        have HMm := Lib.hid (HM.out.oldD hmem)
        clear hmem hgl
        go_wp2_with fail
        go_roundw
        case rel => first | exact ⟨k + 1, vo, l, vc, LL, hlt, by go_num, rfl, HMm.out⟩ | ((repeat apply Exists.intro); exact ⟨⟨hlt, by go_num, rfl, HMm.out⟩, rfl⟩)
        case measure => simp [intOf]; omega
      · rw [decide_eq_false hmem] at hget
        obtain ⟨w7, hput, hset, hch7⟩ := run_set_put (t := 35) Tryz.underlying35 Tryz.underlying9 Tryz.underlying4 HM.out.d (by omega) (h k) hEs
        have Hput := Lib.hid (And.intro hmem (And.intro hset hch7))
        have hsz7 := hch7.size
        have hcell7 := hch7.cell hcell (fun e => Nat.lt_irrefl _ (Nat.lt_of_lt_of_le (Nat.lt_of_le_of_lt (Nat.le_of_eq e.symm) hgl) HM.out.aE))
        have hcell8 := ((Chg.refl Nowhere w7).alloc (.cells #[.string (h k)] 9)).cell hcell7 (fun h => h)
        clear hmem hset hch7 hgl
        go_wp2_with (at_builtin; go_loud (refine wpList_append_fresh _ rfl (.tmp 172) (.tmp 177) 22 rfl B 9 i0 _ 1 16 Tryz.underlying22 hi hz0 hz1 hz2 rfl (by decide) vo l vc (LL.map strV) rfl (HM.out.ownD Hput.out.2.2 _) (some ⟨w7.heap.size, 0, none⟩) 1 1 [.string (h k)] rfl rfl (by simp) (str_new _ _ _ _ rfl) (by intro u hu; simp at hu; subst hu; rfl) (by unfold maxLen; omega) (by omega) (by simp; omega) ?_; intro vp vcp wp hown1 hg1 hf1; have Hnew := Lib.hid (HM.out.newD Hput.out.1 Hput.out.2.1 Hput.out.2.2 _ hown1 hg1 hf1); clear hown1 hg1 hf1))
        go_roundw
        case rel => first | exact ⟨k + 1, vp, l + 1, vcp, _, hlt, by go_num, rfl, Hnew.out⟩ | ((repeat apply Exists.intro); exact ⟨⟨hlt, by go_num, rfl, Hnew.out⟩, rfl⟩)
        case measure => simp [intOf]; omega
    · obtain rfl : k = m := by omega
      have hx : ¬ ((k : Nat) : Int) < (k : Int) := by omega
      go_upto_if 157 with fail
      iterate 6 go_step
      exact tail25' q f h u c a b y n cn k cm p cp bD bF kD kF S w0 wc wr B bE bG vo none l vc 0 0 LL [] HM.out HD.out HE.out hS Hch.out HR.out HU.out Hn.out Hm.out Hp.out HC.out v17 v18 v19 v20 (.int .i64 H) HA.out hq _ rfl rfl rfl rfl rfl rfl rfl rfl rfl rfl rfl rfl rfl rfl rfl rfl rfl rfl rfl
end Go.Proofs.YtambbfgmbfamkaaGreatDoor
