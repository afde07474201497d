/-
  Proved: the law's loop over the files that the program scanned. No statement of the seat stands here.
-/
import Derived.Test.YtambbfgmbfamkaaGreatDoorLawc
import Derived.Deep.DeepCutAuto
namespace Go.Proofs.YtambbfgmbfamkaaGreatDoor
open Go.RowKit Go.ChangeAt
set_option linter.unusedSimpArgs false
set_option linter.unusedVariables false
set_option maxRecDepth 1000000
theorem tail28' (q : ByteArray) (f : Nat → ByteArray) (c : Nat → Option Addr × Nat × Nat) (a b y : Option Addr) (n cn m cm p cp bD bF kD kF S : Nat) (w0 wa wb : World) (B bE bG : Nat) (vo vo2 : Option Addr) (l vc l2 vc2 cD cF : Nat) (DL FL K K2 : List (List UInt8)) (hM : Mod wa wb B bE bG vo vo2 l vc l2 vc2 cD cF DL FL K K2)
    (hD : SetAt Tryz.prog 9 4 wb bD kD K) (hE : SetAt Tryz.prog 9 4 wb bF kF K2) (hl : l ≤ 1000000000) (hl2 : l2 ≤ 1000000000) (hK : ∀ x ∈ K, x.length ≤ 1048576) (hK2 : ∀ x ∈ K2, x.length ≤ 1048576)
    (hch : Chg Nowhere w0 wb) (hR : Reads wb a n (strAt f)) (hn : n ≤ 1048576) (hC : Con wb w0.heap.size n c) (v17 v18 v19 v20 v21 v23 : Value) (hA : Ans f q c n S v17 v18 v19 v20 v23) (hq : q.size ≤ 1048576) (hf : ∀ i, i < n → (f i).size ≤ 1048576)
    (t : Act) (hd : t.defers = []) (hs : t.tmps.size = 345) (h0 : t.tmps[0]? = some (.string q)) (h1 : t.tmps[1]? = some (.slice a n cn)) (h2 : t.tmps[2]? = some (.slice b m cm)) (h3 : t.tmps[3]? = some (.slice y p cp)) (h12 : t.tmps[12]? = some (.map (some bD))) (h13 : t.tmps[13]? = some (.map (some bF)))
    (h17 : t.tmps[17]? = some v17) (h18 : t.tmps[18]? = some v18) (h19 : t.tmps[19]? = some v19) (h20 : t.tmps[20]? = some v20) (h21 : t.tmps[21]? = some v21) (h23 : t.tmps[23]? = some v23) (h28 : t.tmps[28]? = some (.slice vo l vc)) (h29 : t.tmps[29]? = some (.slice vo2 l2 vc2)) (h32 : t.tmps[32]? = some (.bool (anyP f (qdir q) S))) :
    Code.wp Tryz.prog T28 (bodyPost Tryz.prog Tryz.f3 (LawOut w0)) t wb := by
  obtain ⟨x, rfl⟩ := lit28 t hd hs h0 h1 h2 h3 h12 h13 h17 h18 h19 h20 h21 h23 h28 h29 h32
  exact tail28 q f c a b y n cn m cm p cp bD bF kD kF S w0 wa wb B bE bG vo vo2 l vc l2 vc2 cD cF DL FL K K2 hM hD hE hl hl2 hK hK2 hch hR hn hC v17 v18 v19 v20 v21 v23 hA hq hf x
section
variable {wa wr w1 w2 w3 : World} {B : Nat} {vo vo' vo2 : Option Addr} {l vc vc' l2 vc2 : Nat} {DL FL K K2 K' K2' : List (List UInt8)} {bE bG cD cF cD' cF' : Nat}
theorem Mod.more (h : Mod wa wr B bE bG vo vo2 l vc l2 vc2 cD cF DL FL K K2) (h1 : cD ≤ cD') (h2 : cF ≤ cF') (e1 : K = K') (e2 : K2 = K2') : Mod wa wr B bE bG vo vo2 l vc l2 vc2 cD' cF' DL FL K' K2' := by
  subst e1 e2
  exact ⟨h.d.mono h1, h.e.mono h2, h.ld, h.le, h.sep, h.old, h.aE, h.aG, h.ne, h.bE, h.bG, h.bB, Nat.le_trans h.lcD h1, Nat.le_trans h.lcF h2⟩
end
theorem keys_small {u : Nat → ByteArray} : ∀ {k : Nat}, (∀ i, i < k → (u i).size ≤ 1048576) → ∀ x ∈ keys u k, x.length ≤ 1048576
  | 0, _, x, hx => by cases hx
  | k + 1, h, x, hx => by
    rcases List.mem_cons.1 hx with rfl | hx
    · rw [len_list]; exact h k (Nat.lt_succ_self k)
    · exact keys_small (fun i hi => h i (Nat.lt_succ_of_lt hi)) x hx
theorem addD_small {s d : ByteArray} (h : s.size ≤ 1048576) : ∀ x ∈ addD s d, x.length ≤ 1048576 := by
  intro x hx
  unfold addD at hx
  split at hx
  · rw [List.mem_singleton.1 hx, len_list, ByteArray.size_extract]
    have := ent_size s d
    omega
  · cases hx
theorem addF_small {s d : ByteArray} (h : s.size ≤ 1048576) : ∀ x ∈ addF s d, x.length ≤ 1048576 := by
  intro x hx
  unfold addF at hx
  split at hx
  · rw [List.mem_singleton.1 hx, len_list]
    exact Nat.le_trans (ent_size s d) h
  · cases hx
theorem gatD_small {f : Nat → ByteArray} {d : ByteArray} : ∀ {k : Nat}, (∀ i, i < k → (f i).size ≤ 1048576) → ∀ x ∈ gatD f d k, x.length ≤ 1048576
  | 0, _, x, hx => by cases hx
  | k + 1, h, x, hx => by
    rcases addD_mem.1 hx with hx | hx
    · exact addD_small (h k (Nat.lt_succ_self k)) x hx
    · exact gatD_small (fun i hi => h i (Nat.lt_succ_of_lt hi)) x hx
theorem gatF_small {f : Nat → ByteArray} {d : ByteArray} : ∀ {k : Nat}, (∀ i, i < k → (f i).size ≤ 1048576) → ∀ x ∈ gatF f d k, x.length ≤ 1048576
  | 0, _, x, hx => by cases hx
  | k + 1, h, x, hx => by
    rcases addF_mem.1 hx with hx | hx
    · exact addF_small (h k (Nat.lt_succ_self k)) x hx
    · exact gatF_small (fun i hi => h i (Nat.lt_succ_of_lt hi)) x hx
theorem add_none {s d : ByteArray} (h : pre s d = false) : addD s d = [] ∧ addF s d = [] := by
  unfold addD addF
  rw [h]
  simp
theorem add_file {s d : ByteArray} (h : pre s d = true) (hi : Lib.indexByte (ent s d).data.toList 47 = -1) : addD s d = [] ∧ addF s d = [(ent s d).data.toList] := by
  unfold addD addF
  rw [h, hi]
  simp
theorem add_dir {s d : ByteArray} {i : Nat} (h : pre s d = true) (hi : Lib.indexByte (ent s d).data.toList 47 = i) : addD s d = [((ent s d).extract 0 i).data.toList] ∧ addF s d = [] := by
  have hi2 : Lib.indexByte (ent s d).data.toList 47 ≠ -1 := by rw [hi]; omega
  unfold addD addF
  rw [if_pos ⟨h, hi2⟩, if_neg (fun h => hi2 h.2), hi, Int.toNat_natCast]
  exact ⟨rfl, rfl⟩
set_option maxHeartbeats 16000000 in
theorem tail26 (q : ByteArray) (f h u : Nat → ByteArray) (c : Nat → Option Addr × Nat × Nat) (a b y : Option Addr) (n cn m cm p cp bD bF kD kF S : Nat) (w0 wa wb : World) (B bE bG : Nat) (vo vo2 : Option Addr) (l vc l2 vc2 : Nat) (DL FL : List (List UInt8)) (hM : Mod wa wb B bE bG vo vo2 l vc l2 vc2 m p DL FL (keys h m) (keys u p))
    (hD : SetAt Tryz.prog 9 4 wa bD kD (gatD f (qdir q) S ++ keys h m)) (hE : SetAt Tryz.prog 9 4 wa bF kF (gatF f (qdir q) S ++ keys u p)) (hS : S ≤ n)
    (hch : Chg Nowhere w0 wa) (hR : Reads wa a n (strAt f)) (hn : Small f n) (hm : Small h m) (hp : Small u p) (hC : Con wa w0.heap.size n c) (v17 v18 v19 v20 v23 : Value) (hA : Ans f q c n S v17 v18 v19 v20 v23) (hq : q.size ≤ 1048576) (x : Nat → Value) :
    Code.wp Tryz.prog T26 (bodyPost Tryz.prog Tryz.f3 (LawOut w0)) ⟨#[.string q, .slice a n cn, .slice b m cm, .slice y p cp, x 4, x 5, x 6, x 7, x 8, x 9, x 10, x 11, .map (some bD), .map (some bF), x 14, x 15, x 16, v17, v18, v19, v20, .string (qdir q), x 22, v23, x 24, .int .i64 S, .map (some bE), .map (some bG), .slice vo l vc, .slice vo2 l2 vc2, x 30, x 31, x 32, x 33, x 34, x 35, x 36, x 37, x 38, x 39, x 40, x 41, x 42, x 43, x 44, x 45, x 46, x 47, x 48, x 49, x 50, x 51, x 52, x 53, x 54, x 55, x 56, x 57, x 58, x 59, x 60, x 61, x 62, x 63, x 64, x 65, x 66, x 67, x 68, x 69, x 70, x 71, x 72, x 73, x 74, x 75, x 76, x 77, x 78, x 79, x 80, x 81, x 82, x 83, x 84, x 85, x 86, x 87, x 88, x 89, x 90, x 91, x 92, x 93, x 94, x 95, x 96, x 97, x 98, x 99, x 100, x 101, x 102, x 103, x 104, x 105, x 106, x 107, x 108, x 109, x 110, x 111, x 112, x 113, x 114, x 115, x 116, x 117, x 118, x 119, x 120, x 121, x 122, x 123, x 124, x 125, x 126, x 127, x 128, x 129, x 130, x 131, x 132, x 133, x 134, x 135, x 136, x 137, x 138, x 139, x 140, x 141, x 142, x 143, x 144, x 145, x 146, x 147, x 148, x 149, x 150, x 151, x 152, x 153, x 154, x 155, x 156, x 157, x 158, x 159, x 160, x 161, x 162, x 163, x 164, x 165, x 166, x 167, x 168, x 169, x 170, x 171, x 172, x 173, x 174, x 175, x 176, x 177, x 178, x 179, x 180, x 181, x 182, x 183, x 184, x 185, x 186, x 187, x 188, x 189, x 190, x 191, x 192, x 193, x 194, x 195, x 196, x 197, x 198, x 199, x 200, x 201, x 202, x 203, x 204, x 205, x 206, x 207, x 208, x 209, x 210, x 211, x 212, x 213, x 214, x 215, x 216, x 217, x 218, x 219, x 220, x 221, x 222, x 223, x 224, x 225, x 226, x 227, x 228, x 229, x 230, x 231, x 232, x 233, x 234, x 235, x 236, x 237, x 238, x 239, x 240, x 241, x 242, x 243, x 244, x 245, x 246, x 247, x 248, x 249, x 250, x 251, x 252, x 253, x 254, x 255, x 256, x 257, x 258, x 259, x 260, x 261, x 262, x 263, x 264, x 265, x 266, x 267, x 268, x 269, x 270, x 271, x 272, x 273, x 274, x 275, x 276, x 277, x 278, x 279, x 280, x 281, x 282, x 283, x 284, x 285, x 286, x 287, x 288, x 289, x 290, x 291, x 292, x 293, x 294, x 295, x 296, x 297, x 298, x 299, x 300, x 301, x 302, x 303, x 304, x 305, x 306, x 307, x 308, x 309, x 310, x 311, x 312, x 313, x 314, x 315, x 316, x 317, x 318, x 319, x 320, x 321, x 322, x 323, x 324, x 325, x 326, x 327, x 328, x 329, x 330, x 331, x 332, x 333, x 334, x 335, x 336, x 337, x 338, x 339, x 340, x 341, x 342, x 343, x 344], []⟩ wb := by
  obtain ⟨i0, hi, hz0, hz1, hz2⟩ := info_parts' infoStr
  have HM := Lib.hid hM
  have HD := Lib.hid hD
  have HE := Lib.hid hE
  have Hch := Lib.hid hch
  have HR := Lib.hid hR
  have HC := Lib.hid hC
  have HA := Lib.hid hA
  have Hn := Lib.hid hn
  have Hm := Lib.hid hm
  have Hp := Lib.hid hp
  have hnb := hn.few
  have hmb := hm.few
  have hpb := hp.few
  have hqs := qdir_size q
  clear hM hD hE hch hR hC hA hn hm hp
  conv => arg 2; whnf
  go_wp2_with fail
  go_loopw [28, 29, 32, 33] (fun v28 v29 v32 i wr => ∃ (k : Nat) (vo : Option Addr) (l vc : Nat) (vo2 : Option Addr) (l2 vc2 : Nat) (DL FL : List (List UInt8)), k ≤ S ∧ i = .int .i64 k ∧ v28 = .slice vo l vc ∧ v29 = .slice vo2 l2 vc2 ∧ v32 = .bool (anyP f (qdir q) k) ∧ Mod wa wr B bE bG vo vo2 l vc l2 vc2 (m + k) (p + k) DL FL (gatD f (qdir q) k ++ keys h m) (gatF f (qdir q) k ++ keys u p)) (fun _ _ _ i _ => S - (intOf i).toNat)
  case atStart => exact ⟨0, vo, l, vc, vo2, l2, vc2, DL, FL, Nat.zero_le _, rfl, rfl, rfl, rfl, HM.out⟩
  case round =>
    clear HM
    obtain ⟨k, vo, l, vc, vo2, l2, vc2, DL, FL, hk, rfl, rfl, rfl, rfl, hM⟩ := hrel
    rename World => wr
    have HM := Lib.hid hM
    have hlD := hM.lcD
    have hlF := hM.lcF
    have hB := hM.bB
    clear hM
    by_cases hlt : k < S
    · rcases HR.out with h0 | ⟨g, o, rfl, hR1⟩
      · omega
      have hcell := HM.out.old.cell (hR1 k (by omega)) (fun h => h)
      unfold strAt at hcell
      clear hR1
      have hx : (k : Int) < (S : Int) := by omega
      have hx0 : (0 : Int) ≤ (k : Int) := by omega
      have hx1 : (k : Int) < (n : Int) := by omega
      have hfs := Hn.out.short k (by omega)
      go_wp2_with fail
      refine (pre10 (f k) (qdir q) wr (by omega) (by omega)).mono ?_
      rintro e1 w1 ⟨rfl, rfl⟩
      cases hpr : pre (f k) (qdir q)
      · have hno := add_none hpr
        have Hno := Lib.hid hno
        have Hpr := Lib.hid hpr
        clear hno hpr
        go_wp2_with fail
        go_roundw
        case rel =>
          refine ⟨k + 1, vo, l, vc, vo2, l2, vc2, DL, FL, by omega, by go_num, rfl, rfl, ?_, HM.out.more (by omega) (by omega) ?_ ?_⟩
          · show _ = Value.bool (anyP f (qdir q) k || pre (f k) (qdir q))
            rw [Hpr.out, Bool.or_false]
          · show _ = (addD (f k) (qdir q) ++ gatD f (qdir q) k) ++ keys h m
            rw [Hno.out.1]; rfl
          · show _ = (addF (f k) (qdir q) ++ gatF f (qdir q) k) ++ keys u p
            rw [Hno.out.2]; rfl
        case measure => simp [intOf]; omega
      · have hps : (qdir q).size ≤ (f k).size := by
          have := hpr
          unfold pre at this
          rw [Bool.and_eq_true] at this
          exact of_decide_eq_true this.1
        have hany : anyP f (qdir q) (k + 1) = true := by
          show (anyP f (qdir q) k || pre (f k) (qdir q)) = true
          rw [hpr, Bool.or_true]
        have Hany := Lib.hid hany
        have Hpr := Lib.hid hpr
        have p1 : ((qdir q).size : Int) ≤ ((f k).size : Int) := by omega
        have p2 : (0 : Int) ≤ ((qdir q).size : Int) := by omega
        have hes := ent_size (f k) (qdir q)
        clear hpr hany
        go_wp2_with fail
        have hen : (f k).extract (qdir q).size (f k).size = ent (f k) (qdir q) := rfl
        obtain ⟨E, hE⟩ : ∃ E, E = ent (f k) (qdir q) := ⟨_, rfl⟩
        rw [hen, ← hE]
        rw [← hE] at hes
        have hix := idx11 E wr (by omega)
        have hge := Lib.indexByte_ge E.data.toList 47
        have hE' := Lib.hid hE
        clear hE hen
        by_cases h1 : Lib.indexByte E.data.toList 47 = -1
        · rw [h1] at hix
          refine hix.mono ?_
          rintro e1 w6 ⟨rfl, rfl⟩
          clear hix hge
          have hadd := add_file Hpr.out (by rw [← hE'.out]; exact h1)
          rw [← hE'.out] at hadd
          have Hadd := Lib.hid hadd
          have hEs : E.size ≤ maxLen := by unfold maxLen; omega
          have hget := run_set_get (t := 35) Tryz.underlying35 Tryz.underlying9 Tryz.underlying4 Tryz.zeroValue4 HM.out.e E hEs
          clear hadd h1
          by_cases hmem : E.data.toList ∈ gatF f (qdir q) k ++ keys u p
          · rw [decide_eq_true hmem] at hget
            have HMm := Lib.hid (HM.out.oldF hmem)
            clear hmem
            go_wp2_with fail
            go_roundw
            case rel =>
              refine ⟨k + 1, vo, l, vc, vo2, l2, vc2, DL, FL, by omega, by go_num, rfl, rfl, by rw [Hany.out], HMm.out.more (by omega) (by omega) ?_ ?_⟩
              · show _ = (addD (f k) (qdir q) ++ gatD f (qdir q) k) ++ keys h m
                rw [Hadd.out.1]; rfl
              · show _ = (addF (f k) (qdir q) ++ gatF f (qdir q) k) ++ keys u p
                rw [Hadd.out.2]; rfl
            case measure => simp [intOf]; omega
          · rw [decide_eq_false hmem] at hget
            obtain ⟨w7, hput, hset, hch7⟩ := run_set_put (t := 35) Tryz.underlying35 Tryz.underlying9 Tryz.underlying4 HM.out.e (by omega) E hEs
            have Hput := Lib.hid (And.intro hmem (And.intro hset hch7))
            have hsz7 := hch7.size
            clear hmem hset hch7
            go_wp2_with (at_builtin; go_loud (refine wpList_append_fresh _ rfl (.tmp 231) (.tmp 233) 22 rfl B 9 i0 _ 1 16 Tryz.underlying22 hi hz0 hz1 hz2 rfl (by decide) vo2 l2 vc2 (FL.map strV) rfl (HM.out.ownF Hput.out.2.2 _) (some ⟨w7.heap.size, 0, none⟩) 1 1 [.string E] rfl rfl (by simp) (str_new _ _ _ _ rfl) (by intro u hu; simp at hu; subst hu; rfl) (by unfold maxLen; omega) (by omega) (by simp; omega) ?_; intro vp vcp wp hown1 hg1 hf1; have Hnew := Lib.hid (HM.out.newF Hput.out.1 Hput.out.2.1 Hput.out.2.2 _ hown1 hg1 hf1); clear hown1 hg1 hf1))
            go_roundw
            case rel =>
              refine ⟨k + 1, vo, l, vc, vp, l2 + 1, vcp, DL, _, by omega, by go_num, rfl, rfl, by rw [Hany.out], Hnew.out.more (by omega) (by omega) ?_ ?_⟩
              · show _ = (addD (f k) (qdir q) ++ gatD f (qdir q) k) ++ keys h m
                rw [Hadd.out.1]; rfl
              · show _ = (addF (f k) (qdir q) ++ gatF f (qdir q) k) ++ keys u p
                rw [Hadd.out.2]; rfl
            case measure => simp [intOf]; omega
        · obtain ⟨i, hii⟩ : ∃ i : Nat, Lib.indexByte E.data.toList 47 = i := ⟨(Lib.indexByte E.data.toList 47).toNat, by omega⟩
          have hil : i < E.size := by
            rw [← len_list]
            exact (List.getElem?_eq_some_iff.1 (Lib.indexByte_some hii).1).1
          rw [hii] at hix
          refine hix.mono ?_
          rintro e1 w6 ⟨rfl, rfl⟩
          clear hix hge h1
          have q1 : (i : Int) ≤ (E.size : Int) := by omega
          have q2 : (0 : Int) ≤ (i : Int) := by omega
          have q3 : ¬ ((i : Int) < 0) := by omega
          have hxs : (E.extract 0 i).size ≤ maxLen := by rw [ByteArray.size_extract]; unfold maxLen; omega
          have hadd := add_dir Hpr.out (by rw [← hE'.out]; exact hii)
          rw [← hE'.out] at hadd
          have Hadd := Lib.hid hadd
          have hget := run_set_get (t := 35) Tryz.underlying35 Tryz.underlying9 Tryz.underlying4 Tryz.zeroValue4 HM.out.d (E.extract 0 i) hxs
          clear hadd hii
          by_cases hmem : (E.extract 0 i).data.toList ∈ gatD f (qdir q) k ++ keys h m
          · rw [decide_eq_true hmem] at hget
            have HMm := Lib.hid (HM.out.oldD hmem)
            clear hmem
            go_wp2_with fail
            go_roundw
            case rel =>
              refine ⟨k + 1, vo, l, vc, vo2, l2, vc2, DL, FL, by omega, by go_num, rfl, rfl, by rw [Hany.out], HMm.out.more (by omega) (by omega) ?_ ?_⟩
              · show _ = (addD (f k) (qdir q) ++ gatD f (qdir q) k) ++ keys h m
                rw [Hadd.out.1]; rfl
              · show _ = (addF (f k) (qdir q) ++ gatF f (qdir q) k) ++ keys u p
                rw [Hadd.out.2]; rfl
            case measure => simp [intOf]; omega
          · rw [decide_eq_false hmem] at hget
            obtain ⟨w7, hput, hset, hch7⟩ := run_set_put (t := 35) Tryz.underlying35 Tryz.underlying9 Tryz.underlying4 HM.out.d (by omega) (E.extract 0 i) hxs
            have Hput := Lib.hid (And.intro hmem (And.intro hset hch7))
            have hsz7 := hch7.size
            clear hmem hset hch7
            go_wp2_with (at_builtin; go_loud (refine wpList_append_fresh _ rfl (.tmp 244) (.tmp 246) 22 rfl B 9 i0 _ 1 16 Tryz.underlying22 hi hz0 hz1 hz2 rfl (by decide) vo l vc (DL.map strV) rfl (HM.out.ownD Hput.out.2.2 _) (some ⟨w7.heap.size, 0, none⟩) 1 1 [.string (E.extract 0 i)] rfl rfl (by simp) (str_new _ _ _ _ rfl) (by intro u hu; simp at hu; subst hu; rfl) (by unfold maxLen; omega) (by omega) (by simp; omega) ?_; intro vp vcp wp hown1 hg1 hf1; have Hnew := Lib.hid (HM.out.newD Hput.out.1 Hput.out.2.1 Hput.out.2.2 _ hown1 hg1 hf1); clear hown1 hg1 hf1))
            go_roundw
            case rel =>
              refine ⟨k + 1, vp, l + 1, vcp, vo2, l2, vc2, _, FL, by omega, by go_num, rfl, rfl, by rw [Hany.out], Hnew.out.more (by omega) (by omega) ?_ ?_⟩
              · show _ = (addD (f k) (qdir q) ++ gatD f (qdir q) k) ++ keys h m
                rw [Hadd.out.1]; rfl
              · show _ = (addF (f k) (qdir q) ++ gatF f (qdir q) k) ++ keys u p
                rw [Hadd.out.2]; rfl
            case measure => simp [intOf]; omega
    · obtain rfl : k = S := by omega
      have hx : ¬ ((k : Nat) : Int) < (k : Int) := by omega
      have ho := HM.out.old
      have hKs : ∀ x ∈ gatD f (qdir q) k ++ keys h m, x.length ≤ 1048576 := fun x hx => (List.mem_append.1 hx).elim (fun hx => gatD_small (fun i hi => Hn.out.short i (by omega)) x hx) (fun hx => keys_small Hm.out.short x hx)
      have hFs : ∀ x ∈ gatF f (qdir q) k ++ keys u p, x.length ≤ 1048576 := fun x hx => (List.mem_append.1 hx).elim (fun hx => gatF_small (fun i hi => Hn.out.short i (by omega)) x hx) (fun hx => keys_small Hp.out.short x hx)
      go_upto_if 206 with fail
      iterate 6 go_step
      exact tail28' q f c a b y n cn m cm p cp bD bF kD kF k w0 wa wr B bE bG vo vo2 l vc l2 vc2 (m + k) (p + k) DL FL _ _ HM.out (HD.out.kept ho (fun h => h)) (HE.out.kept ho (fun h => h)) (by omega) (by omega) hKs hFs (Hch.out.trans ho (fun _ _ h => h)) (HR.out.kept ho (fun _ _ _ h => h)) hnb (HC.out.kept ho (fun _ _ _ h => h)) v17 v18 v19 v20 (.string (qdir q)) v23 HA.out hq Hn.out.short _ rfl rfl rfl rfl rfl rfl rfl rfl rfl rfl rfl rfl rfl rfl rfl rfl rfl
end Go.Proofs.YtambbfgmbfamkaaGreatDoor
