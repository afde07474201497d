/-
  Proved: the law's call of the program, its own search for the file. No statement of the seat stands here.
-/
import Derived.Test.YtambbfgmbfamkaaGreatDoorLawf
import Derived.Deep.CutBlock
namespace Go.Proofs.YtambbfgmbfamkaaGreatDoor
open Go.RowKit Go.ChangeAt
set_option linter.unusedSimpArgs false
set_option linter.unusedVariables false
set_option maxRecDepth 1000000
theorem tail18' (q : ByteArray) (f h u : Nat → ByteArray) (c : Nat → Option Addr × Nat × Nat) (a b y : Option Addr) (n cn m cm p cp bD bF kD kF S : Nat) (w0 wa : World)
    (hD : SetAt Tryz.prog 9 4 wa bD kD (gatD f (qdir q) S ++ keys h m)) (hE : SetAt Tryz.prog 9 4 wa bF kF (gatF f (qdir q) S ++ keys u p)) (hS : S ≤ n)
    (hch : Chg Nowhere w0 wa) (hR : Reads wa a n (strAt f)) (hH : Reads wa b m (strAt h)) (hU : Reads wa y p (strAt u)) (hn : Small f n) (hm : Small h m) (hp : Small u p) (hC : Con wa w0.heap.size n c) (v17 v18 v19 v20 v23 : Value) (hA : Ans f q c n S v17 v18 v19 v20 v23) (hq : q.size ≤ 1048576)
    (t : Act) (hd : t.defers = []) (hs : t.tmps.size = 345) (h0 : t.tmps[0]? = some (.string q)) (h1 : t.tmps[1]? = some (.slice a n cn)) (h2 : t.tmps[2]? = some (.slice b m cm)) (h3 : t.tmps[3]? = some (.slice y p cp)) (h12 : t.tmps[12]? = some (.map (some bD))) (h13 : t.tmps[13]? = some (.map (some bF)))
    (h17 : t.tmps[17]? = some v17) (h18 : t.tmps[18]? = some v18) (h19 : t.tmps[19]? = some v19) (h20 : t.tmps[20]? = some v20) (h21 : t.tmps[21]? = some (.string (qdir q))) (h23 : t.tmps[23]? = some v23) :
    Code.wp Tryz.prog T18 (bodyPost Tryz.prog Tryz.f3 (LawOut w0)) t wa := by
  obtain ⟨x, rfl⟩ := lit18 t hd hs h0 h1 h2 h3 h12 h13 h17 h18 h19 h20 h21 h23
  exact tail18 q f h u c a b y n cn m cm p cp bD bF kD kF S w0 wa hD hE hS hch hR hH hU hn hm hp hC v17 v18 v19 v20 v23 hA hq x
/-- The program's answer, one form for both ends. -/
theorem dout_form {w w' : World} {f : Nat → ByteArray} {c : Nat → Option Addr × Nat × Nat} {n : Nat} {q : ByteArray} {bD bF kD kF : Nat} {KD KF : List (List UInt8)} {e : Ending} (h : DOut w f c n q bD bF kD kF KD KF e w') :
    ∃ (S : Nat) (H : Int) (v17 v18 v19 v20 : Value), S ≤ n ∧ e = .returned (.tuple #[v17, v18, v19, v20]) ∧ Scan w w' f q bD bF kD kF KD KF S ∧ Ans f q c n S v17 v18 v19 v20 (.int .i64 H) ∧ (S < n → Hit (f S) q ∧ H = S) ∧ (S = n → H = -1) := by
  rcases h with ⟨k, h1, h2, h3, rfl⟩ | ⟨h3, rfl⟩
  · exact ⟨k, k, _, _, _, _, Nat.le_of_lt h1, rfl, h3, .inl ⟨h1, rfl, rfl, rfl, rfl, rfl⟩, fun _ => ⟨h2, rfl⟩, fun e => absurd h1 (by omega)⟩
  · exact ⟨n, -1, _, _, _, _, Nat.le_refl _, rfl, h3, .inr ⟨rfl, rfl, rfl, rfl, rfl, rfl⟩, fun h => absurd h (Nat.lt_irrefl _), fun _ => rfl⟩
set_option maxHeartbeats 16000000 in
theorem tail11 (q : ByteArray) (f h u : Nat → ByteArray) (c : Nat → Option Addr × Nat × Nat) (a b y : Option Addr) (n cn m cm p cp bD bF R g : Nat) (w0 wa : World)
    (hD : SetAt Tryz.prog 9 4 wa bD m (keys h m)) (hE : SetAt Tryz.prog 9 4 wa bF p (keys u p)) (hbn : bD ≠ bF) (hRc : wa.cell? ⟨R, 2, none⟩ = some (.slice (some ⟨g, 0, none⟩) n n)) (hF : Fil wa g n f c) (hsep : ∀ x, x = R ∨ x = g → ¬ Two bD bF x) (hb0 : w0.heap.size ≤ bD) (hb1 : w0.heap.size ≤ bF) (hCb : Con wa w0.heap.size n c) (hcb : ∀ i, i < n → ∀ g o, (c i).1 = some ⟨g, o, none⟩ → ¬ Two bD bF g)
    (hch : Chg Nowhere w0 wa) (hR : Reads w0 a n (strAt f)) (hH : Reads w0 b m (strAt h)) (hU : Reads w0 y p (strAt u)) (hn : Small f n) (hm : Small h m) (hp : Small u p) (hrl : ∀ i, i < n → Rel (f i).data.toList) (hq : q.size ≤ 1048576) (x : Nat → Value) :
    Code.wp Tryz.prog T11 (bodyPost Tryz.prog Tryz.f3 (LawOut w0)) ⟨#[.string q, .slice a n cn, .slice b m cm, .slice y p cp, x 4, x 5, x 6, x 7, x 8, x 9, x 10, .pointer (some ⟨R, 0, none⟩), .map (some bD), .map (some bF), x 14, x 15, x 16, x 17, x 18, x 19, x 20, x 21, x 22, x 23, x 24, x 25, x 26, x 27, x 28, x 29, x 30, x 31, x 32, x 33, x 34, x 35, x 36, x 37, x 38, x 39, x 40, x 41, x 42, x 43, x 44, x 45, x 46, x 47, x 48, x 49, x 50, x 51, x 52, x 53, x 54, x 55, x 56, x 57, x 58, x 59, x 60, x 61, x 62, x 63, x 64, x 65, x 66, x 67, x 68, x 69, x 70, x 71, x 72, x 73, x 74, x 75, x 76, x 77, x 78, x 79, x 80, x 81, x 82, x 83, x 84, x 85, x 86, x 87, x 88, x 89, x 90, x 91, x 92, x 93, x 94, x 95, x 96, x 97, x 98, x 99, x 100, x 101, x 102, x 103, x 104, x 105, x 106, x 107, x 108, x 109, x 110, x 111, x 112, x 113, x 114, x 115, x 116, x 117, x 118, x 119, x 120, x 121, x 122, x 123, x 124, x 125, x 126, x 127, x 128, x 129, x 130, x 131, x 132, x 133, x 134, x 135, x 136, x 137, x 138, x 139, x 140, x 141, x 142, x 143, x 144, x 145, x 146, x 147, x 148, x 149, x 150, x 151, x 152, x 153, x 154, x 155, x 156, x 157, x 158, x 159, x 160, x 161, x 162, x 163, x 164, x 165, x 166, x 167, x 168, x 169, x 170, x 171, x 172, x 173, x 174, x 175, x 176, x 177, x 178, x 179, x 180, x 181, x 182, x 183, x 184, x 185, x 186, x 187, x 188, x 189, x 190, x 191, x 192, x 193, x 194, x 195, x 196, x 197, x 198, x 199, x 200, x 201, x 202, x 203, x 204, x 205, x 206, x 207, x 208, x 209, x 210, x 211, x 212, x 213, x 214, x 215, x 216, x 217, x 218, x 219, x 220, x 221, x 222, x 223, x 224, x 225, x 226, x 227, x 228, x 229, x 230, x 231, x 232, x 233, x 234, x 235, x 236, x 237, x 238, x 239, x 240, x 241, x 242, x 243, x 244, x 245, x 246, x 247, x 248, x 249, x 250, x 251, x 252, x 253, x 254, x 255, x 256, x 257, x 258, x 259, x 260, x 261, x 262, x 263, x 264, x 265, x 266, x 267, x 268, x 269, x 270, x 271, x 272, x 273, x 274, x 275, x 276, x 277, x 278, x 279, x 280, x 281, x 282, x 283, x 284, x 285, x 286, x 287, x 288, x 289, x 290, x 291, x 292, x 293, x 294, x 295, x 296, x 297, x 298, x 299, x 300, x 301, x 302, x 303, x 304, x 305, x 306, x 307, x 308, x 309, x 310, x 311, x 312, x 313, x 314, x 315, x 316, x 317, x 318, x 319, x 320, x 321, x 322, x 323, x 324, x 325, x 326, x 327, x 328, x 329, x 330, x 331, x 332, x 333, x 334, x 335, x 336, x 337, x 338, x 339, x 340, x 341, x 342, x 343, x 344], []⟩ wa := by
  have hnb := hn.few
  have hmb := hm.few
  have hpb := hp.few
  have hqs := qdir_size q
  have Hb01 := Lib.hid (show ∀ k : Nat, Two bD bF k → ¬ k < w0.heap.size from fun k hT => hT.elim (fun e => by omega) (fun e => by omega))
  have HD := Lib.hid hD
  have HE := Lib.hid hE
  have Hbn := Lib.hid hbn
  have HRc := Lib.hid hRc
  have HF := Lib.hid hF
  have Hsep := Lib.hid hsep
  have Hcb := Lib.hid hcb
  have Hch := Lib.hid hch
  have HR := Lib.hid hR
  have HH := Lib.hid hH
  have HU := Lib.hid hU
  have HC := Lib.hid hCb
  have Hn := Lib.hid hn
  have Hm := Lib.hid hm
  have Hp := Lib.hid hp
  have Hrl := Lib.hid hrl
  clear hD hE hbn hRc hF hsep hch hR hH hU hCb hn hm hp hrl hcb
  conv => arg 2; whnf
  go_wp2_with fail
  refine (hand8 outB wa).mono ?_
  rintro e1 w1 ⟨hh, mm, rfl, hh1, hh2, hhd, hc1⟩
  have hlD := HD.out.lt
  have hlE := HE.out.lt
  have hmatch := match15 hh mm R g n n bD bF m p q f c (keys h m) (keys u p) w1 hq hnb (Nat.le_refl _) (by omega) hhd (hc1.cell HRc.out (fun h => h)) (fun i hi => ⟨hc1.cell (HF.out i hi).1 (fun h => h), hc1.cell (HF.out i hi).2.1 (fun h => h), hc1.cell (HF.out i hi).2.2 (fun h => h)⟩) (HD.out.kept hc1 (fun h => h)) (HE.out.kept hc1 (fun h => h))
    (fun x hx => by
      rcases hx with rfl | rfl | rfl | rfl
      · rintro (e | e) <;> omega
      · rintro (e | e) <;> omega
      · exact Hsep.out _ (.inl rfl)
      · exact Hsep.out _ (.inr rfl)) Hbn.out hmb hpb (fun i hi => ⟨Hrl.out i hi, Hn.out.short i hi⟩)
  have Hmatch := Lib.hid (match9 _ _ q n bD bF m p f c (keys h m) (keys u p) w1 hmatch)
  have Hc1 := Lib.hid hc1
  clear hmatch hhd hc1
  go_wp2_with fail
  refine Hmatch.out.mono ?_
  intro e1 w2 hdo
  clear Hmatch
  obtain ⟨S, H, v17, v18, v19, v20, hS, rfl, hsc, hA, hH1, hH2⟩ := dout_form hdo
  have Hsc := Lib.hid hsc
  have HA := Lib.hid hA
  have HH1 := Lib.hid hH1
  have HH2 := Lib.hid hH2
  clear hdo hsc hA hH1 hH2
  go_upto_if 121 with fail
  go_cut [21] (fun v wx => v = .string (qdir q) ∧ wx = w2)
  case first =>
    cases hb : q.toList.isEmpty
    · have e := Lib.hid (qdir_cons hb)
      have hb2 : (!q.toList.isEmpty) = true := by rw [hb]; rfl
      have hx : ¬ 9223372036854775807 < q.size + 1 := by omega
      go_wp2_with fail
      go_meet
      case rel => exact ⟨congrArg Value.string e.out.symm, rfl⟩
    · have e := Lib.hid (qdir_nil hb)
      have hb2 : (!q.toList.isEmpty) = false := by rw [hb]; rfl
      go_wp2_with fail
      go_meet
      case rel => exact ⟨congrArg Value.string e.out.symm, rfl⟩
  case rest =>
  obtain ⟨rfl, rfl⟩ := hcut
  have hx7 : ¬ 9223372036854775807 < (qdir q).size + 10 := by omega
  go_upto_block 6 with fail
  go_cut [23, 24] (fun v i wx => v = .int .i64 H ∧ wx = wc)
  case first =>
    go_wp2_with fail
    go_loop [23, 24] (fun v i => ∃ k : Nat, k ≤ S ∧ i = .int .i64 k ∧ v = .int .i64 (-1)) (fun _ i => S - (intOf i).toNat)
    case atStart => exact ⟨0, Nat.zero_le _, rfl, rfl⟩
    case round =>
      obtain ⟨k, hk, rfl, rfl⟩ := hrel
      by_cases hlt : k < n
      · rcases HR.out with h0 | ⟨g1, o1, rfl, hR1⟩
        · omega
        have hcell := (((Hch.out.trans Hc1.out (fun _ _ h => h)).trans (Hsc.out.chg) (fun k hk hT => Hb01.out _ hT hk))).cell (hR1 k hlt) (fun h => h)
        unfold strAt at hcell
        clear hR1
        have hx : (k : Int) < (n : Int) := by omega
        have hx0 : (0 : Int) ≤ (k : Int) := by omega
        cases hqe : ((f k).toList == q.toList)
        · cases hqi : ((f k).toList == (qdir q ++ ⟨#[105, 110, 100, 101, 120, 46, 104, 116, 109, 108]⟩).toList)
          · have hno : ¬ Hit (f k) q := fun hh => hh.elim ((toList_beq hqe).2 rfl) ((toList_beq hqi).2 rfl)
            have hkS : k < S := by
              refine Nat.lt_of_le_of_ne hk fun e => ?_
              subst e
              exact hno (HH1.out hlt).1
            clear hno
            go_wp2_with fail
            go_round
            case rel => exact ⟨k + 1, hkS, by go_num, rfl⟩
            case measure => simp [intOf]; omega
          · have hyes : Hit (f k) q := .inr ((toList_beq hqi).1 rfl)
            have hkS : k = S := by
              refine Nat.le_antisymm hk (Nat.le_of_not_lt fun e => Hsc.out.no k e hyes)
            subst hkS
            have hHk := (HH1.out hlt).2
            have HHk := Lib.hid hHk
            clear hHk hyes
            go_wp2_with fail
            go_meet
            case rel => exact ⟨by rw [HHk.out], rfl⟩
        · have hyes : Hit (f k) q := .inl ((toList_beq hqe).1 rfl)
          have hkS : k = S := by
            refine Nat.le_antisymm hk (Nat.le_of_not_lt fun e => Hsc.out.no k e hyes)
          subst hkS
          have hHk := (HH1.out hlt).2
          have HHk := Lib.hid hHk
          clear hHk hyes
          go_wp2_with fail
          go_meet
          case rel => exact ⟨by rw [HHk.out], rfl⟩
      · have hkS : S = n := by omega
        have hkn : k = n := by omega
        have hHk := HH2.out hkS
        have HHk := Lib.hid hHk
        subst hkn
        have hx : ¬ ((k : Nat) : Int) < (k : Int) := by omega
        clear hHk
        go_wp2_with fail
        go_meet
        case rel => exact ⟨by rw [HHk.out], rfl⟩
  case rest =>
  obtain ⟨rfl, rfl⟩ := hcut
  have hc0 : Chg Nowhere w0 wc := ((Hch.out.trans Hc1.out (fun _ _ h => h)).trans (Hsc.out.chg) (fun k hk hT => Hb01.out _ hT hk))
  have hcon : Con wc w0.heap.size n c := fun i hi => by
    obtain ⟨g1, g2, g3, g4, g5⟩ := HC.out i hi
    exact ⟨(g1.kept Hc1.out (fun _ _ _ h => h)).kept Hsc.out.chg (fun g o e => Hcb.out i hi g o e), g2, g3, g4, fun g o e => ⟨(g5 g o e).1, Nat.lt_of_lt_of_le (g5 g o e).2 (Nat.le_trans Hc1.out.size Hsc.out.chg.size)⟩⟩
  go_step
  exact tail18' q f h u c a b y n cn m cm p cp bD bF (m + S) (p + S) S w0 wc Hsc.out.d Hsc.out.e hS hc0 (HR.out.kept hc0 (fun _ _ _ h => h)) (HH.out.kept hc0 (fun _ _ _ h => h)) (HU.out.kept hc0 (fun _ _ _ h => h)) Hn.out Hm.out Hp.out hcon v17 v18 v19 v20 (.int .i64 H) HA.out hq _ rfl rfl rfl rfl rfl rfl rfl rfl rfl rfl rfl rfl rfl rfl
end Go.Proofs.YtambbfgmbfamkaaGreatDoor
