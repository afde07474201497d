/-
  Proved: the law's building of the result's box and of the program's two sets. No statement of the seat stands here.
-/
import Derived.Test.YtambbfgmbfamkaaGreatDoorLawg
namespace Go.Proofs.YtambbfgmbfamkaaGreatDoor
open Go.RowKit Go.ChangeAt
set_option linter.unusedSimpArgs false
set_option linter.unusedVariables false
set_option maxRecDepth 1000000
theorem tail11' (q : ByteArray) (f h u : Nat → ByteArray) (c : Nat → Option Addr × Nat × Nat) (a b y : Option Addr) (n cn m cm p cp bD bF R g : Nat) (w0 wa : World)
    (hD : SetAt Tryz.prog 9 4 wa bD m (keys h m)) (hE : SetAt Tryz.prog 9 4 wa bF p (keys u p)) (hbn : bD ≠ bF) (hRc : wa.cell? ⟨R, 2, none⟩ = some (.slice (some ⟨g, 0, none⟩) n n)) (hF : Fil wa g n f c) (hsep : ∀ x, x = R ∨ x = g → ¬ Two bD bF x) (hb0 : w0.heap.size ≤ bD) (hb1 : w0.heap.size ≤ bF) (hCb : Con wa w0.heap.size n c) (hcb : ∀ i, i < n → ∀ g o, (c i).1 = some ⟨g, o, none⟩ → ¬ Two bD bF g)
    (hch : Chg Nowhere w0 wa) (hR : Reads w0 a n (strAt f)) (hH : Reads w0 b m (strAt h)) (hU : Reads w0 y p (strAt u)) (hn : Small f n) (hm : Small h m) (hp : Small u p) (hrl : ∀ i, i < n → Rel (f i).data.toList) (hq : q.size ≤ 1048576)
    (t : Act) (hd : t.defers = []) (hs : t.tmps.size = 345) (h0 : t.tmps[0]? = some (.string q)) (h1 : t.tmps[1]? = some (.slice a n cn)) (h2 : t.tmps[2]? = some (.slice b m cm)) (h3 : t.tmps[3]? = some (.slice y p cp)) (h11 : t.tmps[11]? = some (.pointer (some ⟨R, 0, none⟩))) (h12 : t.tmps[12]? = some (.map (some bD))) (h13 : t.tmps[13]? = some (.map (some bF))) :
    Code.wp Tryz.prog T11 (bodyPost Tryz.prog Tryz.f3 (LawOut w0)) t wa := by
  obtain ⟨x, rfl⟩ := lit11 t hd hs h0 h1 h2 h3 h11 h12 h13
  exact tail11 q f h u c a b y n cn m cm p cp bD bF R g w0 wa hD hE hbn hRc hF hsep hb0 hb1 hCb hcb hch hR hH hU hn hm hp hrl hq x
theorem box6 (wa : World) (cs : Array Value) (v : Value) (hv : cs[2]? = some v) : (((wa.alloc (.cells cs 34)).alloc (.map #[] 0)).alloc (.map #[] 0)).cell? ⟨wa.heap.size, 2, none⟩ = some v ∧
    SetAt Tryz.prog 9 4 (((wa.alloc (.cells cs 34)).alloc (.map #[] 0)).alloc (.map #[] 0)) (wa.heap.size + 1) 0 [] ∧ SetAt Tryz.prog 9 4 (((wa.alloc (.cells cs 34)).alloc (.map #[] 0)).alloc (.map #[] 0)) (wa.heap.size + 1 + 1) 0 [] ∧
    Chg Nowhere wa (((wa.alloc (.cells cs 34)).alloc (.map #[] 0)).alloc (.map #[] 0)) := by
  have s1 : (wa.alloc (.cells cs 34)).heap.size = wa.heap.size + 1 := by simp
  have s2 : ((wa.alloc (.cells cs 34)).alloc (.map #[] 0)).heap.size = wa.heap.size + 1 + 1 := by simp
  have h1 := SetAt.made (P := Tryz.prog) (ks := 9) (eb := 4) (wa.alloc (.cells cs 34))
  have h2 := SetAt.made (P := Tryz.prog) (ks := 9) (eb := 4) ((wa.alloc (.cells cs 34)).alloc (.map #[] 0))
  rw [s1] at h1
  rw [s2] at h2
  have c0 := (cell_of_heap (heap_alloc_new wa (.cells cs 34)) 2).trans hv
  exact ⟨(((Chg.refl Nowhere _).alloc _).alloc _).cell c0 (fun h => h), h1.kept ((Chg.refl Nowhere _).alloc _) (fun h => h), h2, (((Chg.refl _ _).alloc _).alloc _).alloc _⟩
set_option maxHeartbeats 16000000 in
theorem tail6 (q : ByteArray) (f h u : Nat → ByteArray) (c : Nat → Option Addr × Nat × Nat) (a b y : Option Addr) (n cn m cm p cp g : Nat) (w0 wa : World)
    (hF : Fil wa g n f c) (hg : g < wa.heap.size) (hCb : Con wa w0.heap.size n c) (hch : Chg Nowhere w0 wa) (hR : Reads w0 a n (strAt f)) (hH : Reads w0 b m (strAt h)) (hU : Reads w0 y p (strAt u)) (hn : Small f n) (hm : Small h m) (hp : Small u p) (hrl : ∀ i, i < n → Rel (f i).data.toList) (hq : q.size ≤ 1048576) (x : Nat → Value) :
    Code.wp Tryz.prog T6 (bodyPost Tryz.prog Tryz.f3 (LawOut w0)) ⟨#[.string q, .slice a n cn, .slice b m cm, .slice y p cp, x 4, x 5, x 6, x 7, x 8, .slice (some ⟨g, 0, none⟩) n n, x 10, x 11, x 12, x 13, x 14, x 15, x 16, x 17, x 18, x 19, x 20, x 21, x 22, x 23, x 24, x 25, x 26, x 27, x 28, x 29, x 30, x 31, x 32, x 33, x 34, x 35, x 36, x 37, x 38, x 39, x 40, x 41, x 42, x 43, x 44, x 45, x 46, x 47, x 48, x 49, x 50, x 51, x 52, x 53, x 54, x 55, x 56, x 57, x 58, x 59, x 60, x 61, x 62, x 63, x 64, x 65, x 66, x 67, x 68, x 69, x 70, x 71, x 72, x 73, x 74, x 75, x 76, x 77, x 78, x 79, x 80, x 81, x 82, x 83, x 84, x 85, x 86, x 87, x 88, x 89, x 90, x 91, x 92, x 93, x 94, x 95, x 96, x 97, x 98, x 99, x 100, x 101, x 102, x 103, x 104, x 105, x 106, x 107, x 108, x 109, x 110, x 111, x 112, x 113, x 114, x 115, x 116, x 117, x 118, x 119, x 120, x 121, x 122, x 123, x 124, x 125, x 126, x 127, x 128, x 129, x 130, x 131, x 132, x 133, x 134, x 135, x 136, x 137, x 138, x 139, x 140, x 141, x 142, x 143, x 144, x 145, x 146, x 147, x 148, x 149, x 150, x 151, x 152, x 153, x 154, x 155, x 156, x 157, x 158, x 159, x 160, x 161, x 162, x 163, x 164, x 165, x 166, x 167, x 168, x 169, x 170, x 171, x 172, x 173, x 174, x 175, x 176, x 177, x 178, x 179, x 180, x 181, x 182, x 183, x 184, x 185, x 186, x 187, x 188, x 189, x 190, x 191, x 192, x 193, x 194, x 195, x 196, x 197, x 198, x 199, x 200, x 201, x 202, x 203, x 204, x 205, x 206, x 207, x 208, x 209, x 210, x 211, x 212, x 213, x 214, x 215, x 216, x 217, x 218, x 219, x 220, x 221, x 222, x 223, x 224, x 225, x 226, x 227, x 228, x 229, x 230, x 231, x 232, x 233, x 234, x 235, x 236, x 237, x 238, x 239, x 240, x 241, x 242, x 243, x 244, x 245, x 246, x 247, x 248, x 249, x 250, x 251, x 252, x 253, x 254, x 255, x 256, x 257, x 258, x 259, x 260, x 261, x 262, x 263, x 264, x 265, x 266, x 267, x 268, x 269, x 270, x 271, x 272, x 273, x 274, x 275, x 276, x 277, x 278, x 279, x 280, x 281, x 282, x 283, x 284, x 285, x 286, x 287, x 288, x 289, x 290, x 291, x 292, x 293, x 294, x 295, x 296, x 297, x 298, x 299, x 300, x 301, x 302, x 303, x 304, x 305, x 306, x 307, x 308, x 309, x 310, x 311, x 312, x 313, x 314, x 315, x 316, x 317, x 318, x 319, x 320, x 321, x 322, x 323, x 324, x 325, x 326, x 327, x 328, x 329, x 330, x 331, x 332, x 333, x 334, x 335, x 336, x 337, x 338, x 339, x 340, x 341, x 342, x 343, x 344], []⟩ wa := by
  have hnb := hn.few
  have hmb := hm.few
  have hpb := hp.few
  have HF := Lib.hid hF
  have Hch := Lib.hid hch
  have HR := Lib.hid hR
  have HH := Lib.hid hH
  have HU := Lib.hid hU
  have HC := Lib.hid hCb
  have Hn := Lib.hid hn
  have Hm := Lib.hid hm
  have Hp := Lib.hid hp
  have Hrl := Lib.hid hrl
  have hmm := @run_makeMap Tryz.prog
  clear hF hch hR hH hU hCb hn hm hp hrl
  conv => arg 2; whnf
  go_wp2_with fail
  obtain ⟨hb1, hb2, hb3, hb4⟩ := box6 wa #[.slice none 0 0, .slice none 0 0, .slice (some ⟨g, 0, none⟩) n n, .string ⟨#[]⟩, .map none] _ rfl
  generalize ((wa.alloc (.cells #[.slice none 0 0, .slice none 0 0, .slice (some ⟨g, 0, none⟩) n n, .string ⟨#[]⟩, .map none] 34)).alloc (.map #[] 0)).alloc (.map #[] 0) = w3 at hb1 hb2 hb3 hb4 ⊢
  obtain ⟨R, hRe⟩ : ∃ v, v = wa.heap.size := ⟨_, rfl⟩
  obtain ⟨bD, hbD⟩ : ∃ v, v = R + 1 := ⟨_, rfl⟩
  obtain ⟨bF, hbF⟩ : ∃ v, v = R + 1 + 1 := ⟨_, rfl⟩
  rw [← hRe] at hb1 hb2 hb3 hg ⊢
  rw [← hbF] at hb3 ⊢
  rw [← hbD] at hb2 ⊢
  have hw0 := Hch.out.size
  rw [← hRe] at hw0
  have HbD := Lib.hid hb2
  have HbF := Lib.hid hb3
  have Hb1 := Lib.hid hb1
  have Hb4 := Lib.hid hb4
  have Hold_14 := Lib.hid (Hch.out.trans hb4 (fun _ _ h => h))
  have hRa : wa.heap.size ≤ R := Nat.le_of_eq hRe.symm
  have hRD : R < bD := by omega
  have hDF : bD < bF := by omega
  clear hb1 hb2 hb3 hb4 hmm hRe hbD hbF
  go_loopw [14] (fun i wr => ∃ k : Nat, k ≤ m ∧ i = .int .i64 k ∧ SetAt Tryz.prog 9 4 wr bD k (keys h k) ∧ Chg (fun x => x = bD) w3 wr) (fun i _ => m - (intOf i).toNat)
  case atStart => exact ⟨0, Nat.zero_le _, rfl, HbD.out, Chg.refl _ _⟩
  case round =>
    obtain ⟨k, hk, rfl, hset, hchr⟩ := hrel
    rename World => wr
    have Hset := Lib.hid hset
    have Hchr := Lib.hid hchr
    clear hset hchr
    by_cases hlt : k < m
    · rcases HH.out with h0 | ⟨g1, o1, rfl, hR1⟩
      · omega
      have hcell := (Hold_14.out.trans Hchr.out (fun k hk e => by omega)).cell (hR1 k hlt) (fun h => h)
      unfold strAt at hcell
      clear hR1
      have hx : (k : Int) < (m : Int) := by omega
      have hx0 : (0 : Int) ≤ (k : Int) := by omega
      have hfs := Hm.out.short k hlt
      have hEs : (h k).size ≤ maxLen := by unfold maxLen; omega
      obtain ⟨w7, hput, hset, hch7⟩ := run_set_put (t := 35) Tryz.underlying35 Tryz.underlying9 Tryz.underlying4 Hset.out (by omega) (h k) hEs
      have Hput := Lib.hid (And.intro hset hch7)
      clear hset hch7
      go_wp2_with fail
      go_roundw
      case rel => exact ⟨k + 1, hlt, by go_num, Hput.out.1, Hchr.out.trans Hput.out.2 (fun _ _ h => h)⟩
      case measure => simp [intOf]; omega
    · obtain rfl : k = m := by omega
      have hx : ¬ ((k : Nat) : Int) < (k : Int) := by omega
      have HbD4 := Lib.hid Hset.out
      have HbF4 := Lib.hid (HbF.out.kept Hchr.out (fun e => by omega))
      have Hold_15 := Lib.hid (Hold_14.out.trans Hchr.out (fun k hk e => by omega))
      have Hc34 := Lib.hid Hchr.out
      clear Hset Hchr HbF hx hlt
      obtain ⟨w4, hw4⟩ : ∃ v : World, v = wr := ⟨_, rfl⟩
      subst hw4
      go_wp2_with fail
      go_loopw [15] (fun i wr => ∃ k : Nat, k ≤ p ∧ i = .int .i64 k ∧ SetAt Tryz.prog 9 4 wr bF k (keys u k) ∧ Chg (fun x => x = bF) w4 wr) (fun i _ => p - (intOf i).toNat)
      case atStart => exact ⟨0, Nat.zero_le _, rfl, HbF4.out, Chg.refl _ _⟩
      case round =>
        obtain ⟨k, hk, rfl, hset, hchr⟩ := hrel
        rename World => wr
        have Hset := Lib.hid hset
        have Hchr := Lib.hid hchr
        clear hset hchr
        by_cases hlt : k < p
        · rcases HU.out with h0 | ⟨g1, o1, rfl, hR1⟩
          · omega
          have hcell := (Hold_15.out.trans Hchr.out (fun k hk e => by omega)).cell (hR1 k hlt) (fun h => h)
          unfold strAt at hcell
          clear hR1
          have hx : (k : Int) < (p : Int) := by omega
          have hx0 : (0 : Int) ≤ (k : Int) := by omega
          have hfs := Hp.out.short k hlt
          have hEs : (u k).size ≤ maxLen := by unfold maxLen; omega
          obtain ⟨w7, hput, hset, hch7⟩ := run_set_put (t := 35) Tryz.underlying35 Tryz.underlying9 Tryz.underlying4 Hset.out (by omega) (u k) hEs
          have Hput := Lib.hid (And.intro hset hch7)
          clear hset hch7
          go_wp2_with fail
          go_roundw
          case rel => exact ⟨k + 1, hlt, by go_num, Hput.out.1, Hchr.out.trans Hput.out.2 (fun _ _ h => h)⟩
          case measure => simp [intOf]; omega
        · obtain rfl : k = p := by omega
          have hx : ¬ ((k : Nat) : Int) < (k : Int) := by omega
          have hcc : Chg Nowhere wa wr := ((Hb4.out.trans Hc34.out (fun k hk e => by omega)).trans Hchr.out (fun k hk e => by omega))
          have hfil : Fil wr g n f c := fun i hi => ⟨hcc.cell (HF.out i hi).1 (fun h => h), hcc.cell (HF.out i hi).2.1 (fun h => h), hcc.cell (HF.out i hi).2.2 (fun h => h)⟩
          have hRc : wr.cell? ⟨R, 2, none⟩ = some (.slice (some ⟨g, 0, none⟩) n n) := Hchr.out.cell (Hc34.out.cell Hb1.out (fun e => by have e' : R = bD := e; omega)) (fun e => by have e' : R = bF := e; omega)
          have hcb : ∀ i, i < n → ∀ g o, (c i).1 = some ⟨g, o, none⟩ → ¬ Two bD bF g := fun i hi g o e hT => by
            have := ((HC.out i hi).2.2.2.2 g o e).2
            rcases hT with e | e <;> omega
          go_upto_if 100 with fail
          iterate 6 go_step
          exact tail11' q f h u c a b y n cn _ cm _ cp bD bF R g w0 wr (HbD4.out.kept Hchr.out (fun e => by omega)) Hset.out (by omega) hRc hfil (fun x hx hT => by rcases hx with rfl | rfl <;> rcases hT with e | e <;> omega) (by omega) (by omega) (HC.out.kept hcc (fun _ _ _ h => h)) hcb (Hch.out.trans hcc (fun _ _ h => h)) HR.out HH.out HU.out Hn.out Hm.out Hp.out Hrl.out hq _ rfl rfl rfl rfl rfl rfl rfl rfl rfl
  end Go.Proofs.YtambbfgmbfamkaaGreatDoor
