/-
  Proved: printNonNegativeFloat's piece that simplifies the exponent. No statement of the seat stands here.
-/
import Derived.Test.YtmlgfhdjdmfdbaaDoorNg
namespace Go.Proofs.YtmlgfhdjdmfdbaaDoor
open Go.RowKit Go.ChangeAt
set_option linter.unusedSimpArgs false
set_option linter.unusedVariables false
set_option maxRecDepth 1000000
set_option maxHeartbeats 16000000 in
theorem cond52 (b f : Nat) (mn : Bool) (T r : List UInt8) (hTl : T.length ≤ 1000) (HS : Hid (Simp T r)) (w : World) (hPl : b < w.heap.size) (g cap : Nat) (w3 : World) (HR0 : Hid (Row w.heap.size g 0 cap T w3)) (hw1 : w.heap.size ≤ g)
    (Hst : Hid (Stands b mn w T (.slice (some ⟨g, 0, none⟩) T.length cap) w3)) (k : Int) (hk : LastIs T 101 k) (x : Nat → Value) (K0 : Act → World → Prop) (Post : Ending → World → Prop) (hok : ∀ a' w', Keeps b f mn w r a' w' → K0 a' w') :
    Code.wp Tryd.prog C52 (Exit.then K0 (bodyPost Tryd.prog Tryd.f8 Post)) ⟨#[.pointer (some ⟨b, 0, none⟩), .float .f64 f, x 2, x 3, x 4, .slice (some ⟨g, 0, none⟩) T.length cap, .int .i64 k, x 7, x 8, x 9, x 10, x 11, x 12, x 13, x 14, x 15, x 16, x 17, x 18, x 19, x 20, x 21, x 22, x 23, x 24, x 25, x 26, x 27, x 28, x 29, x 30, x 31, x 32, x 33, x 34, x 35, x 36, x 37, x 38, x 39, x 40, x 41, x 42, x 43, x 44, x 45, x 46, x 47, x 48, x 49, x 50, x 51, .bool (k != -1), x 53, x 54, x 55, x 56, x 57, x 58, x 59, x 60, x 61, x 62, x 63, x 64, x 65, x 66, x 67, x 68, x 69, x 70, x 71, x 72, x 73, x 74, x 75, x 76, x 77, x 78, x 79, x 80, x 81, x 82, x 83, x 84, x 85, x 86, x 87, x 88, x 89, x 90, x 91, x 92, x 93, x 94, x 95, x 96, x 97, x 98, x 99, x 100, x 101, x 102, x 103, x 104, x 105, x 106, x 107, x 108, x 109, x 110, x 111, x 112, x 113, x 114, x 115, x 116, x 117, x 118, x 119, x 120, x 121, x 122, x 123, x 124, x 125, x 126, x 127, x 128, x 129, x 130, x 131, x 132, x 133, x 134, x 135, x 136, x 137, x 138, x 139, x 140, x 141, x 142, x 143, x 144, x 145, x 146, x 147, x 148, x 149, x 150, x 151, x 152, x 153, x 154, x 155, x 156, x 157, x 158, x 159, x 160, x 161, x 162, x 163, x 164, x 165, x 166, x 167, x 168, x 169, x 170, x 171, x 172, x 173, x 174, x 175, x 176, x 177, x 178, x 179, x 180, x 181, x 182, x 183, x 184, x 185, x 186, x 187, x 188, x 189, x 190, x 191, x 192, x 193, x 194, x 195, x 196, x 197, x 198, x 199, x 200, x 201, x 202, x 203, x 204, x 205, x 206, x 207, x 208, x 209, x 210, x 211, x 212, x 213, x 214, x 215, x 216, x 217, x 218, x 219, x 220, x 221, x 222, x 223, x 224, x 225, x 226, x 227, x 228, x 229, x 230, x 231, x 232, x 233, x 234, x 235, x 236, x 237, x 238, x 239, x 240, x 241, x 242, x 243, x 244, x 245, x 246, x 247, x 248, x 249, x 250, x 251, x 252, x 253, x 254, x 255, x 256, x 257, x 258, x 259, x 260, x 261, x 262, x 263, x 264, x 265, x 266, x 267, x 268, x 269, x 270, x 271, x 272, x 273, x 274, x 275, x 276, x 277, x 278, x 279, x 280, x 281, x 282, x 283, x 284, x 285, x 286, x 287, x 288, x 289, x 290, x 291, x 292, x 293, x 294, x 295, x 296, x 297, x 298, x 299, x 300, x 301, x 302, x 303, x 304, x 305, x 306, x 307, x 308, x 309, x 310], []⟩ w3 := by
  have Hok := Lib.hid hok
  clear hok
  have hgl := HR0.out.lt
  conv => arg 2; whnf
  rcases HS.out with ⟨h, rfl⟩ | ⟨pre, es, neg, z, hT, hr, hz, hes⟩
  · have hkv : k = -1 := by
      rcases hk with ⟨h1, _⟩ | ⟨j, h1, h2, h3, _⟩
      · exact h1
      · exact absurd h3 (h.at j h2)
    subst hkv
    go_wp2_with fail
    exact Hok.out _ _ ⟨rfl, rfl, rfl, rfl, _, rfl, Hst.out⟩
  · obtain rfl : k = (pre.length : Int) := hk.uniq (hT ▸ mkE_last pre es neg z hes)
    have hat : ExpAt T pre.length z neg := by rw [hT]; exact mkE_at pre es neg z hes hz
    have hcut : T.take (pre.length + (if neg then 2 else 1)) ++ T.drop (pre.length + 2 + z) = r := by rw [hT, hr]; exact mkE_cut pre es neg z
    have Hcut := Lib.hid hcut
    have HT := Lib.hid hT
    clear hT hr hcut hes
    generalize pre.length = K at *
    have hln := hat.len
    have c1 := HR0.out.nb (K + 1) (by omega)
    have c2 := HR0.out.nb (K + 2) (by omega)
    rw [Nat.zero_add] at c1 c2
    have hsg := hat.sg
    rw [hsg] at c1
    have hcapl := HR0.out.len
    have hcapm := HR0.out.capb
    have f1 : (0 : Int) ≤ (K : Int) + 1 := by omega
    have f2 : (K : Int) + 1 < (T.length : Int) := by omega
    have f3 : ((K : Int) == -1) = false := by simp
    have Hat := Lib.hid hat
    clear hat hsg
    cases neg
    · simp only [Bool.false_eq_true, if_false] at c1
      go_wp2_with fail
      go_loopw [7] (fun c7 wr => wr = w3 ∧ ∃ p : Nat, c7 = .int .i64 (p : Int) ∧ (p = K + 2 ∨ p = K + 3 ∧ z = 1)) (fun c7 _ => K + 4 - (intOf c7).toNat)
      case atStart => exact ⟨rfl, K + 2, congrArg (Value.int .i64) (by omega), .inl rfl⟩
      case round =>
        obtain ⟨rfl, p, rfl, hp⟩ := hrel
        have hpl : p < T.length := by have := Hat.out.len; omega
        have cp := HR0.out.nb p hpl
        rw [Nat.zero_add] at cp
        have g0 : (0 : Int) ≤ (p : Int) := by omega
        have g1 : (p : Int) < (T.length : Int) := by omega
        by_cases h48 : nb T p = 48
        · have hz1 : p = K + 2 ∧ z = 1 := by
            rcases hp with rfl | ⟨rfl, h1⟩
            · by_cases h0 : z = 0
              · exact absurd h48 (Hat.out.z0 h0)
              · exact ⟨rfl, by omega⟩
            · exact absurd h48 (Hat.out.z1 h1).2
          rw [h48] at cp
          have HZ := Lib.hid hz1
          clear h48 hz1 hp c2
          go_wp2_with fail
          go_roundw
          case rel => exact ⟨trivial, p + 1, by go_num, .inr ⟨by have := HZ.out; omega, HZ.out.2⟩⟩
          case measure => have := HZ.out; simp [intOf]; omega
        · have hpz : p = K + 2 + z := by
            rcases hp with rfl | ⟨rfl, h1⟩
            · by_cases h1 : z = 1
              · exact absurd (Hat.out.z1 h1).1 h48
              · omega
            · omega
          have hq : (((nb T p : Nat) : Int) == 48) = false := by simp; omega
          obtain ⟨y, hy⟩ : ∃ y, nb T p = y := ⟨_, rfl⟩
          rw [hy] at cp hq
          have g2 : (p : Int) ≤ (T.length : Int) := by omega
          have g3 : (p : Int) ≤ (cap : Int) := by omega
          have g4 : ((K : Int) + 1) ≤ (cap : Int) := by omega
          have g5 : ((K : Int) + 1 + 1) ≤ (cap : Int) := by omega
          have g6 : (0 : Int) ≤ (K : Int) + 1 + 1 := by omega
          have g7 : ((K : Int) + 1 + 1).toNat = K + 2 := by omega
          have g8 : ¬ (cap = p) := by have := HR0.out.len; omega
          have g9 : w.heap.size ≤ wr.heap.size := by have := HR0.out.lt; omega
          have hlen : K + 1 + (T.length - p) = r.length := by
            rw [← Hcut.out, List.length_append, List.length_take, List.length_drop]
            simp only [Bool.false_eq_true, if_false]
            omega
          have hfin : T.take (K + 1) ++ T.drop p = r := by rw [← Hcut.out, hpz]; simp only [Bool.false_eq_true, if_false]
          have Hfin := Lib.hid hfin
          have Hlen := Lib.hid hlen
          clear hp h48 hy hfin hlen hpz c2
          go_wp2_with fail
          go_region_law (go_loud (refine step_row_append rfl (.tmp 85) (.tmp 88) rfl w.heap.size g 0 cap (K + 1) (T.take (K + 1)) (by simp [Act.eval, Act.put]) (by rw [List.length_take]; omega) (((HR0.out.pre (K + 1) (by omega)).kept ((Chg.refl Nowhere _).drew) (fun h => h))) ⟨g, p, none⟩ (T.length - p) (cap - p) (T.drop p) (by simp [Act.eval, Act.put, g8]) (by rw [List.length_drop]) (by have := HR0.out.tail p; rw [Nat.zero_add] at this; exact this) (by rw [List.length_take, List.length_drop]; omega) (show w.heap.size ≤ wr.drew.heap.size from g9) ?_; intro g' off' cap' w' hR' hch' hor'; have HR' := Lib.hid hR'; have Hch' := Lib.hid hch'; clear hR' hch' hor'))
          all_goals
            go_wp2_with fail
            obtain ⟨ga, oa, ca, _, ra, pa, cha⟩ := Hst.out
            have HR2 := HR'.out
            rw [Hfin.out] at HR2
            exact Hok.out _ _ ⟨rfl, rfl, rfl, rfl, _, rfl, Stands.step hPl hw1 pa cha Hlen.out HR2 (((Chg.refl _ _).drew).trans Hch'.out (fun _ _ h => h))⟩
    · simp only [if_true] at c1
      go_wp2_with fail
      go_loopw [7] (fun c7 wr => wr = w3 ∧ ∃ p : Nat, c7 = .int .i64 (p : Int) ∧ (p = K + 2 ∨ p = K + 3 ∧ z = 1)) (fun c7 _ => K + 4 - (intOf c7).toNat)
      case atStart => exact ⟨rfl, K + 2, congrArg (Value.int .i64) (by omega), .inl rfl⟩
      case round =>
        obtain ⟨rfl, p, rfl, hp⟩ := hrel
        have hpl : p < T.length := by have := Hat.out.len; omega
        have cp := HR0.out.nb p hpl
        rw [Nat.zero_add] at cp
        have g0 : (0 : Int) ≤ (p : Int) := by omega
        have g1 : (p : Int) < (T.length : Int) := by omega
        by_cases h48 : nb T p = 48
        · have hz1 : p = K + 2 ∧ z = 1 := by
            rcases hp with rfl | ⟨rfl, h1⟩
            · by_cases h0 : z = 0
              · exact absurd h48 (Hat.out.z0 h0)
              · exact ⟨rfl, by omega⟩
            · exact absurd h48 (Hat.out.z1 h1).2
          rw [h48] at cp
          have HZ := Lib.hid hz1
          clear h48 hz1 hp c2
          go_wp2_with fail
          go_roundw
          case rel => exact ⟨trivial, p + 1, by go_num, .inr ⟨by have := HZ.out; omega, HZ.out.2⟩⟩
          case measure => have := HZ.out; simp [intOf]; omega
        · have hpz : p = K + 2 + z := by
            rcases hp with rfl | ⟨rfl, h1⟩
            · by_cases h1 : z = 1
              · exact absurd (Hat.out.z1 h1).1 h48
              · omega
            · omega
          have hq : (((nb T p : Nat) : Int) == 48) = false := by simp; omega
          obtain ⟨y, hy⟩ : ∃ y, nb T p = y := ⟨_, rfl⟩
          rw [hy] at cp hq
          have g2 : (p : Int) ≤ (T.length : Int) := by omega
          have g3 : (p : Int) ≤ (cap : Int) := by omega
          have g4 : ((K : Int) + 1) ≤ (cap : Int) := by omega
          have g5 : ((K : Int) + 1 + 1) ≤ (cap : Int) := by omega
          have g6 : (0 : Int) ≤ (K : Int) + 1 + 1 := by omega
          have g7 : ((K : Int) + 1 + 1).toNat = K + 2 := by omega
          have g8 : ¬ (cap = p) := by have := HR0.out.len; omega
          have g9 : w.heap.size ≤ wr.heap.size := by have := HR0.out.lt; omega
          have hlen : K + 2 + (T.length - p) = r.length := by
            rw [← Hcut.out, List.length_append, List.length_take, List.length_drop]
            simp only [if_true]
            omega
          have hfin : T.take (K + 2) ++ T.drop p = r := by rw [← Hcut.out, hpz]; simp only [if_true]
          have Hfin := Lib.hid hfin
          have Hlen := Lib.hid hlen
          clear hp h48 hy hfin hlen hpz c2
          go_wp2_with fail
          go_region_law (go_loud (refine step_row_append rfl (.tmp 85) (.tmp 88) rfl w.heap.size g 0 cap (K + 2) (T.take (K + 2)) (by simp [Act.eval, Act.put]) (by rw [List.length_take]; omega) (((HR0.out.pre (K + 2) (by omega)).kept ((Chg.refl Nowhere _).drew) (fun h => h))) ⟨g, p, none⟩ (T.length - p) (cap - p) (T.drop p) (by simp [Act.eval, Act.put, g8]) (by rw [List.length_drop]) (by have := HR0.out.tail p; rw [Nat.zero_add] at this; exact this) (by rw [List.length_take, List.length_drop]; omega) (show w.heap.size ≤ wr.drew.heap.size from g9) ?_; intro g' off' cap' w' hR' hch' hor'; have HR' := Lib.hid hR'; have Hch' := Lib.hid hch'; clear hR' hch' hor'))
          all_goals
            go_wp2_with fail
            obtain ⟨ga, oa, ca, _, ra, pa, cha⟩ := Hst.out
            have HR2 := HR'.out
            rw [Hfin.out] at HR2
            exact Hok.out _ _ ⟨rfl, rfl, rfl, rfl, _, rfl, Stands.step hPl hw1 pa cha Hlen.out HR2 (((Chg.refl _ _).drew).trans Hch'.out (fun _ _ h => h))⟩
end Go.Proofs.YtmlgfhdjdmfdbaaDoor
