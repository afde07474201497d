/-
  Proved: printNonNegativeFloat's piece that shortens the text: neither point nor zero ahead. No statement of the seat stands here.
-/
import Derived.Test.YtmlgfhdjdmfdbaaDoorNj
namespace Go.Proofs.YtmlgfhdjdmfdbaaDoor
open Go.RowKit Go.ChangeAt
set_option linter.unusedSimpArgs false
set_option linter.unusedVariables false
set_option maxRecDepth 1000000
theorem sLen_bd (n : Int) : sLen n ≤ 5 := by
  have := (dl_bd n.natAbs).2
  unfold sLen
  split <;> omega
theorem cut_step (l : List UInt8) (m : Nat) : (nb l m = 48 → cut l (m + 1) = cut l m) ∧ (nb l m ≠ 48 → cut l (m + 1) = m + 1) := by
  have e : l.getD m 0 = 48 ↔ nb l m = 48 := by
    unfold nb
    constructor
    · intro h; rw [h]; rfl
    · intro h; exact UInt8.toNat_inj.1 h
  constructor
  · intro h; rw [cut, if_pos (e.2 h)]
  · intro h; rw [cut, if_neg (fun h2 => h (e.1 h2))]
set_option maxHeartbeats 16000000 in
theorem c99_none (b f : Nat) (mn : Bool) (r : List UInt8) (hrl : r.length ≤ 1000) (w : World) (hPl : b < w.heap.size) (g5 off5 cap5 : Nat) (wc : World) (HR5 : Hid (Row w.heap.size g5 off5 cap5 r wc)) (HP5 : Hid (Pn b mn wc)) (HC5 : Hid (Chg (fun k => k = b) w wc)) (x : Nat → Value) (K0 : Act → World → Prop) (Post : Ending → World → Prop) (N2 : Nat) (hok : ∀ a' w' l, l.length = N2 → Keeps b f mn w l a' w' → K0 a' w') (n : Nat) (hn : r.length = n + 1) (h0 : nb r 0 ≠ 48) (hN : N2 = lenC r) :
    Code.wp Tryd.prog C99 (Exit.then K0 (bodyPost Tryd.prog Tryd.f8 Post)) ⟨#[.pointer (some ⟨b, 0, none⟩), .float .f64 f, x 2, x 3, x 4, .slice (some ⟨g5, off5, none⟩) (n + 1) cap5, x 6, x 7, x 8, .int .i64 (-1), x 10, x 11, x 12, x 13, x 14, x 15, x 16, x 17, x 18, x 19, x 20, x 21, x 22, x 23, x 24, x 25, x 26, x 27, x 28, x 29, x 30, x 31, x 32, x 33, x 34, x 35, x 36, x 37, x 38, x 39, x 40, x 41, x 42, x 43, x 44, x 45, x 46, x 47, x 48, x 49, x 50, x 51, x 52, x 53, x 54, x 55, x 56, x 57, x 58, x 59, x 60, x 61, x 62, x 63, x 64, x 65, x 66, x 67, x 68, x 69, x 70, x 71, x 72, x 73, x 74, x 75, x 76, x 77, x 78, x 79, x 80, x 81, x 82, x 83, x 84, x 85, x 86, x 87, x 88, x 89, x 90, x 91, x 92, x 93, x 94, x 95, x 96, x 97, x 98, .bool false, x 100, x 101, x 102, x 103, x 104, x 105, x 106, x 107, x 108, x 109, x 110, x 111, x 112, x 113, x 114, x 115, x 116, x 117, x 118, x 119, x 120, x 121, x 122, x 123, x 124, x 125, x 126, x 127, x 128, x 129, x 130, x 131, x 132, x 133, x 134, x 135, x 136, x 137, x 138, x 139, x 140, x 141, x 142, x 143, x 144, x 145, x 146, x 147, x 148, x 149, x 150, x 151, x 152, x 153, x 154, x 155, x 156, x 157, x 158, x 159, x 160, x 161, x 162, x 163, x 164, x 165, x 166, x 167, x 168, x 169, x 170, x 171, x 172, x 173, x 174, x 175, x 176, x 177, x 178, x 179, x 180, x 181, x 182, x 183, x 184, x 185, x 186, x 187, x 188, x 189, x 190, x 191, x 192, x 193, x 194, x 195, x 196, x 197, x 198, x 199, x 200, x 201, x 202, x 203, x 204, x 205, x 206, x 207, x 208, x 209, x 210, x 211, x 212, x 213, x 214, x 215, x 216, x 217, x 218, x 219, x 220, x 221, x 222, x 223, x 224, x 225, x 226, x 227, x 228, x 229, x 230, x 231, x 232, x 233, x 234, x 235, x 236, x 237, x 238, x 239, x 240, x 241, x 242, x 243, x 244, x 245, x 246, x 247, x 248, x 249, x 250, x 251, x 252, x 253, x 254, x 255, x 256, x 257, x 258, x 259, x 260, x 261, x 262, x 263, x 264, x 265, x 266, x 267, x 268, x 269, x 270, x 271, x 272, x 273, x 274, x 275, x 276, x 277, x 278, x 279, x 280, x 281, x 282, x 283, x 284, x 285, x 286, x 287, x 288, x 289, x 290, x 291, x 292, x 293, x 294, x 295, x 296, x 297, x 298, x 299, x 300, x 301, x 302, x 303, x 304, x 305, x 306, x 307, x 308, x 309, x 310], []⟩ wc := by
  have Hok := Lib.hid hok
  clear hok
  have hgl := HR5.out.lt
  have hbl := HP5.out.lt
  have hcl := HR5.out.len
  have hcb := HR5.out.capb
  have hbg := HR5.out.base
  have c0 := HR5.out.nb n (by omega)
  have hcut := cut_step r n
  have q1 : (0 : Int) ≤ (n : Int) := by omega
  have q2 : (n : Int) < ((n + 1 : Nat) : Int) := by omega
  have hNc : N2 = if nb r n = 48 ∧ cut r (n + 1) + 1 + sLen ((n + 1 - cut r (n + 1) : Nat) : Int) < n + 1 then cut r (n + 1) + 1 + sLen ((n + 1 - cut r (n + 1) : Nat) : Int) else n + 1 := by
    rw [hN]; unfold lenC; rw [hn]; rfl
  obtain ⟨y, hy⟩ : ∃ y, nb r n = y := ⟨_, rfl⟩
  rw [hy] at c0 hcut hNc
  by_cases h48 : y = 48
  · have hq : ((y : Int) == 48) = true := by simp; omega
    have hc1 := hcut.1 h48
    have HNc := Lib.hid hNc
    have Hy := Lib.hid hy
    have HN := Lib.hid hn
    have H48 := Lib.hid h48
    have hn1 : 1 ≤ n := by
      by_cases h : n = 0
      · subst h; exact absurd (hy.trans h48) h0
      · omega
    have H0 := Lib.hid h0
    clear hcut hNc hy hN h48 h0
    conv => arg 2; whnf
    go_wp2_with fail
    go_loopw [20] (fun c20 wr => wr = wc ∧ ∃ p : Nat, c20 = .int .i64 (p : Int) ∧ 1 ≤ p ∧ p ≤ n ∧ cut r (n + 1) = cut r p) (fun c20 _ => (intOf c20).toNat)
    case atStart => exact ⟨rfl, n, rfl, hn1, Nat.le_refl _, hc1⟩
    case round =>
      obtain ⟨rfl, p, rfl, hp1, hp, hcp⟩ := hrel
      cases p with
      | succ q =>
        have cq := HR5.out.nb q (by omega)
        have hst := cut_step r q
        have g0 : (0 : Int) < ((q + 1 : Nat) : Int) := by omega
        have e1 : ((q + 1 : Nat) : Int) - 1 = (q : Int) := by omega
        have g1 : (0 : Int) ≤ (q : Int) := by omega
        have g2 : (q : Int) < ((n + 1 : Nat) : Int) := by omega
        obtain ⟨v, hv⟩ : ∃ v, nb r q = v := ⟨_, rfl⟩
        rw [hv] at cq hst
        by_cases hv48 : v = 48
        · have hqv : ((v : Int) == 48) = true := by simp; omega
          have HQ := Lib.hid (hcp.trans (hst.1 hv48))
          have hq1 : 1 ≤ q := by
            by_cases h : q = 0
            · subst h; exact absurd (hv.trans hv48) H0.out
            · omega
          clear hcp hst hv48 hv
          go_wp2_with fail
          go_roundw
          case rel => exact ⟨trivial, q, rfl, hq1, by omega, HQ.out⟩
          case measure => simp [intOf]
        · have hqv : ((v : Int) == 48) = false := by simp; omega
          have hP : cut r (n + 1) = q + 1 := hcp.trans (hst.2 hv48)
          clear hcp hst hv48 hv
          have HPc := Lib.hid hP
          have hpl : q + 1 ≤ r.length := by omega
          have HRem := Lib.hid (HR5.out.pre (q + 1) hpl)
          have hlenL : q + 1 = (r.take (q + 1)).length := by rw [List.length_take, Nat.min_eq_left hpl]
          have HlenL := Lib.hid hlenL
          have k1 : ((q + 1 : Nat) : Int) ≤ (cap5 : Int) := by omega
          have k2 : (0 : Int) ≤ ((q + 1 : Nat) : Int) := by omega
          have hsm := fun w' (h : Pn b mn w') => small11 b mn (((n + 1 : Nat) : Int) - ((q + 1 : Nat) : Int)) (by omega) (by omega) w' h
          obtain ⟨z, hz⟩ : ∃ z, sLen (((n + 1 : Nat) : Int) - ((q + 1 : Nat) : Int)) = z := ⟨_, rfl⟩
          have hz5 : z ≤ 5 := by rw [← hz]; exact sLen_bd _
          have HZ := Lib.hid hz
          clear hP hpl hlenL hz
          go_wp2_with fail
          refine (hsm _ HP5.out).mono ?_
          rintro ex w6 ⟨s, le, rfl, hle, hbuf, hp6, hc6⟩
          rw [HZ.out] at hle ⊢
          have hzv : sLen ((n + 1 - cut r (n + 1) : Nat) : Int) = z := by rw [HPc.out, ← HZ.out]; congr 1; omega
          have hN2 := HNc.out
          rw [hzv, HPc.out] at hN2
          clear hsm hzv
          by_cases hsw : q + 1 + 1 + z < n + 1
          · have ht : (((q + 1 : Nat) : Int) + 1 + (z : Int) < ((n + 1 : Nat) : Int)) = True := eq_true (by omega)
            rw [if_pos ⟨H48.out, hsw⟩] at hN2
            have HN2 := Lib.hid hN2.symm
            clear hN2
            have HR6 := Lib.hid (HRem.out.kept hc6 (by omega))
            have HP6 := Lib.hid hp6
            have HB6 := Lib.hid hbuf
            have HLe := Lib.hid hle
            have HC6 := Lib.hid (HC5.out.trans hc6 (fun k hk hs => hs))
            have hgl6 := HR6.out.lt
            have hbl6 := hp6.lt
            clear hp6 hbuf hle hc6
            go_wp2_with (at_builtin; go_loud (first | (refine wpList_row_append rfl (.tmp 259) (.tmp 260) rfl w.heap.size g5 (off5) (cap5) (q + 1) (r.take (q + 1)) rfl (HlenL.out) (HR6.out.kept ((Chg.refl Nowhere w6).alloc _) (fun h => h)) ⟨w6.heap.size, 0, none⟩ 1 1 [101] rfl rfl (fun j u hj => cells_new w6 _ 5 _ rfl j u hj) (by rw [← HlenL.out]; simp; omega) (by simp; omega) ?_; intro g7 off7 cap7 w7 hR7 hch7 hor7; have HR7 := Lib.hid hR7; have HC7 := Lib.hid hch7; have HB7 : Hid (∀ j u, (Lib.byteCells le)[j]? = some u → w7.cell? ((⟨b, 71 + s, none⟩ : Addr).add j) = some u) := Lib.hid (fun j u hj => by rw [add_cell]; exact (((Chg.refl (fun k => k = g5) w6).alloc _).trans hch7 (fun _ _ h => h)).cell (HB6.out j u hj) (by show ¬ (b = g5); omega)); have gl7 := hR7.lt; clear hR7 hch7 hor7) | (refine wpList_row_append rfl (.tmp 261) (.tmp 262) rfl w.heap.size g7 off7 cap7 _ ((r.take (q + 1)) ++ [101]) rfl (by rw [List.length_append, ← HlenL.out]; rfl) HR7.out ⟨b, 71 + s, none⟩ z z le rfl HLe.out.symm HB7.out (by rw [List.length_append, ← HlenL.out, HLe.out]; simp; omega) (by have := HR7.out.base; omega) ?_; intro g8 off8 cap8 w8 hR8 hch8 hor8; have HR8 := Lib.hid hR8; have HC8 := Lib.hid hch8; clear hR8 hch8 hor8)))
            have hb7 := HR7.out.base
            exact Hok.out _ _ ((r.take (q + 1)) ++ [101] ++ le) (by rw [List.length_append, List.length_append, ← HlenL.out, HLe.out]; exact HN2.out) ⟨rfl, rfl, rfl, rfl, _, rfl, Stands.mk' (by rw [List.length_append, List.length_append, ← HlenL.out, HLe.out]; rfl) HR8.out ((HP6.out.kept (((Chg.refl (fun k => k = g5) w6).alloc _).trans HC7.out (fun _ _ h => h)) (by omega)).kept HC8.out (by omega)) ((HC6.out.trans (((Chg.refl (fun k => k = g5) w6).alloc _).trans HC7.out (fun _ _ h => h)) (fun k hk hs => by omega)).trans HC8.out (fun k hk hs => by omega))⟩

          · have ht : (((q + 1 : Nat) : Int) + 1 + (z : Int) < ((n + 1 : Nat) : Int)) = False := eq_false (by omega)
            rw [if_neg (fun h => hsw h.2)] at hN2
            have HN2 := Lib.hid hN2.symm
            have HR6 := Lib.hid (HR5.out.kept hc6 (by omega))
            have HP6 := Lib.hid hp6
            have HC6 := Lib.hid (HC5.out.trans hc6 (fun k hk hs => hs))
            clear hN2 hp6 hc6 hbuf
            go_wp2_with fail
            exact Hok.out _ _ r (HN.out.trans HN2.out) ⟨rfl, rfl, rfl, rfl, _, rfl, Stands.mk' HN.out.symm HR6.out HP6.out HC6.out⟩

      | zero =>
        omega
  · have hq : ((y : Int) == 48) = false := by simp; omega
    have hN1 : r.length = N2 := by rw [hNc, if_neg (fun h => h48 h.1), hn]
    have HN1 := Lib.hid hN1
    clear hcut hNc hy hN h48 hN1
    conv => arg 2; whnf
    go_wp2_with fail
    exact Hok.out _ _ r HN1.out ⟨rfl, rfl, rfl, rfl, _, rfl, Stands.mk' hn.symm HR5.out HP5.out HC5.out⟩
end Go.Proofs.YtmlgfhdjdmfdbaaDoor
