/-
  Proved: printNonNegativeFloat's piece that shortens the text: a point and an exponent. No statement of the seat stands here.
-/
import Derived.Test.YtmlgfhdjdmfdbaaDoorNl
namespace Go.Proofs.YtmlgfhdjdmfdbaaDoor
open Go.RowKit Go.ChangeAt
set_option linter.unusedSimpArgs false
set_option linter.unusedVariables false
set_option maxRecDepth 1000000
theorem parse14 (B g off cap : Nat) (es : List UInt8) (neg : Bool) (hes : EsOk es) {n : Nat} (hn : n = ((if neg then [45] else []) ++ es).length) (w : World) (hR : Row B g off cap ((if neg then [45] else []) ++ es) w) :
    Calls Tryd.prog 14 #[.slice (some ⟨g, off, none⟩) n cap] w (Same' (.int .i64 (if neg then -((pv es : Nat) : Int) else ((pv es : Nat) : Int))) w) := by
  have hd : ∀ j, j < es.length → 48 ≤ nb es j ∧ nb es j ≤ 57 := fun j hj => by
    unfold nb
    rw [List.getD_eq_getElem?_getD, List.getElem?_eq_getElem hj]
    exact hes.dig _ (List.getElem_mem hj)
  subst hn
  cases neg
  · exact parse_pos B g off cap es w hR hes.len hd
  · exact parse_neg B g off cap es w hR hes.len hd
theorem pv_es {es : List UInt8} (hes : EsOk es) : pv es < 1000 := pv_lt es hes.len.2 fun j hj => by
  unfold nb
  rw [List.getD_eq_getElem?_getD, List.getElem?_eq_getElem hj]
  exact hes.dig _ (List.getElem_mem hj)
set_option maxHeartbeats 16000000 in
theorem c99_pexp (b f : Nat) (mn : Bool) (r : List UInt8) (hrl : r.length ≤ 1000) (w : World) (hPl : b < w.heap.size) (g5 off5 cap5 : Nat) (wc : World) (HR5 : Hid (Row w.heap.size g5 off5 cap5 r wc)) (HP5 : Hid (Pn b mn wc)) (HC5 : Hid (Chg (fun k => k = b) w wc)) (x : Nat → Value) (K0 : Act → World → Prop) (Post : Ending → World → Prop) (N2 : Nat) (hok : ∀ a' w' l, l.length = N2 → Keeps b f mn w l a' w' → K0 a' w') (m K len : Nat) (hlen : len = r.length) (es : List UInt8) (neg : Bool) (hes : EsOk es) (hK : K = m + 2) (hm : m ≤ 20) (hln : len = K + 1 + ((if neg then [45] else []) ++ es).length) (hlast : LastIs r 101 (K : Int))
    (hdr : (r.drop (K + 1)).take (len - (K + 1)) = (if neg then [45] else []) ++ es) (X : Int) (hX : X = if neg then -((pv es : Nat) : Int) else ((pv es : Nat) : Int)) (hN : N2 = lenB m X len) :
    Code.wp Tryd.prog C99 (Exit.then K0 (bodyPost Tryd.prog Tryd.f8 Post)) ⟨#[.pointer (some ⟨b, 0, none⟩), .float .f64 f, x 2, x 3, x 4, .slice (some ⟨g5, off5, none⟩) (len) cap5, x 6, x 7, x 8, .int .i64 1, x 10, x 11, x 12, x 13, x 14, x 15, x 16, x 17, x 18, x 19, x 20, x 21, x 22, x 23, x 24, x 25, x 26, x 27, x 28, x 29, x 30, x 31, x 32, x 33, x 34, x 35, x 36, x 37, x 38, x 39, x 40, x 41, x 42, x 43, x 44, x 45, x 46, x 47, x 48, x 49, x 50, x 51, x 52, x 53, x 54, x 55, x 56, x 57, x 58, x 59, x 60, x 61, x 62, x 63, x 64, x 65, x 66, x 67, x 68, x 69, x 70, x 71, x 72, x 73, x 74, x 75, x 76, x 77, x 78, x 79, x 80, x 81, x 82, x 83, x 84, x 85, x 86, x 87, x 88, x 89, x 90, x 91, x 92, x 93, x 94, x 95, x 96, x 97, x 98, .bool false, x 100, x 101, x 102, x 103, x 104, x 105, x 106, x 107, x 108, x 109, x 110, x 111, x 112, x 113, x 114, x 115, x 116, x 117, x 118, x 119, x 120, x 121, x 122, x 123, x 124, x 125, x 126, x 127, x 128, x 129, x 130, x 131, x 132, x 133, x 134, x 135, x 136, x 137, x 138, x 139, x 140, x 141, x 142, x 143, x 144, x 145, x 146, x 147, x 148, x 149, x 150, x 151, x 152, x 153, x 154, x 155, x 156, x 157, x 158, x 159, x 160, x 161, x 162, x 163, x 164, x 165, x 166, x 167, x 168, x 169, x 170, x 171, x 172, x 173, x 174, x 175, x 176, x 177, x 178, x 179, x 180, x 181, x 182, x 183, x 184, x 185, x 186, x 187, x 188, x 189, x 190, x 191, x 192, x 193, x 194, x 195, x 196, x 197, x 198, x 199, x 200, x 201, x 202, x 203, x 204, x 205, x 206, x 207, x 208, x 209, x 210, x 211, x 212, x 213, x 214, x 215, x 216, x 217, x 218, x 219, x 220, x 221, x 222, x 223, x 224, x 225, x 226, x 227, x 228, x 229, x 230, x 231, x 232, x 233, x 234, x 235, x 236, x 237, x 238, x 239, x 240, x 241, x 242, x 243, x 244, x 245, x 246, x 247, x 248, x 249, x 250, x 251, x 252, x 253, x 254, x 255, x 256, x 257, x 258, x 259, x 260, x 261, x 262, x 263, x 264, x 265, x 266, x 267, x 268, x 269, x 270, x 271, x 272, x 273, x 274, x 275, x 276, x 277, x 278, x 279, x 280, x 281, x 282, x 283, x 284, x 285, x 286, x 287, x 288, x 289, x 290, x 291, x 292, x 293, x 294, x 295, x 296, x 297, x 298, x 299, x 300, x 301, x 302, x 303, x 304, x 305, x 306, x 307, x 308, x 309, x 310], []⟩ wc := by
  have Hok := Lib.hid hok
  clear hok
  have hgl := HR5.out.lt
  have hbl := HP5.out.lt
  have hcl := HR5.out.len
  have hcb := HR5.out.capb
  have hbg := HR5.out.base
  rw [← hlen] at hcl hrl
  have hpv := pv_es hes
  have hXb : -1000 < X ∧ X < 1000 := by rw [hX]; split <;> omega
  have hel : 1 ≤ ((if neg then [45] else []) ++ es).length := by rw [List.length_append]; have := hes.len; omega
  have HRE : Hid (Row w.heap.size g5 (off5 + (K + 1)) (cap5 - (K + 1)) ((if neg then [45] else []) ++ es) wc) := Lib.hid (by
    have := HR5.out.sub (K + 1) (len - (K + 1)) (by omega)
    rwa [hdr] at this)
  have hparse := parse14 w.heap.size g5 (off5 + (K + 1)) (cap5 - (K + 1)) es neg hes (n := len - (K + 1)) (by omega) wc HRE.out
  rw [← hX] at hparse
  have Hparse := Lib.hid hparse
  have Hlast := Lib.hid hlast
  have Hlen := Lib.hid hlen
  have HK := Lib.hid hK
  have hKl : K + 1 < len := by omega
  have hK2 : 2 ≤ K := by omega
  have hK22 : K ≤ 22 := by omega
  have hN' : N2 = lenB (K - 2) X len := by rw [hN]; congr 1; omega
  have HN := Lib.hid hN'
  clear hlen hes hK hm hln hlast hdr hX hN hN' hparse hpv hel
  have j1 : ((K : Int) != -1) = true := by rw [bne_iff_ne]; omega
  have j2 : (1 : Int) ≤ (cap5 : Int) := by omega
  have j3 : (2 : Int) ≤ (K : Int) := by omega
  have j4 : (K : Int) ≤ (cap5 : Int) := by omega
  have j5 : ¬ (cap5 = 2) := by omega
  have j6 : (K : Int) + 1 ≤ (len : Int) := by omega
  have j7 : ¬ (cap5 = K + 1) := by omega
  have j8 : (0 : Int) ≤ (K : Int) + 1 := by omega
  have j9 : (2 : Int) ≤ (cap5 : Int) := by omega
  have hl12 := last12 w.heap.size g5 off5 cap5 r wc HR5.out (by rw [← Hlen.out]; omega) 101 (K : Int) Hlast.out
  rw [← Hlen.out] at hl12
  conv => arg 2; whnf
  go_wp2_with fail
  refine hl12.mono ?_
  rintro ex w6 ⟨rfl, rfl⟩
  clear hl12
  go_wp2_with fail
  refine Hparse.out.mono ?_
  rintro ex w6 ⟨rfl, rfl⟩
  obtain ⟨E, hE⟩ : ∃ E : Int, X - (((K - 2 : Nat)) : Int) = E := ⟨_, rfl⟩
  have hEb : -1100 < E ∧ E < 1100 := by omega
  have HE := Lib.hid hE
  by_cases hin : 0 ≤ E ∧ E ≤ 2
  · obtain ⟨en, rfl⟩ : ∃ en : Nat, E = (en : Int) := ⟨E.toNat, by omega⟩
    have k1 : (0 : Int) ≤ (en : Int) := by omega
    have k2 : (en : Int) ≤ 2 := by omega
    have hN2 := HN.out
    unfold lenB at hN2
    rw [hE, if_pos hin, Int.toNat_natCast] at hN2
    by_cases hsw : 1 + (K - 2) + en ≤ len
    · rw [if_pos hsw] at hN2
      have HN2 := Lib.hid hN2
      have HSW := Lib.hid hsw
      have ht : ((1 : Int) + (((K - 2 : Nat)) : Int) + (en : Int) ≤ (len : Int)) = True := eq_true (by omega)
      have hl1 : 1 = (r.take 1).length := by rw [List.length_take, Nat.min_eq_left (by have := Hlen.out; omega)]
      have hl2 : K - 2 = ((r.drop 2).take (K - 2)).length := by rw [List.length_take, List.length_drop, Nat.min_eq_left (by have := Hlen.out; omega)]
      have HL1 := Lib.hid hl1
      have HL2 := Lib.hid hl2
      have HRF := Lib.hid (HR5.out.sub 2 (K - 2) (by have := Hlen.out; omega))
      clear hN2 hl1 hl2 hin hsw HE
      go_wp2_with (at_builtin; go_loud (refine wpList_row_append rfl (.tmp 186) (.tmp 187) rfl w.heap.size g5 off5 cap5 1 (r.take 1) rfl HL1.out (HR5.out.pre 1 (by have := Hlen.out; omega)) ⟨g5, off5 + 2, none⟩ (K - 2) (cap5 - 2) ((r.drop 2).take (K - 2)) rfl HL2.out (fun j u hj => by rw [add_cell]; exact HRF.out.reads j u hj) (by rw [← HL1.out, ← HL2.out]; omega) (by omega) ?_; intro g7 off7 cap7 w7 hR7 hch7 hor7; have HR7 := Lib.hid hR7; have HC7 := Lib.hid hch7; have gl7 := hR7.lt; clear hR7 hch7 hor7))
      have hst7 : Stands b mn w (r.take 1 ++ (r.drop 2).take (K - 2)) (.slice (some ⟨g7, off7, none⟩) (1 + (K - 2)) cap7) w7 := Stands.step hPl hbg HP5.out HC5.out (by rw [List.length_append, ← HL1.out, ← HL2.out]) HR7.out HC7.out
      have Hst7 := Lib.hid hst7
      clear hst7
      go_loopw [5, 18] (fun c5 c18 wr => ∃ (i : Nat) (l : List UInt8), c18 = .int .i64 (i : Int) ∧ i ≤ en ∧ l.length = 1 + (K - 2) + i ∧ Stands b mn w l c5 wr) (fun _ c18 _ => en - (intOf c18).toNat)
      case atStart => exact ⟨0, _, rfl, Nat.zero_le _, by rw [List.length_append, ← HL1.out, ← HL2.out, Nat.add_zero], Hst7.out⟩
      case round =>
        obtain ⟨i, l, rfl, hi, hl, ga, oa, ca, rfl, hra, hpa, hca⟩ := hrel
        have gla := hra.lt
        have bla := hpa.lt
        have bga := hra.base
        have hlb : l.length ≤ 100 := by omega
        have HRA := Lib.hid hra
        have HPA := Lib.hid hpa
        have HCA := Lib.hid hca
        have HLL := Lib.hid hl
        clear hra hpa hca hl
        by_cases hlt : i < en
        · have t1 : ((i : Int) < (en : Int)) = True := eq_true (by omega)
          have HLT := Lib.hid hlt
          clear hlt
          go_wp2_with (at_builtin; go_loud (refine wpList_row_append rfl (.tmp 194) (.tmp 195) rfl w.heap.size ga oa ca l.length l rfl rfl (HRA.out.kept ((Chg.refl Nowhere wr).alloc _) (fun h => h)) ⟨wr.heap.size, 0, none⟩ 1 1 [48] rfl rfl (fun j u hj => cells_new wr _ 5 _ rfl j u hj) (by simp; omega) (by simp; omega) ?_; intro gn offn capn wn hRn hchn horn; have HRn := Lib.hid hRn; have HCn := Lib.hid hchn; have gln := hRn.lt; clear hRn hchn horn))
          go_roundw
          case rel => exact ⟨i + 1, l ++ [48], by go_num, HLT.out, by rw [List.length_append, HLL.out]; rfl, Stands.step hPl bga HPA.out HCA.out (by rw [List.length_append]; rfl) HRn.out (((Chg.refl _ _).alloc _).trans HCn.out (fun _ _ h => h))⟩
          case measure => have := HLT.out; simp [intOf]; omega
        · have hie : i = en := by omega
          have t1 : ((i : Int) < (en : Int)) = False := eq_false (by omega)
          have HIE := Lib.hid hie
          clear hlt hie
          go_wp2_with fail
          exact Hok.out _ _ l (by rw [HLL.out, HIE.out]; exact HN2.out.symm) ⟨rfl, rfl, rfl, rfl, _, rfl, Stands.mk' rfl HRA.out HPA.out HCA.out⟩
    · rw [if_neg hsw] at hN2
      have ht : ((1 : Int) + (((K - 2 : Nat)) : Int) + (en : Int) ≤ (len : Int)) = False := eq_false (by omega)
      have HN2 := Lib.hid hN2
      clear hN2 hin hsw HE
      go_wp2_with fail
      exact Hok.out _ _ r (Hlen.out.symm.trans HN2.out.symm) ⟨rfl, rfl, rfl, rfl, _, rfl, Stands.mk' Hlen.out HR5.out HP5.out HC5.out⟩
  · have hN2 := HN.out
    unfold lenB at hN2
    rw [hE, if_neg hin] at hN2
    have hsm := fun w' (h : Pn b mn w') => small11 b mn E (by omega) (by omega) w' h
    obtain ⟨z, hz⟩ : ∃ z, sLen E = z := ⟨_, rfl⟩
    have hz5 : z ≤ 5 := by rw [← hz]; exact sLen_bd _
    rw [hz] at hN2
    have HZ := Lib.hid hz
    have HN2' := Lib.hid hN2
    have h2 : ((0 : Int) ≤ E) = False ∨ ((0 : Int) ≤ E) = True ∧ (E ≤ (2 : Int)) = False := by
      by_cases h : 0 ≤ E
      · exact .inr ⟨eq_true h, eq_false (fun h2 => hin ⟨h, h2⟩)⟩
      · exact .inl (eq_false h)
    have hl1 : 1 = (r.take 1).length := by rw [List.length_take, Nat.min_eq_left (by have := Hlen.out; omega)]
    have hl2 : K - 2 = ((r.drop 2).take (K - 2)).length := by rw [List.length_take, List.length_drop, Nat.min_eq_left (by have := Hlen.out; omega)]
    have HL1 := Lib.hid hl1
    have HL2 := Lib.hid hl2
    clear hN2 hz hin HE hl1 hl2
    rcases h2 with t1 | ⟨t1, t2⟩
    all_goals
      go_wp2_with fail
      refine (hsm _ HP5.out).mono ?_
      rintro ex w6 ⟨s, le, rfl, hle, hbuf, hp6, hc6⟩
      rw [HZ.out] at hle ⊢
      have hN2 := HN2'.out
      have HR6 := Lib.hid (HR5.out.kept hc6 (by omega))
      have HP6 := Lib.hid hp6
      have HB6 := Lib.hid hbuf
      have HLe := Lib.hid hle
      have HC6 := Lib.hid (HC5.out.trans hc6 (fun k hk hs => hs))
      have hgl6 := HR6.out.lt
      have hbl6 := hp6.lt
      clear hp6 hbuf hle hc6
      by_cases hsw : 1 + (K - 2) + 1 + z ≤ len
      · rw [if_pos hsw] at hN2
        have ht : ((1 : Int) + (((K - 2 : Nat)) : Int) + 1 + (z : Int) ≤ (len : Int)) = True := eq_true (by omega)
        have HN2 := Lib.hid hN2
        have HRF := Lib.hid (HR6.out.sub 2 (K - 2) (by have := Hlen.out; omega))
        clear hN2 hsw
        go_wp2_with (at_builtin; go_loud (first | (refine wpList_row_append rfl (.tmp 212) (.tmp 213) rfl w.heap.size g5 off5 cap5 1 (r.take 1) rfl HL1.out (HR6.out.pre 1 (by have := Hlen.out; omega)) ⟨g5, off5 + 2, none⟩ (K - 2) (cap5 - 2) ((r.drop 2).take (K - 2)) rfl HL2.out (fun j u hj => by rw [add_cell]; exact HRF.out.reads j u hj) (by rw [← HL1.out, ← HL2.out]; omega) (by omega) ?_; intro g7 off7 cap7 w7 hR7 hch7 hor7; have HR7 := Lib.hid hR7; have HC7 := Lib.hid hch7; have HB7 : Hid (InBuf b s le w7) := Lib.hid (fun j u hj => hch7.cell (HB6.out j u hj) (by show ¬ (b = g5); omega)); have gl7 := hR7.lt; have bg7 := hR7.base; clear hR7 hch7 hor7) | (refine wpList_row_append rfl (.tmp 214) (.tmp 215) rfl w.heap.size g7 off7 cap7 (1 + (K - 2)) (r.take 1 ++ (r.drop 2).take (K - 2)) rfl (by rw [List.length_append, ← HL1.out, ← HL2.out]) (HR7.out.kept ((Chg.refl Nowhere w7).alloc _) (fun h => h)) ⟨w7.heap.size, 0, none⟩ 1 1 [101] rfl rfl (fun j u hj => cells_new w7 _ 5 _ rfl j u hj) (by rw [List.length_append, ← HL1.out, ← HL2.out]; simp; omega) (by simp; omega) ?_; intro g8 off8 cap8 w8 hR8 hch8 hor8; have HR8 := Lib.hid hR8; have HC8 := Lib.hid hch8; have HB8 : Hid (∀ j u, (Lib.byteCells le)[j]? = some u → w8.cell? ((⟨b, 71 + s, none⟩ : Addr).add j) = some u) := Lib.hid (fun j u hj => by rw [add_cell]; exact (((Chg.refl (fun k => k = g7) w7).alloc _).trans hch8 (fun _ _ h => h)).cell (HB7.out j u hj) (by show ¬ (b = g7); omega)); have gl8 := hR8.lt; have bg8 := hR8.base; clear hR8 hch8 hor8) | (refine wpList_row_append rfl (.tmp 216) (.tmp 217) rfl w.heap.size g8 off8 cap8 (1 + (K - 2) + 1) (r.take 1 ++ (r.drop 2).take (K - 2) ++ [101]) rfl (by rw [List.length_append, List.length_append, ← HL1.out, ← HL2.out]; rfl) HR8.out ⟨b, 71 + s, none⟩ z z le rfl HLe.out.symm HB8.out (by rw [List.length_append, List.length_append, ← HL1.out, ← HL2.out, HLe.out]; simp; omega) (by omega) ?_; intro g9 off9 cap9 w9 hR9 hch9 hor9; have HR9 := Lib.hid hR9; have HC9 := Lib.hid hch9; clear hR9 hch9 hor9)))
        have hll : 1 + (K - 2) + 1 + z = (r.take 1 ++ (r.drop 2).take (K - 2) ++ [101] ++ le).length := by rw [List.length_append, List.length_append, List.length_append, ← HL1.out, ← HL2.out, HLe.out]; rfl
        exact Hok.out _ _ _ (hll.symm.trans HN2.out.symm) ⟨rfl, rfl, rfl, rfl, _, rfl, Stands.mk' hll HR9.out (((HP6.out.kept HC7.out (by omega)).kept (((Chg.refl (fun k => k = g7) w7).alloc _).trans HC8.out (fun _ _ h => h)) (by omega)).kept HC9.out (by omega)) (((HC6.out.trans HC7.out (fun k hk hs => by omega)).trans (((Chg.refl (fun k => k = g7) w7).alloc _).trans HC8.out (fun _ _ h => h)) (fun k hk hs => by omega)).trans HC9.out (fun k hk hs => by omega))⟩
      · rw [if_neg hsw] at hN2
        have ht : ((1 : Int) + (((K - 2 : Nat)) : Int) + 1 + (z : Int) ≤ (len : Int)) = False := eq_false (by omega)
        have HN2 := Lib.hid hN2
        clear hN2 hsw
        go_wp2_with fail
        exact Hok.out _ _ r (Hlen.out.symm.trans HN2.out.symm) ⟨rfl, rfl, rfl, rfl, _, rfl, Stands.mk' Hlen.out HR6.out HP6.out HC6.out⟩
end Go.Proofs.YtmlgfhdjdmfdbaaDoor
