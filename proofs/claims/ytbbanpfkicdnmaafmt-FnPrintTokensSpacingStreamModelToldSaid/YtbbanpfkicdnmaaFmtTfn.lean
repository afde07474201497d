/-
  Proved: rounds of printTokens' second loop: a function. No statement of the seat stands here.
-/
import Derived.Test.YtbbanpfkicdnmaaFmtTree
import Derived.Deep.LoopGhost
import Derived.StillTailTactics
namespace Go.Proofs.YtbbanpfkicdnmaaFmt
open Go.RowKit Go.ChangeAt
set_option linter.unusedSimpArgs false
set_option linter.unusedVariables false
set_option maxRecDepth 1000000
set_option maxHeartbeats 32000000 in
theorem tfnON (B b tb N cap bx k sel : Nat) (kd r : Ts) (ts : Ts) (m : Bool) (cc ind : Int) (out pre : List UInt8) (W0 : World) (vo : Option Addr) (ok : Nat → Prop) (x : Nat → Value) (wr : World) (Q0 : Exit → Act → World → Prop)
    (hNs : N ≤ 131073) (hok : Hid (∀ k, ok k → k ≠ b ∧ k < B)) (hB : Hid (∀ k, InRow vo k → B ≤ k))
    (Hbx : Hid (∃ v, W0.heap[bx]? = some (.cells #[.int .i32 ind, .int .u8 0, .bool v] 69))) (hbx1 : bx ≠ b) (Hbx2 : Hid (¬ InRow vo bx)) (htb : ok tb)
    (hM : Mem W0 ok (.node 3 sel kd r) tb k) (hlen : k + (.node 3 sel kd r : Ts).len = N) (hcl : 0 ≤ cc ∧ cc ≤ k) (hlast : k + 1 < N) (htx : body false ts = pre ++ body false (.node 3 sel kd r)) (hfi : fin false ts = fin false (.node 3 sel kd r)) (hszr : sz (.node 3 sel kd r) ≤ sz ts)
    (hbk : (out ++ pre).length ≤ 100000000) (hch : (out ++ pre).length + (sp false).length + (opens 3 sel).length + (full kd).length ≤ 99999000) (IH : Hid (∀ kvo ck, Row W0 ok kvo kd → Child B b m ind W0 ok kvo ck kd)) (hat : At B b m vo (out ++ pre) W0 wr) :
    Code.wp Tryf.prog body2 (Exit.then (fun a' w'' => WJ2 B b N cap bx (some ⟨tb, 0, none⟩) m out W0 vo ok ts a' w'' ∧ Wmu N a' w'' < Wmu N ⟨#[.pointer (some ⟨b, 0, none⟩), .slice (some ⟨tb, 0, none⟩) N cap, x 2, x 3, x 4, .pointer (some ⟨bx, 0, none⟩), x 6, .bool false, .int .i64 0, x 9, x 10, x 11, .int .i64 cc, x 13, x 14, x 15, x 16, x 17, x 18, x 19, x 20, x 21, x 22, x 23, x 24, x 25, x 26, x 27, x 28, x 29, x 30, x 31, x 32, x 33, x 34, x 35, x 36, x 37, x 38, x 39, x 40, x 41, x 42, x 43, x 44, x 45, x 46, x 47, x 48, x 49, x 50, x 51, x 52, x 53, x 54, x 55, x 56, x 57, x 58, x 59, x 60, x 61, x 62, x 63, x 64, x 65, x 66, x 67, x 68, x 69, .slice (some ⟨tb, 0, none⟩) N cap, .int .i64 (N : Int), .int .i64 (k : Int), x 73, x 74, x 75, x 76, x 77, x 78, x 79, x 80, x 81, x 82, x 83, x 84, x 85, x 86, x 87, x 88, x 89, x 90, x 91, x 92, x 93, x 94, x 95, x 96, x 97, x 98, x 99, x 100, x 101, x 102, x 103, x 104, x 105, x 106, x 107, x 108, x 109, x 110, x 111, x 112, x 113, x 114, x 115, x 116, x 117, x 118, x 119, x 120, x 121, x 122, x 123, x 124, x 125, x 126, x 127, x 128, x 129, x 130, x 131, x 132, x 133, x 134, x 135, x 136, x 137, x 138, x 139, x 140, x 141, x 142, x 143, x 144, x 145, x 146, x 147, x 148, x 149, x 150, x 151, x 152, x 153, x 154, x 155, x 156, x 157, x 158, x 159, x 160, x 161, x 162, x 163, x 164, x 165, x 166, x 167, x 168, x 169, x 170, x 171, x 172, x 173, x 174, x 175, x 176, x 177, x 178, x 179, x 180, x 181, x 182, x 183, x 184, x 185, x 186, x 187, x 188, x 189, x 190, x 191, x 192, x 193, x 194, x 195, x 196, x 197, x 198, x 199, x 200, x 201, x 202, x 203, x 204, x 205, x 206, x 207, x 208, x 209, x 210, x 211, x 212, x 213, x 214, x 215, x 216, x 217, x 218, x 219, x 220, x 221, x 222, x 223, x 224, x 225, x 226, x 227, x 228, x 229, x 230, x 231, x 232, x 233, x 234, x 235, x 236, x 237, x 238, x 239, x 240, x 241, x 242, x 243, x 244, x 245, x 246, x 247, x 248, x 249, x 250, x 251, x 252, x 253, x 254, x 255, x 256, x 257, x 258, x 259, x 260, x 261, x 262, x 263, x 264, x 265, x 266, x 267, x 268, x 269, x 270, x 271, x 272, x 273, x 274, x 275, x 276, x 277, x 278, x 279, x 280, x 281, x 282, x 283, x 284, x 285, x 286, x 287, x 288, x 289, x 290, x 291, x 292, x 293, x 294, x 295, x 296, x 297, x 298, x 299, x 300, x 301, x 302, x 303, x 304, x 305, x 306, x 307, x 308, x 309, x 310, x 311, x 312, x 313, x 314, x 315, x 316, x 317, x 318, x 319, x 320, x 321, x 322, x 323, x 324, x 325, x 326, x 327, x 328, x 329, x 330, x 331, x 332, x 333, x 334, x 335, x 336, x 337, x 338, x 339, x 340, x 341, x 342, x 343, x 344, x 345, x 346, x 347, x 348, x 349, x 350, x 351, x 352, x 353, x 354, x 355, x 356, x 357, x 358, x 359, x 360, x 361, x 362, x 363, x 364, x 365, x 366, x 367, x 368, x 369, x 370, x 371, x 372, x 373, x 374, x 375, x 376, x 377, x 378, x 379, x 380, x 381, x 382, x 383], []⟩ wr) Q0) ⟨#[.pointer (some ⟨b, 0, none⟩), .slice (some ⟨tb, 0, none⟩) N cap, x 2, x 3, x 4, .pointer (some ⟨bx, 0, none⟩), x 6, .bool false, .int .i64 0, x 9, x 10, x 11, .int .i64 cc, x 13, x 14, x 15, x 16, x 17, x 18, x 19, x 20, x 21, x 22, x 23, x 24, x 25, x 26, x 27, x 28, x 29, x 30, x 31, x 32, x 33, x 34, x 35, x 36, x 37, x 38, x 39, x 40, x 41, x 42, x 43, x 44, x 45, x 46, x 47, x 48, x 49, x 50, x 51, x 52, x 53, x 54, x 55, x 56, x 57, x 58, x 59, x 60, x 61, x 62, x 63, x 64, x 65, x 66, x 67, x 68, x 69, .slice (some ⟨tb, 0, none⟩) N cap, .int .i64 (N : Int), .int .i64 (k : Int), x 73, x 74, x 75, x 76, x 77, x 78, x 79, x 80, x 81, x 82, x 83, x 84, x 85, x 86, x 87, x 88, x 89, x 90, x 91, x 92, x 93, x 94, x 95, x 96, x 97, x 98, x 99, x 100, x 101, x 102, x 103, x 104, x 105, x 106, x 107, x 108, x 109, x 110, x 111, x 112, x 113, x 114, x 115, x 116, x 117, x 118, x 119, x 120, x 121, x 122, x 123, x 124, x 125, x 126, x 127, x 128, x 129, x 130, x 131, x 132, x 133, x 134, x 135, x 136, x 137, x 138, x 139, x 140, x 141, x 142, x 143, x 144, x 145, x 146, x 147, x 148, x 149, x 150, x 151, x 152, x 153, x 154, x 155, x 156, x 157, x 158, x 159, x 160, x 161, x 162, x 163, x 164, x 165, x 166, x 167, x 168, x 169, x 170, x 171, x 172, x 173, x 174, x 175, x 176, x 177, x 178, x 179, x 180, x 181, x 182, x 183, x 184, x 185, x 186, x 187, x 188, x 189, x 190, x 191, x 192, x 193, x 194, x 195, x 196, x 197, x 198, x 199, x 200, x 201, x 202, x 203, x 204, x 205, x 206, x 207, x 208, x 209, x 210, x 211, x 212, x 213, x 214, x 215, x 216, x 217, x 218, x 219, x 220, x 221, x 222, x 223, x 224, x 225, x 226, x 227, x 228, x 229, x 230, x 231, x 232, x 233, x 234, x 235, x 236, x 237, x 238, x 239, x 240, x 241, x 242, x 243, x 244, x 245, x 246, x 247, x 248, x 249, x 250, x 251, x 252, x 253, x 254, x 255, x 256, x 257, x 258, x 259, x 260, x 261, x 262, x 263, x 264, x 265, x 266, x 267, x 268, x 269, x 270, x 271, x 272, x 273, x 274, x 275, x 276, x 277, x 278, x 279, x 280, x 281, x 282, x 283, x 284, x 285, x 286, x 287, x 288, x 289, x 290, x 291, x 292, x 293, x 294, x 295, x 296, x 297, x 298, x 299, x 300, x 301, x 302, x 303, x 304, x 305, x 306, x 307, x 308, x 309, x 310, x 311, x 312, x 313, x 314, x 315, x 316, x 317, x 318, x 319, x 320, x 321, x 322, x 323, x 324, x 325, x 326, x 327, x 328, x 329, x 330, x 331, x 332, x 333, x 334, x 335, x 336, x 337, x 338, x 339, x 340, x 341, x 342, x 343, x 344, x 345, x 346, x 347, x 348, x 349, x 350, x 351, x 352, x 353, x 354, x 355, x 356, x 357, x 358, x 359, x 360, x 361, x 362, x 363, x 364, x 365, x 366, x 367, x 368, x 369, x 370, x 371, x 372, x 373, x 374, x 375, x 376, x 377, x 378, x 379, x 380, x 381, x 382, x 383], []⟩ wr := by
  obtain ⟨vr, hpr, hwr⟩ := hat
  have Hnv : Hid (∀ k, ok k → k ≠ b ∧ ¬ InRow vr k) := Lib.hid fun k hk => ⟨(hok.out _ hk).1, fun hh => by have := (hpr.addr _ hh).1; have := (hok.out _ hk).2; omega⟩
  obtain ⟨_, ⟨gb, kvo, ck, hcs, hgb, hkid, hrow⟩, hMr⟩ := hM
  obtain ⟨vbx, hbx0⟩ := Hbx.out
  have hbx := hwr.heap hbx1 Hbx2.out hbx0
  have hbc := cell_of_heap hbx 0
  simp at hbc
  have hbz := heap_lt hbx
  have Hbxr := Lib.hid hbx
  have Hbxn := Lib.hid (hwr.out Hbx2.out (heap_lt hbx0))
  clear hbx hbx0
  have hkp : ∀ a v, ok a.block → W0.cell? a = some v → wr.cell? a = some v := fun a v ha hc => hwr.cell ⟨(hok.out _ ha).1, fun hh => by have := hB.out _ hh; have := (hok.out _ ha).2; omega⟩ hc
  have q3 := hpr.cell 3 (by decide)
  have q6 := hpr.cell 6 (by decide)
  have q9 := hpr.cell 9 (by decide)
  simp [pc] at q3 q6 q9
  have hrb := hpr.lt_size
  have c0 := hcs 0 (by decide)
  have c1 := hcs 1 (by decide)
  have c2 := hcs 2 (by decide)
  have c3 := hcs 3 (by decide)
  have c4 := hcs 4 (by decide)
  have c5 := hcs 5 (by decide)
  have c6 := hcs 6 (by decide)
  simp [cells7, lkind, gkind, ltxt, gtxt] at c0 c1 c2 c3 c4 c5 c6
  replace c0 := hkp ⟨tb, k * 7, none⟩ _ htb c0
  replace c1 := hkp ⟨tb, k * 7 + 1, none⟩ _ htb c1
  replace c2 := hkp ⟨tb, k * 7 + 2, none⟩ _ htb c2
  replace c3 := hkp ⟨tb, k * 7 + 3, none⟩ _ htb c3
  replace c4 := hkp ⟨tb, k * 7 + 4, none⟩ _ htb c4
  replace c5 := hkp ⟨tb, k * 7 + 5, none⟩ _ htb c5
  replace c6 := hkp ⟨tb, k * 7 + 6, none⟩ _ htb c6
  have htbw := World.block_lt_of_cell? wr _ c0
  simp only at htbw
  have hkidr := hkp ⟨gb, 0, none⟩ _ hgb hkid
  have hgbw := World.block_lt_of_cell? wr _ hkidr
  simp only at hgbw
  have hlen2 : k + (r.len + 1) = N := hlen
  have hx0 : (0 : Int) ≤ (k : Int) := by omega
  have hx1 : (k : Int) < (N : Int) := by omega
  obtain ⟨hc0, hc1⟩ := hcl
  have nx := Mem.ws hMr (by omega)
  have Hnx := Lib.hid nx
  clear nx
  have hx5 : (k : Int) + 1 < (N : Int) := by omega
  have hx6 : (0 : Int) ≤ (k : Int) + 1 := by omega
  have hk1 : (k + 1) * 7 + 6 = ((k : Int) + 1).toNat * 7 + 6 := by omega
  have Hk1 := Lib.hid hk1
  clear hk1
  have Hpr := Lib.hid hpr
  have Hwr := Lib.hid hwr
  have Hkp := Lib.hid hkp
  have HMr := Lib.hid hMr
  have Hlen := Lib.hid hlen
  have Htx := Lib.hid htx
  have Hfi := Lib.hid hfi
  have Hszr := Lib.hid hszr
  have Hcs := Lib.hid hcs
  have Hkid := Lib.hid hkid
  have Hrow := Lib.hid hrow
  clear hpr hwr hkp hMr hlen htx hfi hszr hcs hkid hrow hlast
  have hch2 : (out ++ pre).length + 0 + ((ftxt sel).data.toList.length + 1) + (full kd).length ≤ 99999000 := by have := hch; simp [sp, opens, gtxt] at this ⊢; omega
  clear hch
  have b02 : bits .and .u8 0 2 = 0 := by decide
  have b01 : bits .and .u8 0 1 = 0 := by decide
  obtain ⟨tx, htxx⟩ : ∃ tx, tx = ftxt sel := ⟨_, rfl⟩
  rw [← htxx] at c1 hch2
  have Hpl : Hid (Plain tx) := Lib.hid (by rw [htxx]; exact plain_f _)
  have hsz8 : tx.size ≤ 4 := by rw [htxx]; exact ftxt_size _
  have Htx2 := Lib.hid htxx
  clear htxx
  have HpW : Hid (Pr B b m false vr (out ++ pre) (wr.alloc (.cells #[.pointer (some ⟨gb, 0, none⟩), .string tx, .int .i32 0, .int .u32 0, .int .u16 0, .int .u8 27, .int .u8 0] 40))) := Lib.hid (Hpr.out.wrote ((Chg.refl Nowhere wr).alloc _))
  have HwW : Hid (Wrote b vr vr (wr.alloc (.cells #[.pointer (some ⟨gb, 0, none⟩), .string tx, .int .i32 0, .int .u32 0, .int .u16 0, .int .u8 27, .int .u8 0] 40)) (wr.alloc (.cells #[.pointer (some ⟨gb, 0, none⟩), .string tx, .int .i32 0, .int .u32 0, .int .u16 0, .int .u8 27, .int .u8 0] 40))) := Lib.hid (Wrote.refl b vr _)
  have nx0 := ((Wrote.refl b vr wr).alloc (.cells #[.pointer (some ⟨gb, 0, none⟩), .string tx, .int .i32 0, .int .u32 0, .int .u16 0, .int .u8 27, .int .u8 0] 40)).cell (a := ⟨tb, (k + 1) * 7 + 6, none⟩) (Hnv.out _ htb) (Hkp.out ⟨tb, (k + 1) * 7 + 6, none⟩ _ htb Hnx.out)
  have ny0 := nx0
  rw [Hk1.out] at ny0
  have nz0 := Hkp.out ⟨tb, (k + 1) * 7 + 6, none⟩ _ htb Hnx.out
  have nw0 := nz0
  rw [Hk1.out] at nw0
  conv => arg 2; whnf
  go_wp2_with fail
  refine (ident22 B b m false vr (out ++ pre) tx _ _ Hpl.out HpW.out (by simp only [List.length_append, List.length_cons, List.length_nil] at *; omega) (by omega)).mono ?_
  rintro e_waa waa ⟨rfl, vwaa, hp, hw⟩
  have Hp_waa : Hid (Pr B b m false vwaa (out ++ pre ++ tx.data.toList) waa) := Lib.hid hp
  have Hw_waa : Hid (Wrote b vr vwaa (wr.alloc (.cells #[.pointer (some ⟨gb, 0, none⟩), .string tx, .int .i32 0, .int .u32 0, .int .u16 0, .int .u8 27, .int .u8 0] 40)) waa) := Lib.hid (HwW.out.trans hw)
  clear hp hw
  have hbz_waa : waa.heap[wr.heap.size]? = some (.cells #[.pointer (some ⟨gb, 0, none⟩), .string tx, .int .i32 0, .int .u32 0, .int .u16 0, .int .u8 27, .int .u8 0] 40) := Hw_waa.out.heap (by omega) (fun hh => by have := (Hpr.out.addr _ hh).2; omega) (heap_alloc_at wr _ _ rfl)
  have z0_waa := cell_of_heap hbz_waa 0
  have z1_waa := cell_of_heap hbz_waa 1
  have z5_waa := cell_of_heap hbz_waa 5
  have z6_waa := cell_of_heap hbz_waa 6
  have zl_waa := heap_lt hbz_waa
  simp at z0_waa z1_waa z5_waa z6_waa
  have p3_waa := Hp_waa.out.cell 3 (by decide)
  have p6_waa := Hp_waa.out.cell 6 (by decide)
  have p9_waa := Hp_waa.out.cell 9 (by decide)
  simp [pc] at p3_waa p6_waa p9_waa
  have hby_waa := Hw_waa.out.heap hbx1 Hbxn.out (heap_alloc_keep Hbxr.out (.cells #[.pointer (some ⟨gb, 0, none⟩), .string tx, .int .i32 0, .int .u32 0, .int .u16 0, .int .u8 27, .int .u8 0] 40))
  have hbd_waa := cell_of_heap hby_waa 0
  have hbe_waa := heap_lt hby_waa
  simp at hbd_waa
  have kid_waa := (Wrote.trans ((Wrote.refl b vr wr).alloc _) Hw_waa.out).cell (a := ⟨gb, 0, none⟩) (Hnv.out _ hgb) hkidr
  have kgl_waa := World.block_lt_of_cell? waa _ kid_waa
  simp only at kgl_waa
  clear hbz_waa hby_waa
  go_wp2_with fail
  refine (print_w B b m false vwaa (out ++ pre ++ tx.data.toList) ⟨#[40]⟩ _ Hp_waa.out (by simp only [List.length_append, List.length_cons, List.length_nil] at *; omega) (by decide)).mono ?_
  rintro e_wba wba ⟨rfl, vwba, hp, hw⟩
  have Hp_wba : Hid (Pr B b m false vwba (out ++ pre ++ tx.data.toList ++ [40]) wba) := Lib.hid hp
  have Hw_wba : Hid (Wrote b vr vwba (wr.alloc (.cells #[.pointer (some ⟨gb, 0, none⟩), .string tx, .int .i32 0, .int .u32 0, .int .u16 0, .int .u8 27, .int .u8 0] 40)) wba) := Lib.hid (Hw_waa.out.trans hw)
  clear hp hw
  have hbz_wba : wba.heap[wr.heap.size]? = some (.cells #[.pointer (some ⟨gb, 0, none⟩), .string tx, .int .i32 0, .int .u32 0, .int .u16 0, .int .u8 27, .int .u8 0] 40) := Hw_wba.out.heap (by omega) (fun hh => by have := (Hpr.out.addr _ hh).2; omega) (heap_alloc_at wr _ _ rfl)
  have z0_wba := cell_of_heap hbz_wba 0
  have z1_wba := cell_of_heap hbz_wba 1
  have z5_wba := cell_of_heap hbz_wba 5
  have z6_wba := cell_of_heap hbz_wba 6
  have zl_wba := heap_lt hbz_wba
  simp at z0_wba z1_wba z5_wba z6_wba
  have p3_wba := Hp_wba.out.cell 3 (by decide)
  have p6_wba := Hp_wba.out.cell 6 (by decide)
  have p9_wba := Hp_wba.out.cell 9 (by decide)
  simp [pc] at p3_wba p6_wba p9_wba
  have hby_wba := Hw_wba.out.heap hbx1 Hbxn.out (heap_alloc_keep Hbxr.out (.cells #[.pointer (some ⟨gb, 0, none⟩), .string tx, .int .i32 0, .int .u32 0, .int .u16 0, .int .u8 27, .int .u8 0] 40))
  have hbd_wba := cell_of_heap hby_wba 0
  have hbe_wba := heap_lt hby_wba
  simp at hbd_wba
  have kid_wba := (Wrote.trans ((Wrote.refl b vr wr).alloc _) Hw_wba.out).cell (a := ⟨gb, 0, none⟩) (Hnv.out _ hgb) hkidr
  have kgl_wba := World.block_lt_of_cell? wba _ kid_wba
  simp only at kgl_wba
  clear hbz_wba hby_wba
  go_wp2_with fail
  go_still_tail 9, (by kernel_rfl)
  change wpList _ _ _ _ _ wba.drew
  go_wp2_with fail
  have hkk : ∀ a u, ok a.block → W0.cell? a = some u → wba.drew.cell? a = some u := fun a u ha hc => (Wrote.trans ((Wrote.refl b vr wr).alloc _) Hw_wba.out).cell (Hnv.out _ ha) (Hkp.out a u ha hc)
  have Hw_wbaD : Hid (Wrote b vr vwba (wr.alloc (.cells #[.pointer (some ⟨gb, 0, none⟩), .string tx, .int .i32 0, .int .u32 0, .int .u16 0, .int .u8 27, .int .u8 0] 40)) wba.drew) := Lib.hid Hw_wba.out.drew
  refine (IH.out kvo ck Hrow.out (out ++ pre ++ tx.data.toList ++ [40]) wba.drew vwba Hp_wba.out.drew hkk (by simp only [List.length_append, List.length_cons, List.length_nil] at *; omega)).mono ?_
  rintro e_wca wca ⟨rfl, vwca, hp, hw⟩
  have Hp_wca : Hid (Pr B b m false vwca (out ++ pre ++ tx.data.toList ++ [40] ++ full kd) wca) := Lib.hid hp
  have Hw_wca : Hid (Wrote b vr vwca (wr.alloc (.cells #[.pointer (some ⟨gb, 0, none⟩), .string tx, .int .i32 0, .int .u32 0, .int .u16 0, .int .u8 27, .int .u8 0] 40)) wca) := Lib.hid (Hw_wbaD.out.trans hw)
  clear hp hw
  have hbz_wca : wca.heap[wr.heap.size]? = some (.cells #[.pointer (some ⟨gb, 0, none⟩), .string tx, .int .i32 0, .int .u32 0, .int .u16 0, .int .u8 27, .int .u8 0] 40) := Hw_wca.out.heap (by omega) (fun hh => by have := (Hpr.out.addr _ hh).2; omega) (heap_alloc_at wr _ _ rfl)
  have z0_wca := cell_of_heap hbz_wca 0
  have z1_wca := cell_of_heap hbz_wca 1
  have z5_wca := cell_of_heap hbz_wca 5
  have z6_wca := cell_of_heap hbz_wca 6
  have zl_wca := heap_lt hbz_wca
  simp at z0_wca z1_wca z5_wca z6_wca
  have p3_wca := Hp_wca.out.cell 3 (by decide)
  have p6_wca := Hp_wca.out.cell 6 (by decide)
  have p9_wca := Hp_wca.out.cell 9 (by decide)
  simp [pc] at p3_wca p6_wca p9_wca
  have hby_wca := Hw_wca.out.heap hbx1 Hbxn.out (heap_alloc_keep Hbxr.out (.cells #[.pointer (some ⟨gb, 0, none⟩), .string tx, .int .i32 0, .int .u32 0, .int .u16 0, .int .u8 27, .int .u8 0] 40))
  have hbd_wca := cell_of_heap hby_wca 0
  have hbe_wca := heap_lt hby_wca
  simp at hbd_wca
  have kid_wca := (Wrote.trans ((Wrote.refl b vr wr).alloc _) Hw_wca.out).cell (a := ⟨gb, 0, none⟩) (Hnv.out _ hgb) hkidr
  have kgl_wca := World.block_lt_of_cell? wca _ kid_wca
  simp only at kgl_wca
  clear hbz_wca hby_wca
  go_wp2_with fail
  refine (print_w B b m false vwca (out ++ pre ++ tx.data.toList ++ [40] ++ full kd) ⟨#[41]⟩ _ Hp_wca.out (by simp only [List.length_append, List.length_cons, List.length_nil] at *; omega) (by decide)).mono ?_
  rintro e_wda wda ⟨rfl, vwda, hp, hw⟩
  have Hp_wda : Hid (Pr B b m false vwda (out ++ pre ++ tx.data.toList ++ [40] ++ full kd ++ [41]) wda) := Lib.hid hp
  have Hw_wda : Hid (Wrote b vr vwda (wr.alloc (.cells #[.pointer (some ⟨gb, 0, none⟩), .string tx, .int .i32 0, .int .u32 0, .int .u16 0, .int .u8 27, .int .u8 0] 40)) wda) := Lib.hid (Hw_wca.out.trans hw)
  clear hp hw
  have hbz_wda : wda.heap[wr.heap.size]? = some (.cells #[.pointer (some ⟨gb, 0, none⟩), .string tx, .int .i32 0, .int .u32 0, .int .u16 0, .int .u8 27, .int .u8 0] 40) := Hw_wda.out.heap (by omega) (fun hh => by have := (Hpr.out.addr _ hh).2; omega) (heap_alloc_at wr _ _ rfl)
  have z0_wda := cell_of_heap hbz_wda 0
  have z1_wda := cell_of_heap hbz_wda 1
  have z5_wda := cell_of_heap hbz_wda 5
  have z6_wda := cell_of_heap hbz_wda 6
  have zl_wda := heap_lt hbz_wda
  simp at z0_wda z1_wda z5_wda z6_wda
  have p3_wda := Hp_wda.out.cell 3 (by decide)
  have p6_wda := Hp_wda.out.cell 6 (by decide)
  have p9_wda := Hp_wda.out.cell 9 (by decide)
  simp [pc] at p3_wda p6_wda p9_wda
  have hby_wda := Hw_wda.out.heap hbx1 Hbxn.out (heap_alloc_keep Hbxr.out (.cells #[.pointer (some ⟨gb, 0, none⟩), .string tx, .int .i32 0, .int .u32 0, .int .u16 0, .int .u8 27, .int .u8 0] 40))
  have hbd_wda := cell_of_heap hby_wda 0
  have hbe_wda := heap_lt hby_wda
  simp at hbd_wda
  have kid_wda := (Wrote.trans ((Wrote.refl b vr wr).alloc _) Hw_wda.out).cell (a := ⟨gb, 0, none⟩) (Hnv.out _ hgb) hkidr
  have kgl_wda := World.block_lt_of_cell? wda _ kid_wda
  simp only at kgl_wda
  clear hbz_wda hby_wda
  go_wp2_with fail
  have htx2 : body false ts = (pre ++ tx.data.toList ++ [40] ++ full kd ++ [41]) ++ body false r := by rw [Htx.out, Htx2.out]; simp [body, sp, ltxt, gtxt, opens, closer, full, List.append_assoc]
  have hfi2 : fin false ts = fin false r := by rw [Hfi.out]; simp [fin]
  refine ⟨⟨k + 1, cc, false, r, pre ++ tx.data.toList ++ [40] ++ full kd ++ [41], rfl, rfl, rfl, rfl, rfl, rfl, rfl, ?_, rfl, rfl, ?_, by omega, by omega, .inr ⟨tb, rfl, htb, HMr.out⟩, htx2, hfi2, by have := Hszr.out; simp only [sz] at this; omega, vwda, ?_, ?_⟩, ?_⟩
  · first | rfl | (simp; done)
  · first | rfl | (simp; done)
  · have hh := Hp_wda.out; first | exact hh | (simp only [List.append_assoc] at hh ⊢; exact hh)
  · exact Hwr.out.trans (Wrote.trans ((Wrote.refl b vr wr).alloc _) Hw_wda.out)
  · simp [Wmu, intOf]; omega
set_option maxHeartbeats 32000000 in
theorem tfnOL (B b tb N cap bx k sel : Nat) (kd r : Ts) (ts : Ts) (m : Bool) (cc ind : Int) (out pre : List UInt8) (W0 : World) (vo : Option Addr) (ok : Nat → Prop) (x : Nat → Value) (wr : World) (Q0 : Exit → Act → World → Prop)
    (hNs : N ≤ 131073) (hok : Hid (∀ k, ok k → k ≠ b ∧ k < B)) (hB : Hid (∀ k, InRow vo k → B ≤ k))
    (Hbx : Hid (∃ v, W0.heap[bx]? = some (.cells #[.int .i32 ind, .int .u8 0, .bool v] 69))) (hbx1 : bx ≠ b) (Hbx2 : Hid (¬ InRow vo bx)) (htb : ok tb)
    (hM : Mem W0 ok (.node 3 sel kd r) tb k) (hlen : k + (.node 3 sel kd r : Ts).len = N) (hcl : 0 ≤ cc ∧ cc ≤ k) (hlast : ¬ k + 1 < N) (htx : body false ts = pre ++ body false (.node 3 sel kd r)) (hfi : fin false ts = fin false (.node 3 sel kd r)) (hszr : sz (.node 3 sel kd r) ≤ sz ts)
    (hbk : (out ++ pre).length ≤ 100000000) (hch : (out ++ pre).length + (sp false).length + (opens 3 sel).length + (full kd).length ≤ 99999000) (IH : Hid (∀ kvo ck, Row W0 ok kvo kd → Child B b m ind W0 ok kvo ck kd)) (hat : At B b m vo (out ++ pre) W0 wr) :
    Code.wp Tryf.prog body2 (Exit.then (fun a' w'' => WJ2 B b N cap bx (some ⟨tb, 0, none⟩) m out W0 vo ok ts a' w'' ∧ Wmu N a' w'' < Wmu N ⟨#[.pointer (some ⟨b, 0, none⟩), .slice (some ⟨tb, 0, none⟩) N cap, x 2, x 3, x 4, .pointer (some ⟨bx, 0, none⟩), x 6, .bool false, .int .i64 0, x 9, x 10, x 11, .int .i64 cc, x 13, x 14, x 15, x 16, x 17, x 18, x 19, x 20, x 21, x 22, x 23, x 24, x 25, x 26, x 27, x 28, x 29, x 30, x 31, x 32, x 33, x 34, x 35, x 36, x 37, x 38, x 39, x 40, x 41, x 42, x 43, x 44, x 45, x 46, x 47, x 48, x 49, x 50, x 51, x 52, x 53, x 54, x 55, x 56, x 57, x 58, x 59, x 60, x 61, x 62, x 63, x 64, x 65, x 66, x 67, x 68, x 69, .slice (some ⟨tb, 0, none⟩) N cap, .int .i64 (N : Int), .int .i64 (k : Int), x 73, x 74, x 75, x 76, x 77, x 78, x 79, x 80, x 81, x 82, x 83, x 84, x 85, x 86, x 87, x 88, x 89, x 90, x 91, x 92, x 93, x 94, x 95, x 96, x 97, x 98, x 99, x 100, x 101, x 102, x 103, x 104, x 105, x 106, x 107, x 108, x 109, x 110, x 111, x 112, x 113, x 114, x 115, x 116, x 117, x 118, x 119, x 120, x 121, x 122, x 123, x 124, x 125, x 126, x 127, x 128, x 129, x 130, x 131, x 132, x 133, x 134, x 135, x 136, x 137, x 138, x 139, x 140, x 141, x 142, x 143, x 144, x 145, x 146, x 147, x 148, x 149, x 150, x 151, x 152, x 153, x 154, x 155, x 156, x 157, x 158, x 159, x 160, x 161, x 162, x 163, x 164, x 165, x 166, x 167, x 168, x 169, x 170, x 171, x 172, x 173, x 174, x 175, x 176, x 177, x 178, x 179, x 180, x 181, x 182, x 183, x 184, x 185, x 186, x 187, x 188, x 189, x 190, x 191, x 192, x 193, x 194, x 195, x 196, x 197, x 198, x 199, x 200, x 201, x 202, x 203, x 204, x 205, x 206, x 207, x 208, x 209, x 210, x 211, x 212, x 213, x 214, x 215, x 216, x 217, x 218, x 219, x 220, x 221, x 222, x 223, x 224, x 225, x 226, x 227, x 228, x 229, x 230, x 231, x 232, x 233, x 234, x 235, x 236, x 237, x 238, x 239, x 240, x 241, x 242, x 243, x 244, x 245, x 246, x 247, x 248, x 249, x 250, x 251, x 252, x 253, x 254, x 255, x 256, x 257, x 258, x 259, x 260, x 261, x 262, x 263, x 264, x 265, x 266, x 267, x 268, x 269, x 270, x 271, x 272, x 273, x 274, x 275, x 276, x 277, x 278, x 279, x 280, x 281, x 282, x 283, x 284, x 285, x 286, x 287, x 288, x 289, x 290, x 291, x 292, x 293, x 294, x 295, x 296, x 297, x 298, x 299, x 300, x 301, x 302, x 303, x 304, x 305, x 306, x 307, x 308, x 309, x 310, x 311, x 312, x 313, x 314, x 315, x 316, x 317, x 318, x 319, x 320, x 321, x 322, x 323, x 324, x 325, x 326, x 327, x 328, x 329, x 330, x 331, x 332, x 333, x 334, x 335, x 336, x 337, x 338, x 339, x 340, x 341, x 342, x 343, x 344, x 345, x 346, x 347, x 348, x 349, x 350, x 351, x 352, x 353, x 354, x 355, x 356, x 357, x 358, x 359, x 360, x 361, x 362, x 363, x 364, x 365, x 366, x 367, x 368, x 369, x 370, x 371, x 372, x 373, x 374, x 375, x 376, x 377, x 378, x 379, x 380, x 381, x 382, x 383], []⟩ wr) Q0) ⟨#[.pointer (some ⟨b, 0, none⟩), .slice (some ⟨tb, 0, none⟩) N cap, x 2, x 3, x 4, .pointer (some ⟨bx, 0, none⟩), x 6, .bool false, .int .i64 0, x 9, x 10, x 11, .int .i64 cc, x 13, x 14, x 15, x 16, x 17, x 18, x 19, x 20, x 21, x 22, x 23, x 24, x 25, x 26, x 27, x 28, x 29, x 30, x 31, x 32, x 33, x 34, x 35, x 36, x 37, x 38, x 39, x 40, x 41, x 42, x 43, x 44, x 45, x 46, x 47, x 48, x 49, x 50, x 51, x 52, x 53, x 54, x 55, x 56, x 57, x 58, x 59, x 60, x 61, x 62, x 63, x 64, x 65, x 66, x 67, x 68, x 69, .slice (some ⟨tb, 0, none⟩) N cap, .int .i64 (N : Int), .int .i64 (k : Int), x 73, x 74, x 75, x 76, x 77, x 78, x 79, x 80, x 81, x 82, x 83, x 84, x 85, x 86, x 87, x 88, x 89, x 90, x 91, x 92, x 93, x 94, x 95, x 96, x 97, x 98, x 99, x 100, x 101, x 102, x 103, x 104, x 105, x 106, x 107, x 108, x 109, x 110, x 111, x 112, x 113, x 114, x 115, x 116, x 117, x 118, x 119, x 120, x 121, x 122, x 123, x 124, x 125, x 126, x 127, x 128, x 129, x 130, x 131, x 132, x 133, x 134, x 135, x 136, x 137, x 138, x 139, x 140, x 141, x 142, x 143, x 144, x 145, x 146, x 147, x 148, x 149, x 150, x 151, x 152, x 153, x 154, x 155, x 156, x 157, x 158, x 159, x 160, x 161, x 162, x 163, x 164, x 165, x 166, x 167, x 168, x 169, x 170, x 171, x 172, x 173, x 174, x 175, x 176, x 177, x 178, x 179, x 180, x 181, x 182, x 183, x 184, x 185, x 186, x 187, x 188, x 189, x 190, x 191, x 192, x 193, x 194, x 195, x 196, x 197, x 198, x 199, x 200, x 201, x 202, x 203, x 204, x 205, x 206, x 207, x 208, x 209, x 210, x 211, x 212, x 213, x 214, x 215, x 216, x 217, x 218, x 219, x 220, x 221, x 222, x 223, x 224, x 225, x 226, x 227, x 228, x 229, x 230, x 231, x 232, x 233, x 234, x 235, x 236, x 237, x 238, x 239, x 240, x 241, x 242, x 243, x 244, x 245, x 246, x 247, x 248, x 249, x 250, x 251, x 252, x 253, x 254, x 255, x 256, x 257, x 258, x 259, x 260, x 261, x 262, x 263, x 264, x 265, x 266, x 267, x 268, x 269, x 270, x 271, x 272, x 273, x 274, x 275, x 276, x 277, x 278, x 279, x 280, x 281, x 282, x 283, x 284, x 285, x 286, x 287, x 288, x 289, x 290, x 291, x 292, x 293, x 294, x 295, x 296, x 297, x 298, x 299, x 300, x 301, x 302, x 303, x 304, x 305, x 306, x 307, x 308, x 309, x 310, x 311, x 312, x 313, x 314, x 315, x 316, x 317, x 318, x 319, x 320, x 321, x 322, x 323, x 324, x 325, x 326, x 327, x 328, x 329, x 330, x 331, x 332, x 333, x 334, x 335, x 336, x 337, x 338, x 339, x 340, x 341, x 342, x 343, x 344, x 345, x 346, x 347, x 348, x 349, x 350, x 351, x 352, x 353, x 354, x 355, x 356, x 357, x 358, x 359, x 360, x 361, x 362, x 363, x 364, x 365, x 366, x 367, x 368, x 369, x 370, x 371, x 372, x 373, x 374, x 375, x 376, x 377, x 378, x 379, x 380, x 381, x 382, x 383], []⟩ wr := by
  obtain ⟨vr, hpr, hwr⟩ := hat
  have Hnv : Hid (∀ k, ok k → k ≠ b ∧ ¬ InRow vr k) := Lib.hid fun k hk => ⟨(hok.out _ hk).1, fun hh => by have := (hpr.addr _ hh).1; have := (hok.out _ hk).2; omega⟩
  obtain ⟨_, ⟨gb, kvo, ck, hcs, hgb, hkid, hrow⟩, hMr⟩ := hM
  obtain ⟨vbx, hbx0⟩ := Hbx.out
  have hbx := hwr.heap hbx1 Hbx2.out hbx0
  have hbc := cell_of_heap hbx 0
  simp at hbc
  have hbz := heap_lt hbx
  have Hbxr := Lib.hid hbx
  have Hbxn := Lib.hid (hwr.out Hbx2.out (heap_lt hbx0))
  clear hbx hbx0
  have hkp : ∀ a v, ok a.block → W0.cell? a = some v → wr.cell? a = some v := fun a v ha hc => hwr.cell ⟨(hok.out _ ha).1, fun hh => by have := hB.out _ hh; have := (hok.out _ ha).2; omega⟩ hc
  have q3 := hpr.cell 3 (by decide)
  have q6 := hpr.cell 6 (by decide)
  have q9 := hpr.cell 9 (by decide)
  simp [pc] at q3 q6 q9
  have hrb := hpr.lt_size
  have c0 := hcs 0 (by decide)
  have c1 := hcs 1 (by decide)
  have c2 := hcs 2 (by decide)
  have c3 := hcs 3 (by decide)
  have c4 := hcs 4 (by decide)
  have c5 := hcs 5 (by decide)
  have c6 := hcs 6 (by decide)
  simp [cells7, lkind, gkind, ltxt, gtxt] at c0 c1 c2 c3 c4 c5 c6
  replace c0 := hkp ⟨tb, k * 7, none⟩ _ htb c0
  replace c1 := hkp ⟨tb, k * 7 + 1, none⟩ _ htb c1
  replace c2 := hkp ⟨tb, k * 7 + 2, none⟩ _ htb c2
  replace c3 := hkp ⟨tb, k * 7 + 3, none⟩ _ htb c3
  replace c4 := hkp ⟨tb, k * 7 + 4, none⟩ _ htb c4
  replace c5 := hkp ⟨tb, k * 7 + 5, none⟩ _ htb c5
  replace c6 := hkp ⟨tb, k * 7 + 6, none⟩ _ htb c6
  have htbw := World.block_lt_of_cell? wr _ c0
  simp only at htbw
  have hkidr := hkp ⟨gb, 0, none⟩ _ hgb hkid
  have hgbw := World.block_lt_of_cell? wr _ hkidr
  simp only at hgbw
  have hlen2 : k + (r.len + 1) = N := hlen
  have hx0 : (0 : Int) ≤ (k : Int) := by omega
  have hx1 : (k : Int) < (N : Int) := by omega
  obtain ⟨hc0, hc1⟩ := hcl
  have hx5 : ¬ ((k : Int) + 1 < (N : Int)) := by omega
  have Hpr := Lib.hid hpr
  have Hwr := Lib.hid hwr
  have Hkp := Lib.hid hkp
  have HMr := Lib.hid hMr
  have Hlen := Lib.hid hlen
  have Htx := Lib.hid htx
  have Hfi := Lib.hid hfi
  have Hszr := Lib.hid hszr
  have Hcs := Lib.hid hcs
  have Hkid := Lib.hid hkid
  have Hrow := Lib.hid hrow
  clear hpr hwr hkp hMr hlen htx hfi hszr hcs hkid hrow hlast
  have hch2 : (out ++ pre).length + 0 + ((ftxt sel).data.toList.length + 1) + (full kd).length ≤ 99999000 := by have := hch; simp [sp, opens, gtxt] at this ⊢; omega
  clear hch
  have b02 : bits .and .u8 0 2 = 0 := by decide
  have b01 : bits .and .u8 0 1 = 0 := by decide
  obtain ⟨tx, htxx⟩ : ∃ tx, tx = ftxt sel := ⟨_, rfl⟩
  rw [← htxx] at c1 hch2
  have Hpl : Hid (Plain tx) := Lib.hid (by rw [htxx]; exact plain_f _)
  have hsz8 : tx.size ≤ 4 := by rw [htxx]; exact ftxt_size _
  have Htx2 := Lib.hid htxx
  clear htxx
  have HpW : Hid (Pr B b m false vr (out ++ pre) (wr.alloc (.cells #[.pointer (some ⟨gb, 0, none⟩), .string tx, .int .i32 0, .int .u32 0, .int .u16 0, .int .u8 27, .int .u8 0] 40))) := Lib.hid (Hpr.out.wrote ((Chg.refl Nowhere wr).alloc _))
  have HwW : Hid (Wrote b vr vr (wr.alloc (.cells #[.pointer (some ⟨gb, 0, none⟩), .string tx, .int .i32 0, .int .u32 0, .int .u16 0, .int .u8 27, .int .u8 0] 40)) (wr.alloc (.cells #[.pointer (some ⟨gb, 0, none⟩), .string tx, .int .i32 0, .int .u32 0, .int .u16 0, .int .u8 27, .int .u8 0] 40))) := Lib.hid (Wrote.refl b vr _)
  conv => arg 2; whnf
  go_wp2_with fail
  refine (ident22 B b m false vr (out ++ pre) tx _ _ Hpl.out HpW.out (by simp only [List.length_append, List.length_cons, List.length_nil] at *; omega) (by omega)).mono ?_
  rintro e_waa waa ⟨rfl, vwaa, hp, hw⟩
  have Hp_waa : Hid (Pr B b m false vwaa (out ++ pre ++ tx.data.toList) waa) := Lib.hid hp
  have Hw_waa : Hid (Wrote b vr vwaa (wr.alloc (.cells #[.pointer (some ⟨gb, 0, none⟩), .string tx, .int .i32 0, .int .u32 0, .int .u16 0, .int .u8 27, .int .u8 0] 40)) waa) := Lib.hid (HwW.out.trans hw)
  clear hp hw
  have hbz_waa : waa.heap[wr.heap.size]? = some (.cells #[.pointer (some ⟨gb, 0, none⟩), .string tx, .int .i32 0, .int .u32 0, .int .u16 0, .int .u8 27, .int .u8 0] 40) := Hw_waa.out.heap (by omega) (fun hh => by have := (Hpr.out.addr _ hh).2; omega) (heap_alloc_at wr _ _ rfl)
  have z0_waa := cell_of_heap hbz_waa 0
  have z1_waa := cell_of_heap hbz_waa 1
  have z5_waa := cell_of_heap hbz_waa 5
  have z6_waa := cell_of_heap hbz_waa 6
  have zl_waa := heap_lt hbz_waa
  simp at z0_waa z1_waa z5_waa z6_waa
  have p3_waa := Hp_waa.out.cell 3 (by decide)
  have p6_waa := Hp_waa.out.cell 6 (by decide)
  have p9_waa := Hp_waa.out.cell 9 (by decide)
  simp [pc] at p3_waa p6_waa p9_waa
  have hby_waa := Hw_waa.out.heap hbx1 Hbxn.out (heap_alloc_keep Hbxr.out (.cells #[.pointer (some ⟨gb, 0, none⟩), .string tx, .int .i32 0, .int .u32 0, .int .u16 0, .int .u8 27, .int .u8 0] 40))
  have hbd_waa := cell_of_heap hby_waa 0
  have hbe_waa := heap_lt hby_waa
  simp at hbd_waa
  have kid_waa := (Wrote.trans ((Wrote.refl b vr wr).alloc _) Hw_waa.out).cell (a := ⟨gb, 0, none⟩) (Hnv.out _ hgb) hkidr
  have kgl_waa := World.block_lt_of_cell? waa _ kid_waa
  simp only at kgl_waa
  clear hbz_waa hby_waa
  go_wp2_with fail
  refine (print_w B b m false vwaa (out ++ pre ++ tx.data.toList) ⟨#[40]⟩ _ Hp_waa.out (by simp only [List.length_append, List.length_cons, List.length_nil] at *; omega) (by decide)).mono ?_
  rintro e_wba wba ⟨rfl, vwba, hp, hw⟩
  have Hp_wba : Hid (Pr B b m false vwba (out ++ pre ++ tx.data.toList ++ [40]) wba) := Lib.hid hp
  have Hw_wba : Hid (Wrote b vr vwba (wr.alloc (.cells #[.pointer (some ⟨gb, 0, none⟩), .string tx, .int .i32 0, .int .u32 0, .int .u16 0, .int .u8 27, .int .u8 0] 40)) wba) := Lib.hid (Hw_waa.out.trans hw)
  clear hp hw
  have hbz_wba : wba.heap[wr.heap.size]? = some (.cells #[.pointer (some ⟨gb, 0, none⟩), .string tx, .int .i32 0, .int .u32 0, .int .u16 0, .int .u8 27, .int .u8 0] 40) := Hw_wba.out.heap (by omega) (fun hh => by have := (Hpr.out.addr _ hh).2; omega) (heap_alloc_at wr _ _ rfl)
  have z0_wba := cell_of_heap hbz_wba 0
  have z1_wba := cell_of_heap hbz_wba 1
  have z5_wba := cell_of_heap hbz_wba 5
  have z6_wba := cell_of_heap hbz_wba 6
  have zl_wba := heap_lt hbz_wba
  simp at z0_wba z1_wba z5_wba z6_wba
  have p3_wba := Hp_wba.out.cell 3 (by decide)
  have p6_wba := Hp_wba.out.cell 6 (by decide)
  have p9_wba := Hp_wba.out.cell 9 (by decide)
  simp [pc] at p3_wba p6_wba p9_wba
  have hby_wba := Hw_wba.out.heap hbx1 Hbxn.out (heap_alloc_keep Hbxr.out (.cells #[.pointer (some ⟨gb, 0, none⟩), .string tx, .int .i32 0, .int .u32 0, .int .u16 0, .int .u8 27, .int .u8 0] 40))
  have hbd_wba := cell_of_heap hby_wba 0
  have hbe_wba := heap_lt hby_wba
  simp at hbd_wba
  have kid_wba := (Wrote.trans ((Wrote.refl b vr wr).alloc _) Hw_wba.out).cell (a := ⟨gb, 0, none⟩) (Hnv.out _ hgb) hkidr
  have kgl_wba := World.block_lt_of_cell? wba _ kid_wba
  simp only at kgl_wba
  clear hbz_wba hby_wba
  go_wp2_with fail
  go_still_tail 9, (by kernel_rfl)
  change wpList _ _ _ _ _ wba.drew
  go_wp2_with fail
  have hkk : ∀ a u, ok a.block → W0.cell? a = some u → wba.drew.cell? a = some u := fun a u ha hc => (Wrote.trans ((Wrote.refl b vr wr).alloc _) Hw_wba.out).cell (Hnv.out _ ha) (Hkp.out a u ha hc)
  have Hw_wbaD : Hid (Wrote b vr vwba (wr.alloc (.cells #[.pointer (some ⟨gb, 0, none⟩), .string tx, .int .i32 0, .int .u32 0, .int .u16 0, .int .u8 27, .int .u8 0] 40)) wba.drew) := Lib.hid Hw_wba.out.drew
  refine (IH.out kvo ck Hrow.out (out ++ pre ++ tx.data.toList ++ [40]) wba.drew vwba Hp_wba.out.drew hkk (by simp only [List.length_append, List.length_cons, List.length_nil] at *; omega)).mono ?_
  rintro e_wca wca ⟨rfl, vwca, hp, hw⟩
  have Hp_wca : Hid (Pr B b m false vwca (out ++ pre ++ tx.data.toList ++ [40] ++ full kd) wca) := Lib.hid hp
  have Hw_wca : Hid (Wrote b vr vwca (wr.alloc (.cells #[.pointer (some ⟨gb, 0, none⟩), .string tx, .int .i32 0, .int .u32 0, .int .u16 0, .int .u8 27, .int .u8 0] 40)) wca) := Lib.hid (Hw_wbaD.out.trans hw)
  clear hp hw
  have hbz_wca : wca.heap[wr.heap.size]? = some (.cells #[.pointer (some ⟨gb, 0, none⟩), .string tx, .int .i32 0, .int .u32 0, .int .u16 0, .int .u8 27, .int .u8 0] 40) := Hw_wca.out.heap (by omega) (fun hh => by have := (Hpr.out.addr _ hh).2; omega) (heap_alloc_at wr _ _ rfl)
  have z0_wca := cell_of_heap hbz_wca 0
  have z1_wca := cell_of_heap hbz_wca 1
  have z5_wca := cell_of_heap hbz_wca 5
  have z6_wca := cell_of_heap hbz_wca 6
  have zl_wca := heap_lt hbz_wca
  simp at z0_wca z1_wca z5_wca z6_wca
  have p3_wca := Hp_wca.out.cell 3 (by decide)
  have p6_wca := Hp_wca.out.cell 6 (by decide)
  have p9_wca := Hp_wca.out.cell 9 (by decide)
  simp [pc] at p3_wca p6_wca p9_wca
  have hby_wca := Hw_wca.out.heap hbx1 Hbxn.out (heap_alloc_keep Hbxr.out (.cells #[.pointer (some ⟨gb, 0, none⟩), .string tx, .int .i32 0, .int .u32 0, .int .u16 0, .int .u8 27, .int .u8 0] 40))
  have hbd_wca := cell_of_heap hby_wca 0
  have hbe_wca := heap_lt hby_wca
  simp at hbd_wca
  have kid_wca := (Wrote.trans ((Wrote.refl b vr wr).alloc _) Hw_wca.out).cell (a := ⟨gb, 0, none⟩) (Hnv.out _ hgb) hkidr
  have kgl_wca := World.block_lt_of_cell? wca _ kid_wca
  simp only at kgl_wca
  clear hbz_wca hby_wca
  go_wp2_with fail
  refine (print_w B b m false vwca (out ++ pre ++ tx.data.toList ++ [40] ++ full kd) ⟨#[41]⟩ _ Hp_wca.out (by simp only [List.length_append, List.length_cons, List.length_nil] at *; omega) (by decide)).mono ?_
  rintro e_wda wda ⟨rfl, vwda, hp, hw⟩
  have Hp_wda : Hid (Pr B b m false vwda (out ++ pre ++ tx.data.toList ++ [40] ++ full kd ++ [41]) wda) := Lib.hid hp
  have Hw_wda : Hid (Wrote b vr vwda (wr.alloc (.cells #[.pointer (some ⟨gb, 0, none⟩), .string tx, .int .i32 0, .int .u32 0, .int .u16 0, .int .u8 27, .int .u8 0] 40)) wda) := Lib.hid (Hw_wca.out.trans hw)
  clear hp hw
  have hbz_wda : wda.heap[wr.heap.size]? = some (.cells #[.pointer (some ⟨gb, 0, none⟩), .string tx, .int .i32 0, .int .u32 0, .int .u16 0, .int .u8 27, .int .u8 0] 40) := Hw_wda.out.heap (by omega) (fun hh => by have := (Hpr.out.addr _ hh).2; omega) (heap_alloc_at wr _ _ rfl)
  have z0_wda := cell_of_heap hbz_wda 0
  have z1_wda := cell_of_heap hbz_wda 1
  have z5_wda := cell_of_heap hbz_wda 5
  have z6_wda := cell_of_heap hbz_wda 6
  have zl_wda := heap_lt hbz_wda
  simp at z0_wda z1_wda z5_wda z6_wda
  have p3_wda := Hp_wda.out.cell 3 (by decide)
  have p6_wda := Hp_wda.out.cell 6 (by decide)
  have p9_wda := Hp_wda.out.cell 9 (by decide)
  simp [pc] at p3_wda p6_wda p9_wda
  have hby_wda := Hw_wda.out.heap hbx1 Hbxn.out (heap_alloc_keep Hbxr.out (.cells #[.pointer (some ⟨gb, 0, none⟩), .string tx, .int .i32 0, .int .u32 0, .int .u16 0, .int .u8 27, .int .u8 0] 40))
  have hbd_wda := cell_of_heap hby_wda 0
  have hbe_wda := heap_lt hby_wda
  simp at hbd_wda
  have kid_wda := (Wrote.trans ((Wrote.refl b vr wr).alloc _) Hw_wda.out).cell (a := ⟨gb, 0, none⟩) (Hnv.out _ hgb) hkidr
  have kgl_wda := World.block_lt_of_cell? wda _ kid_wda
  simp only at kgl_wda
  clear hbz_wda hby_wda
  go_wp2_with fail
  have htx2 : body false ts = (pre ++ tx.data.toList ++ [40] ++ full kd ++ [41]) ++ body false r := by rw [Htx.out, Htx2.out]; simp [body, sp, ltxt, gtxt, opens, closer, full, List.append_assoc]
  have hfi2 : fin false ts = fin false r := by rw [Hfi.out]; simp [fin]
  refine ⟨⟨k + 1, cc, false, r, pre ++ tx.data.toList ++ [40] ++ full kd ++ [41], rfl, rfl, rfl, rfl, rfl, rfl, rfl, ?_, rfl, rfl, ?_, by omega, by omega, .inr ⟨tb, rfl, htb, HMr.out⟩, htx2, hfi2, by have := Hszr.out; simp only [sz] at this; omega, vwda, ?_, ?_⟩, ?_⟩
  · first | rfl | (simp; done)
  · first | rfl | (simp; done)
  · have hh := Hp_wda.out; first | exact hh | (simp only [List.append_assoc] at hh ⊢; exact hh)
  · exact Hwr.out.trans (Wrote.trans ((Wrote.refl b vr wr).alloc _) Hw_wda.out)
  · simp [Wmu, intOf]; omega
set_option maxHeartbeats 32000000 in
theorem tfnHN (B b tb N cap bx k sel : Nat) (kd r : Ts) (ts : Ts) (m : Bool) (cc ind : Int) (out pre : List UInt8) (W0 : World) (vo : Option Addr) (ok : Nat → Prop) (x : Nat → Value) (wr : World) (Q0 : Exit → Act → World → Prop)
    (hNs : N ≤ 131073) (hok : Hid (∀ k, ok k → k ≠ b ∧ k < B)) (hB : Hid (∀ k, InRow vo k → B ≤ k))
    (Hbx : Hid (∃ v, W0.heap[bx]? = some (.cells #[.int .i32 ind, .int .u8 0, .bool v] 69))) (hbx1 : bx ≠ b) (Hbx2 : Hid (¬ InRow vo bx)) (htb : ok tb)
    (hM : Mem W0 ok (.node 3 sel kd r) tb k) (hlen : k + (.node 3 sel kd r : Ts).len = N) (hcl : 0 ≤ cc ∧ cc ≤ k) (hlast : k + 1 < N) (htx : body false ts = pre ++ body true (.node 3 sel kd r)) (hfi : fin false ts = fin true (.node 3 sel kd r)) (hszr : sz (.node 3 sel kd r) ≤ sz ts)
    (hbk : (out ++ pre).length ≤ 100000000) (hch : (out ++ pre).length + (sp true).length + (opens 3 sel).length + (full kd).length ≤ 99999000) (IH : Hid (∀ kvo ck, Row W0 ok kvo kd → Child B b m ind W0 ok kvo ck kd)) (hat : At B b m vo (out ++ pre) W0 wr) :
    Code.wp Tryf.prog body2 (Exit.then (fun a' w'' => WJ2 B b N cap bx (some ⟨tb, 0, none⟩) m out W0 vo ok ts a' w'' ∧ Wmu N a' w'' < Wmu N ⟨#[.pointer (some ⟨b, 0, none⟩), .slice (some ⟨tb, 0, none⟩) N cap, x 2, x 3, x 4, .pointer (some ⟨bx, 0, none⟩), x 6, .bool true, .int .i64 0, x 9, x 10, x 11, .int .i64 cc, x 13, x 14, x 15, x 16, x 17, x 18, x 19, x 20, x 21, x 22, x 23, x 24, x 25, x 26, x 27, x 28, x 29, x 30, x 31, x 32, x 33, x 34, x 35, x 36, x 37, x 38, x 39, x 40, x 41, x 42, x 43, x 44, x 45, x 46, x 47, x 48, x 49, x 50, x 51, x 52, x 53, x 54, x 55, x 56, x 57, x 58, x 59, x 60, x 61, x 62, x 63, x 64, x 65, x 66, x 67, x 68, x 69, .slice (some ⟨tb, 0, none⟩) N cap, .int .i64 (N : Int), .int .i64 (k : Int), x 73, x 74, x 75, x 76, x 77, x 78, x 79, x 80, x 81, x 82, x 83, x 84, x 85, x 86, x 87, x 88, x 89, x 90, x 91, x 92, x 93, x 94, x 95, x 96, x 97, x 98, x 99, x 100, x 101, x 102, x 103, x 104, x 105, x 106, x 107, x 108, x 109, x 110, x 111, x 112, x 113, x 114, x 115, x 116, x 117, x 118, x 119, x 120, x 121, x 122, x 123, x 124, x 125, x 126, x 127, x 128, x 129, x 130, x 131, x 132, x 133, x 134, x 135, x 136, x 137, x 138, x 139, x 140, x 141, x 142, x 143, x 144, x 145, x 146, x 147, x 148, x 149, x 150, x 151, x 152, x 153, x 154, x 155, x 156, x 157, x 158, x 159, x 160, x 161, x 162, x 163, x 164, x 165, x 166, x 167, x 168, x 169, x 170, x 171, x 172, x 173, x 174, x 175, x 176, x 177, x 178, x 179, x 180, x 181, x 182, x 183, x 184, x 185, x 186, x 187, x 188, x 189, x 190, x 191, x 192, x 193, x 194, x 195, x 196, x 197, x 198, x 199, x 200, x 201, x 202, x 203, x 204, x 205, x 206, x 207, x 208, x 209, x 210, x 211, x 212, x 213, x 214, x 215, x 216, x 217, x 218, x 219, x 220, x 221, x 222, x 223, x 224, x 225, x 226, x 227, x 228, x 229, x 230, x 231, x 232, x 233, x 234, x 235, x 236, x 237, x 238, x 239, x 240, x 241, x 242, x 243, x 244, x 245, x 246, x 247, x 248, x 249, x 250, x 251, x 252, x 253, x 254, x 255, x 256, x 257, x 258, x 259, x 260, x 261, x 262, x 263, x 264, x 265, x 266, x 267, x 268, x 269, x 270, x 271, x 272, x 273, x 274, x 275, x 276, x 277, x 278, x 279, x 280, x 281, x 282, x 283, x 284, x 285, x 286, x 287, x 288, x 289, x 290, x 291, x 292, x 293, x 294, x 295, x 296, x 297, x 298, x 299, x 300, x 301, x 302, x 303, x 304, x 305, x 306, x 307, x 308, x 309, x 310, x 311, x 312, x 313, x 314, x 315, x 316, x 317, x 318, x 319, x 320, x 321, x 322, x 323, x 324, x 325, x 326, x 327, x 328, x 329, x 330, x 331, x 332, x 333, x 334, x 335, x 336, x 337, x 338, x 339, x 340, x 341, x 342, x 343, x 344, x 345, x 346, x 347, x 348, x 349, x 350, x 351, x 352, x 353, x 354, x 355, x 356, x 357, x 358, x 359, x 360, x 361, x 362, x 363, x 364, x 365, x 366, x 367, x 368, x 369, x 370, x 371, x 372, x 373, x 374, x 375, x 376, x 377, x 378, x 379, x 380, x 381, x 382, x 383], []⟩ wr) Q0) ⟨#[.pointer (some ⟨b, 0, none⟩), .slice (some ⟨tb, 0, none⟩) N cap, x 2, x 3, x 4, .pointer (some ⟨bx, 0, none⟩), x 6, .bool true, .int .i64 0, x 9, x 10, x 11, .int .i64 cc, x 13, x 14, x 15, x 16, x 17, x 18, x 19, x 20, x 21, x 22, x 23, x 24, x 25, x 26, x 27, x 28, x 29, x 30, x 31, x 32, x 33, x 34, x 35, x 36, x 37, x 38, x 39, x 40, x 41, x 42, x 43, x 44, x 45, x 46, x 47, x 48, x 49, x 50, x 51, x 52, x 53, x 54, x 55, x 56, x 57, x 58, x 59, x 60, x 61, x 62, x 63, x 64, x 65, x 66, x 67, x 68, x 69, .slice (some ⟨tb, 0, none⟩) N cap, .int .i64 (N : Int), .int .i64 (k : Int), x 73, x 74, x 75, x 76, x 77, x 78, x 79, x 80, x 81, x 82, x 83, x 84, x 85, x 86, x 87, x 88, x 89, x 90, x 91, x 92, x 93, x 94, x 95, x 96, x 97, x 98, x 99, x 100, x 101, x 102, x 103, x 104, x 105, x 106, x 107, x 108, x 109, x 110, x 111, x 112, x 113, x 114, x 115, x 116, x 117, x 118, x 119, x 120, x 121, x 122, x 123, x 124, x 125, x 126, x 127, x 128, x 129, x 130, x 131, x 132, x 133, x 134, x 135, x 136, x 137, x 138, x 139, x 140, x 141, x 142, x 143, x 144, x 145, x 146, x 147, x 148, x 149, x 150, x 151, x 152, x 153, x 154, x 155, x 156, x 157, x 158, x 159, x 160, x 161, x 162, x 163, x 164, x 165, x 166, x 167, x 168, x 169, x 170, x 171, x 172, x 173, x 174, x 175, x 176, x 177, x 178, x 179, x 180, x 181, x 182, x 183, x 184, x 185, x 186, x 187, x 188, x 189, x 190, x 191, x 192, x 193, x 194, x 195, x 196, x 197, x 198, x 199, x 200, x 201, x 202, x 203, x 204, x 205, x 206, x 207, x 208, x 209, x 210, x 211, x 212, x 213, x 214, x 215, x 216, x 217, x 218, x 219, x 220, x 221, x 222, x 223, x 224, x 225, x 226, x 227, x 228, x 229, x 230, x 231, x 232, x 233, x 234, x 235, x 236, x 237, x 238, x 239, x 240, x 241, x 242, x 243, x 244, x 245, x 246, x 247, x 248, x 249, x 250, x 251, x 252, x 253, x 254, x 255, x 256, x 257, x 258, x 259, x 260, x 261, x 262, x 263, x 264, x 265, x 266, x 267, x 268, x 269, x 270, x 271, x 272, x 273, x 274, x 275, x 276, x 277, x 278, x 279, x 280, x 281, x 282, x 283, x 284, x 285, x 286, x 287, x 288, x 289, x 290, x 291, x 292, x 293, x 294, x 295, x 296, x 297, x 298, x 299, x 300, x 301, x 302, x 303, x 304, x 305, x 306, x 307, x 308, x 309, x 310, x 311, x 312, x 313, x 314, x 315, x 316, x 317, x 318, x 319, x 320, x 321, x 322, x 323, x 324, x 325, x 326, x 327, x 328, x 329, x 330, x 331, x 332, x 333, x 334, x 335, x 336, x 337, x 338, x 339, x 340, x 341, x 342, x 343, x 344, x 345, x 346, x 347, x 348, x 349, x 350, x 351, x 352, x 353, x 354, x 355, x 356, x 357, x 358, x 359, x 360, x 361, x 362, x 363, x 364, x 365, x 366, x 367, x 368, x 369, x 370, x 371, x 372, x 373, x 374, x 375, x 376, x 377, x 378, x 379, x 380, x 381, x 382, x 383], []⟩ wr := by
  obtain ⟨vr, hpr, hwr⟩ := hat
  have Hnv : Hid (∀ k, ok k → k ≠ b ∧ ¬ InRow vr k) := Lib.hid fun k hk => ⟨(hok.out _ hk).1, fun hh => by have := (hpr.addr _ hh).1; have := (hok.out _ hk).2; omega⟩
  obtain ⟨_, ⟨gb, kvo, ck, hcs, hgb, hkid, hrow⟩, hMr⟩ := hM
  obtain ⟨vbx, hbx0⟩ := Hbx.out
  have hbx := hwr.heap hbx1 Hbx2.out hbx0
  have hbc := cell_of_heap hbx 0
  simp at hbc
  have hbz := heap_lt hbx
  have Hbxr := Lib.hid hbx
  have Hbxn := Lib.hid (hwr.out Hbx2.out (heap_lt hbx0))
  clear hbx hbx0
  have hkp : ∀ a v, ok a.block → W0.cell? a = some v → wr.cell? a = some v := fun a v ha hc => hwr.cell ⟨(hok.out _ ha).1, fun hh => by have := hB.out _ hh; have := (hok.out _ ha).2; omega⟩ hc
  have q3 := hpr.cell 3 (by decide)
  have q6 := hpr.cell 6 (by decide)
  have q9 := hpr.cell 9 (by decide)
  simp [pc] at q3 q6 q9
  have hrb := hpr.lt_size
  have c0 := hcs 0 (by decide)
  have c1 := hcs 1 (by decide)
  have c2 := hcs 2 (by decide)
  have c3 := hcs 3 (by decide)
  have c4 := hcs 4 (by decide)
  have c5 := hcs 5 (by decide)
  have c6 := hcs 6 (by decide)
  simp [cells7, lkind, gkind, ltxt, gtxt] at c0 c1 c2 c3 c4 c5 c6
  replace c0 := hkp ⟨tb, k * 7, none⟩ _ htb c0
  replace c1 := hkp ⟨tb, k * 7 + 1, none⟩ _ htb c1
  replace c2 := hkp ⟨tb, k * 7 + 2, none⟩ _ htb c2
  replace c3 := hkp ⟨tb, k * 7 + 3, none⟩ _ htb c3
  replace c4 := hkp ⟨tb, k * 7 + 4, none⟩ _ htb c4
  replace c5 := hkp ⟨tb, k * 7 + 5, none⟩ _ htb c5
  replace c6 := hkp ⟨tb, k * 7 + 6, none⟩ _ htb c6
  have htbw := World.block_lt_of_cell? wr _ c0
  simp only at htbw
  have hkidr := hkp ⟨gb, 0, none⟩ _ hgb hkid
  have hgbw := World.block_lt_of_cell? wr _ hkidr
  simp only at hgbw
  have hlen2 : k + (r.len + 1) = N := hlen
  have hx0 : (0 : Int) ≤ (k : Int) := by omega
  have hx1 : (k : Int) < (N : Int) := by omega
  obtain ⟨hc0, hc1⟩ := hcl
  have nx := Mem.ws hMr (by omega)
  have Hnx := Lib.hid nx
  clear nx
  have hx5 : (k : Int) + 1 < (N : Int) := by omega
  have hx6 : (0 : Int) ≤ (k : Int) + 1 := by omega
  have hk1 : (k + 1) * 7 + 6 = ((k : Int) + 1).toNat * 7 + 6 := by omega
  have Hk1 := Lib.hid hk1
  clear hk1
  have Hpr := Lib.hid hpr
  have Hwr := Lib.hid hwr
  have Hkp := Lib.hid hkp
  have HMr := Lib.hid hMr
  have Hlen := Lib.hid hlen
  have Htx := Lib.hid htx
  have Hfi := Lib.hid hfi
  have Hszr := Lib.hid hszr
  have Hcs := Lib.hid hcs
  have Hkid := Lib.hid hkid
  have Hrow := Lib.hid hrow
  clear hpr hwr hkp hMr hlen htx hfi hszr hcs hkid hrow hlast
  have hch2 : (out ++ pre).length + 1 + ((ftxt sel).data.toList.length + 1) + (full kd).length ≤ 99999000 := by have := hch; simp [sp, opens, gtxt] at this ⊢; omega
  clear hch
  have b02 : bits .and .u8 0 2 = 0 := by decide
  have b01 : bits .and .u8 0 1 = 0 := by decide
  obtain ⟨tx, htxx⟩ : ∃ tx, tx = ftxt sel := ⟨_, rfl⟩
  rw [← htxx] at c1 hch2
  have Hpl : Hid (Plain tx) := Lib.hid (by rw [htxx]; exact plain_f _)
  have hsz8 : tx.size ≤ 4 := by rw [htxx]; exact ftxt_size _
  have Htx2 := Lib.hid htxx
  clear htxx
  have HpW : Hid (Pr B b m false vr (out ++ pre) (wr.alloc (.cells #[.pointer (some ⟨gb, 0, none⟩), .string tx, .int .i32 0, .int .u32 0, .int .u16 0, .int .u8 27, .int .u8 0] 40))) := Lib.hid (Hpr.out.wrote ((Chg.refl Nowhere wr).alloc _))
  have HwW : Hid (Wrote b vr vr (wr.alloc (.cells #[.pointer (some ⟨gb, 0, none⟩), .string tx, .int .i32 0, .int .u32 0, .int .u16 0, .int .u8 27, .int .u8 0] 40)) (wr.alloc (.cells #[.pointer (some ⟨gb, 0, none⟩), .string tx, .int .i32 0, .int .u32 0, .int .u16 0, .int .u8 27, .int .u8 0] 40))) := Lib.hid (Wrote.refl b vr _)
  conv => arg 2; whnf
  go_wp2_with fail
  refine (print_w B b m false vr (out ++ pre) ⟨#[32]⟩ _ HpW.out (by simp only [List.length_append, List.length_cons, List.length_nil] at *; omega) (by decide)).mono ?_
  rintro e_waa waa ⟨rfl, vwaa, hp, hw⟩
  have Hp_waa : Hid (Pr B b m false vwaa (out ++ pre ++ [32]) waa) := Lib.hid hp
  have Hw_waa : Hid (Wrote b vr vwaa (wr.alloc (.cells #[.pointer (some ⟨gb, 0, none⟩), .string tx, .int .i32 0, .int .u32 0, .int .u16 0, .int .u8 27, .int .u8 0] 40)) waa) := Lib.hid (HwW.out.trans hw)
  clear hp hw
  have hbz_waa : waa.heap[wr.heap.size]? = some (.cells #[.pointer (some ⟨gb, 0, none⟩), .string tx, .int .i32 0, .int .u32 0, .int .u16 0, .int .u8 27, .int .u8 0] 40) := Hw_waa.out.heap (by omega) (fun hh => by have := (Hpr.out.addr _ hh).2; omega) (heap_alloc_at wr _ _ rfl)
  have z0_waa := cell_of_heap hbz_waa 0
  have z1_waa := cell_of_heap hbz_waa 1
  have z5_waa := cell_of_heap hbz_waa 5
  have z6_waa := cell_of_heap hbz_waa 6
  have zl_waa := heap_lt hbz_waa
  simp at z0_waa z1_waa z5_waa z6_waa
  have p3_waa := Hp_waa.out.cell 3 (by decide)
  have p6_waa := Hp_waa.out.cell 6 (by decide)
  have p9_waa := Hp_waa.out.cell 9 (by decide)
  simp [pc] at p3_waa p6_waa p9_waa
  have hby_waa := Hw_waa.out.heap hbx1 Hbxn.out (heap_alloc_keep Hbxr.out (.cells #[.pointer (some ⟨gb, 0, none⟩), .string tx, .int .i32 0, .int .u32 0, .int .u16 0, .int .u8 27, .int .u8 0] 40))
  have hbd_waa := cell_of_heap hby_waa 0
  have hbe_waa := heap_lt hby_waa
  simp at hbd_waa
  have kid_waa := (Wrote.trans ((Wrote.refl b vr wr).alloc _) Hw_waa.out).cell (a := ⟨gb, 0, none⟩) (Hnv.out _ hgb) hkidr
  have kgl_waa := World.block_lt_of_cell? waa _ kid_waa
  simp only at kgl_waa
  have nx_waa := (Wrote.trans ((Wrote.refl b vr wr).alloc _) Hw_waa.out).cell (a := ⟨tb, (k + 1) * 7 + 6, none⟩) (Hnv.out _ htb) (Hkp.out ⟨tb, (k + 1) * 7 + 6, none⟩ _ htb Hnx.out)
  have ny_waa := nx_waa
  rw [Hk1.out] at ny_waa
  have nl_waa := World.block_lt_of_cell? waa _ nx_waa
  clear hbz_waa hby_waa
  go_wp2_with fail
  refine (ident22 B b m false vwaa (out ++ pre ++ [32]) tx _ _ Hpl.out Hp_waa.out (by simp only [List.length_append, List.length_cons, List.length_nil] at *; omega) (by omega)).mono ?_
  rintro e_wba wba ⟨rfl, vwba, hp, hw⟩
  have Hp_wba : Hid (Pr B b m false vwba (out ++ pre ++ [32] ++ tx.data.toList) wba) := Lib.hid hp
  have Hw_wba : Hid (Wrote b vr vwba (wr.alloc (.cells #[.pointer (some ⟨gb, 0, none⟩), .string tx, .int .i32 0, .int .u32 0, .int .u16 0, .int .u8 27, .int .u8 0] 40)) wba) := Lib.hid (Hw_waa.out.trans hw)
  clear hp hw
  have hbz_wba : wba.heap[wr.heap.size]? = some (.cells #[.pointer (some ⟨gb, 0, none⟩), .string tx, .int .i32 0, .int .u32 0, .int .u16 0, .int .u8 27, .int .u8 0] 40) := Hw_wba.out.heap (by omega) (fun hh => by have := (Hpr.out.addr _ hh).2; omega) (heap_alloc_at wr _ _ rfl)
  have z0_wba := cell_of_heap hbz_wba 0
  have z1_wba := cell_of_heap hbz_wba 1
  have z5_wba := cell_of_heap hbz_wba 5
  have z6_wba := cell_of_heap hbz_wba 6
  have zl_wba := heap_lt hbz_wba
  simp at z0_wba z1_wba z5_wba z6_wba
  have p3_wba := Hp_wba.out.cell 3 (by decide)
  have p6_wba := Hp_wba.out.cell 6 (by decide)
  have p9_wba := Hp_wba.out.cell 9 (by decide)
  simp [pc] at p3_wba p6_wba p9_wba
  have hby_wba := Hw_wba.out.heap hbx1 Hbxn.out (heap_alloc_keep Hbxr.out (.cells #[.pointer (some ⟨gb, 0, none⟩), .string tx, .int .i32 0, .int .u32 0, .int .u16 0, .int .u8 27, .int .u8 0] 40))
  have hbd_wba := cell_of_heap hby_wba 0
  have hbe_wba := heap_lt hby_wba
  simp at hbd_wba
  have kid_wba := (Wrote.trans ((Wrote.refl b vr wr).alloc _) Hw_wba.out).cell (a := ⟨gb, 0, none⟩) (Hnv.out _ hgb) hkidr
  have kgl_wba := World.block_lt_of_cell? wba _ kid_wba
  simp only at kgl_wba
  clear hbz_wba hby_wba
  go_wp2_with fail
  refine (print_w B b m false vwba (out ++ pre ++ [32] ++ tx.data.toList) ⟨#[40]⟩ _ Hp_wba.out (by simp only [List.length_append, List.length_cons, List.length_nil] at *; omega) (by decide)).mono ?_
  rintro e_wca wca ⟨rfl, vwca, hp, hw⟩
  have Hp_wca : Hid (Pr B b m false vwca (out ++ pre ++ [32] ++ tx.data.toList ++ [40]) wca) := Lib.hid hp
  have Hw_wca : Hid (Wrote b vr vwca (wr.alloc (.cells #[.pointer (some ⟨gb, 0, none⟩), .string tx, .int .i32 0, .int .u32 0, .int .u16 0, .int .u8 27, .int .u8 0] 40)) wca) := Lib.hid (Hw_wba.out.trans hw)
  clear hp hw
  have hbz_wca : wca.heap[wr.heap.size]? = some (.cells #[.pointer (some ⟨gb, 0, none⟩), .string tx, .int .i32 0, .int .u32 0, .int .u16 0, .int .u8 27, .int .u8 0] 40) := Hw_wca.out.heap (by omega) (fun hh => by have := (Hpr.out.addr _ hh).2; omega) (heap_alloc_at wr _ _ rfl)
  have z0_wca := cell_of_heap hbz_wca 0
  have z1_wca := cell_of_heap hbz_wca 1
  have z5_wca := cell_of_heap hbz_wca 5
  have z6_wca := cell_of_heap hbz_wca 6
  have zl_wca := heap_lt hbz_wca
  simp at z0_wca z1_wca z5_wca z6_wca
  have p3_wca := Hp_wca.out.cell 3 (by decide)
  have p6_wca := Hp_wca.out.cell 6 (by decide)
  have p9_wca := Hp_wca.out.cell 9 (by decide)
  simp [pc] at p3_wca p6_wca p9_wca
  have hby_wca := Hw_wca.out.heap hbx1 Hbxn.out (heap_alloc_keep Hbxr.out (.cells #[.pointer (some ⟨gb, 0, none⟩), .string tx, .int .i32 0, .int .u32 0, .int .u16 0, .int .u8 27, .int .u8 0] 40))
  have hbd_wca := cell_of_heap hby_wca 0
  have hbe_wca := heap_lt hby_wca
  simp at hbd_wca
  have kid_wca := (Wrote.trans ((Wrote.refl b vr wr).alloc _) Hw_wca.out).cell (a := ⟨gb, 0, none⟩) (Hnv.out _ hgb) hkidr
  have kgl_wca := World.block_lt_of_cell? wca _ kid_wca
  simp only at kgl_wca
  clear hbz_wca hby_wca
  go_wp2_with fail
  go_still_tail 9, (by kernel_rfl)
  change wpList _ _ _ _ _ wca.drew
  go_wp2_with fail
  have hkk : ∀ a u, ok a.block → W0.cell? a = some u → wca.drew.cell? a = some u := fun a u ha hc => (Wrote.trans ((Wrote.refl b vr wr).alloc _) Hw_wca.out).cell (Hnv.out _ ha) (Hkp.out a u ha hc)
  have Hw_wcaD : Hid (Wrote b vr vwca (wr.alloc (.cells #[.pointer (some ⟨gb, 0, none⟩), .string tx, .int .i32 0, .int .u32 0, .int .u16 0, .int .u8 27, .int .u8 0] 40)) wca.drew) := Lib.hid Hw_wca.out.drew
  refine (IH.out kvo ck Hrow.out (out ++ pre ++ [32] ++ tx.data.toList ++ [40]) wca.drew vwca Hp_wca.out.drew hkk (by simp only [List.length_append, List.length_cons, List.length_nil] at *; omega)).mono ?_
  rintro e_wda wda ⟨rfl, vwda, hp, hw⟩
  have Hp_wda : Hid (Pr B b m false vwda (out ++ pre ++ [32] ++ tx.data.toList ++ [40] ++ full kd) wda) := Lib.hid hp
  have Hw_wda : Hid (Wrote b vr vwda (wr.alloc (.cells #[.pointer (some ⟨gb, 0, none⟩), .string tx, .int .i32 0, .int .u32 0, .int .u16 0, .int .u8 27, .int .u8 0] 40)) wda) := Lib.hid (Hw_wcaD.out.trans hw)
  clear hp hw
  have hbz_wda : wda.heap[wr.heap.size]? = some (.cells #[.pointer (some ⟨gb, 0, none⟩), .string tx, .int .i32 0, .int .u32 0, .int .u16 0, .int .u8 27, .int .u8 0] 40) := Hw_wda.out.heap (by omega) (fun hh => by have := (Hpr.out.addr _ hh).2; omega) (heap_alloc_at wr _ _ rfl)
  have z0_wda := cell_of_heap hbz_wda 0
  have z1_wda := cell_of_heap hbz_wda 1
  have z5_wda := cell_of_heap hbz_wda 5
  have z6_wda := cell_of_heap hbz_wda 6
  have zl_wda := heap_lt hbz_wda
  simp at z0_wda z1_wda z5_wda z6_wda
  have p3_wda := Hp_wda.out.cell 3 (by decide)
  have p6_wda := Hp_wda.out.cell 6 (by decide)
  have p9_wda := Hp_wda.out.cell 9 (by decide)
  simp [pc] at p3_wda p6_wda p9_wda
  have hby_wda := Hw_wda.out.heap hbx1 Hbxn.out (heap_alloc_keep Hbxr.out (.cells #[.pointer (some ⟨gb, 0, none⟩), .string tx, .int .i32 0, .int .u32 0, .int .u16 0, .int .u8 27, .int .u8 0] 40))
  have hbd_wda := cell_of_heap hby_wda 0
  have hbe_wda := heap_lt hby_wda
  simp at hbd_wda
  have kid_wda := (Wrote.trans ((Wrote.refl b vr wr).alloc _) Hw_wda.out).cell (a := ⟨gb, 0, none⟩) (Hnv.out _ hgb) hkidr
  have kgl_wda := World.block_lt_of_cell? wda _ kid_wda
  simp only at kgl_wda
  clear hbz_wda hby_wda
  go_wp2_with fail
  refine (print_w B b m false vwda (out ++ pre ++ [32] ++ tx.data.toList ++ [40] ++ full kd) ⟨#[41]⟩ _ Hp_wda.out (by simp only [List.length_append, List.length_cons, List.length_nil] at *; omega) (by decide)).mono ?_
  rintro e_wea wea ⟨rfl, vwea, hp, hw⟩
  have Hp_wea : Hid (Pr B b m false vwea (out ++ pre ++ [32] ++ tx.data.toList ++ [40] ++ full kd ++ [41]) wea) := Lib.hid hp
  have Hw_wea : Hid (Wrote b vr vwea (wr.alloc (.cells #[.pointer (some ⟨gb, 0, none⟩), .string tx, .int .i32 0, .int .u32 0, .int .u16 0, .int .u8 27, .int .u8 0] 40)) wea) := Lib.hid (Hw_wda.out.trans hw)
  clear hp hw
  have hbz_wea : wea.heap[wr.heap.size]? = some (.cells #[.pointer (some ⟨gb, 0, none⟩), .string tx, .int .i32 0, .int .u32 0, .int .u16 0, .int .u8 27, .int .u8 0] 40) := Hw_wea.out.heap (by omega) (fun hh => by have := (Hpr.out.addr _ hh).2; omega) (heap_alloc_at wr _ _ rfl)
  have z0_wea := cell_of_heap hbz_wea 0
  have z1_wea := cell_of_heap hbz_wea 1
  have z5_wea := cell_of_heap hbz_wea 5
  have z6_wea := cell_of_heap hbz_wea 6
  have zl_wea := heap_lt hbz_wea
  simp at z0_wea z1_wea z5_wea z6_wea
  have p3_wea := Hp_wea.out.cell 3 (by decide)
  have p6_wea := Hp_wea.out.cell 6 (by decide)
  have p9_wea := Hp_wea.out.cell 9 (by decide)
  simp [pc] at p3_wea p6_wea p9_wea
  have hby_wea := Hw_wea.out.heap hbx1 Hbxn.out (heap_alloc_keep Hbxr.out (.cells #[.pointer (some ⟨gb, 0, none⟩), .string tx, .int .i32 0, .int .u32 0, .int .u16 0, .int .u8 27, .int .u8 0] 40))
  have hbd_wea := cell_of_heap hby_wea 0
  have hbe_wea := heap_lt hby_wea
  simp at hbd_wea
  have kid_wea := (Wrote.trans ((Wrote.refl b vr wr).alloc _) Hw_wea.out).cell (a := ⟨gb, 0, none⟩) (Hnv.out _ hgb) hkidr
  have kgl_wea := World.block_lt_of_cell? wea _ kid_wea
  simp only at kgl_wea
  clear hbz_wea hby_wea
  go_wp2_with fail
  have htx2 : body false ts = (pre ++ [32] ++ tx.data.toList ++ [40] ++ full kd ++ [41]) ++ body false r := by rw [Htx.out, Htx2.out]; simp [body, sp, ltxt, gtxt, opens, closer, full, List.append_assoc]
  have hfi2 : fin false ts = fin false r := by rw [Hfi.out]; simp [fin]
  refine ⟨⟨k + 1, cc, false, r, pre ++ [32] ++ tx.data.toList ++ [40] ++ full kd ++ [41], rfl, rfl, rfl, rfl, rfl, rfl, rfl, ?_, rfl, rfl, ?_, by omega, by omega, .inr ⟨tb, rfl, htb, HMr.out⟩, htx2, hfi2, by have := Hszr.out; simp only [sz] at this; omega, vwea, ?_, ?_⟩, ?_⟩
  · first | rfl | (simp; done)
  · first | rfl | (simp; done)
  · have hh := Hp_wea.out; first | exact hh | (simp only [List.append_assoc] at hh ⊢; exact hh)
  · exact Hwr.out.trans (Wrote.trans ((Wrote.refl b vr wr).alloc _) Hw_wea.out)
  · simp [Wmu, intOf]; omega
set_option maxHeartbeats 32000000 in
theorem tfnHL (B b tb N cap bx k sel : Nat) (kd r : Ts) (ts : Ts) (m : Bool) (cc ind : Int) (out pre : List UInt8) (W0 : World) (vo : Option Addr) (ok : Nat → Prop) (x : Nat → Value) (wr : World) (Q0 : Exit → Act → World → Prop)
    (hNs : N ≤ 131073) (hok : Hid (∀ k, ok k → k ≠ b ∧ k < B)) (hB : Hid (∀ k, InRow vo k → B ≤ k))
    (Hbx : Hid (∃ v, W0.heap[bx]? = some (.cells #[.int .i32 ind, .int .u8 0, .bool v] 69))) (hbx1 : bx ≠ b) (Hbx2 : Hid (¬ InRow vo bx)) (htb : ok tb)
    (hM : Mem W0 ok (.node 3 sel kd r) tb k) (hlen : k + (.node 3 sel kd r : Ts).len = N) (hcl : 0 ≤ cc ∧ cc ≤ k) (hlast : ¬ k + 1 < N) (htx : body false ts = pre ++ body true (.node 3 sel kd r)) (hfi : fin false ts = fin true (.node 3 sel kd r)) (hszr : sz (.node 3 sel kd r) ≤ sz ts)
    (hbk : (out ++ pre).length ≤ 100000000) (hch : (out ++ pre).length + (sp true).length + (opens 3 sel).length + (full kd).length ≤ 99999000) (IH : Hid (∀ kvo ck, Row W0 ok kvo kd → Child B b m ind W0 ok kvo ck kd)) (hat : At B b m vo (out ++ pre) W0 wr) :
    Code.wp Tryf.prog body2 (Exit.then (fun a' w'' => WJ2 B b N cap bx (some ⟨tb, 0, none⟩) m out W0 vo ok ts a' w'' ∧ Wmu N a' w'' < Wmu N ⟨#[.pointer (some ⟨b, 0, none⟩), .slice (some ⟨tb, 0, none⟩) N cap, x 2, x 3, x 4, .pointer (some ⟨bx, 0, none⟩), x 6, .bool true, .int .i64 0, x 9, x 10, x 11, .int .i64 cc, x 13, x 14, x 15, x 16, x 17, x 18, x 19, x 20, x 21, x 22, x 23, x 24, x 25, x 26, x 27, x 28, x 29, x 30, x 31, x 32, x 33, x 34, x 35, x 36, x 37, x 38, x 39, x 40, x 41, x 42, x 43, x 44, x 45, x 46, x 47, x 48, x 49, x 50, x 51, x 52, x 53, x 54, x 55, x 56, x 57, x 58, x 59, x 60, x 61, x 62, x 63, x 64, x 65, x 66, x 67, x 68, x 69, .slice (some ⟨tb, 0, none⟩) N cap, .int .i64 (N : Int), .int .i64 (k : Int), x 73, x 74, x 75, x 76, x 77, x 78, x 79, x 80, x 81, x 82, x 83, x 84, x 85, x 86, x 87, x 88, x 89, x 90, x 91, x 92, x 93, x 94, x 95, x 96, x 97, x 98, x 99, x 100, x 101, x 102, x 103, x 104, x 105, x 106, x 107, x 108, x 109, x 110, x 111, x 112, x 113, x 114, x 115, x 116, x 117, x 118, x 119, x 120, x 121, x 122, x 123, x 124, x 125, x 126, x 127, x 128, x 129, x 130, x 131, x 132, x 133, x 134, x 135, x 136, x 137, x 138, x 139, x 140, x 141, x 142, x 143, x 144, x 145, x 146, x 147, x 148, x 149, x 150, x 151, x 152, x 153, x 154, x 155, x 156, x 157, x 158, x 159, x 160, x 161, x 162, x 163, x 164, x 165, x 166, x 167, x 168, x 169, x 170, x 171, x 172, x 173, x 174, x 175, x 176, x 177, x 178, x 179, x 180, x 181, x 182, x 183, x 184, x 185, x 186, x 187, x 188, x 189, x 190, x 191, x 192, x 193, x 194, x 195, x 196, x 197, x 198, x 199, x 200, x 201, x 202, x 203, x 204, x 205, x 206, x 207, x 208, x 209, x 210, x 211, x 212, x 213, x 214, x 215, x 216, x 217, x 218, x 219, x 220, x 221, x 222, x 223, x 224, x 225, x 226, x 227, x 228, x 229, x 230, x 231, x 232, x 233, x 234, x 235, x 236, x 237, x 238, x 239, x 240, x 241, x 242, x 243, x 244, x 245, x 246, x 247, x 248, x 249, x 250, x 251, x 252, x 253, x 254, x 255, x 256, x 257, x 258, x 259, x 260, x 261, x 262, x 263, x 264, x 265, x 266, x 267, x 268, x 269, x 270, x 271, x 272, x 273, x 274, x 275, x 276, x 277, x 278, x 279, x 280, x 281, x 282, x 283, x 284, x 285, x 286, x 287, x 288, x 289, x 290, x 291, x 292, x 293, x 294, x 295, x 296, x 297, x 298, x 299, x 300, x 301, x 302, x 303, x 304, x 305, x 306, x 307, x 308, x 309, x 310, x 311, x 312, x 313, x 314, x 315, x 316, x 317, x 318, x 319, x 320, x 321, x 322, x 323, x 324, x 325, x 326, x 327, x 328, x 329, x 330, x 331, x 332, x 333, x 334, x 335, x 336, x 337, x 338, x 339, x 340, x 341, x 342, x 343, x 344, x 345, x 346, x 347, x 348, x 349, x 350, x 351, x 352, x 353, x 354, x 355, x 356, x 357, x 358, x 359, x 360, x 361, x 362, x 363, x 364, x 365, x 366, x 367, x 368, x 369, x 370, x 371, x 372, x 373, x 374, x 375, x 376, x 377, x 378, x 379, x 380, x 381, x 382, x 383], []⟩ wr) Q0) ⟨#[.pointer (some ⟨b, 0, none⟩), .slice (some ⟨tb, 0, none⟩) N cap, x 2, x 3, x 4, .pointer (some ⟨bx, 0, none⟩), x 6, .bool true, .int .i64 0, x 9, x 10, x 11, .int .i64 cc, x 13, x 14, x 15, x 16, x 17, x 18, x 19, x 20, x 21, x 22, x 23, x 24, x 25, x 26, x 27, x 28, x 29, x 30, x 31, x 32, x 33, x 34, x 35, x 36, x 37, x 38, x 39, x 40, x 41, x 42, x 43, x 44, x 45, x 46, x 47, x 48, x 49, x 50, x 51, x 52, x 53, x 54, x 55, x 56, x 57, x 58, x 59, x 60, x 61, x 62, x 63, x 64, x 65, x 66, x 67, x 68, x 69, .slice (some ⟨tb, 0, none⟩) N cap, .int .i64 (N : Int), .int .i64 (k : Int), x 73, x 74, x 75, x 76, x 77, x 78, x 79, x 80, x 81, x 82, x 83, x 84, x 85, x 86, x 87, x 88, x 89, x 90, x 91, x 92, x 93, x 94, x 95, x 96, x 97, x 98, x 99, x 100, x 101, x 102, x 103, x 104, x 105, x 106, x 107, x 108, x 109, x 110, x 111, x 112, x 113, x 114, x 115, x 116, x 117, x 118, x 119, x 120, x 121, x 122, x 123, x 124, x 125, x 126, x 127, x 128, x 129, x 130, x 131, x 132, x 133, x 134, x 135, x 136, x 137, x 138, x 139, x 140, x 141, x 142, x 143, x 144, x 145, x 146, x 147, x 148, x 149, x 150, x 151, x 152, x 153, x 154, x 155, x 156, x 157, x 158, x 159, x 160, x 161, x 162, x 163, x 164, x 165, x 166, x 167, x 168, x 169, x 170, x 171, x 172, x 173, x 174, x 175, x 176, x 177, x 178, x 179, x 180, x 181, x 182, x 183, x 184, x 185, x 186, x 187, x 188, x 189, x 190, x 191, x 192, x 193, x 194, x 195, x 196, x 197, x 198, x 199, x 200, x 201, x 202, x 203, x 204, x 205, x 206, x 207, x 208, x 209, x 210, x 211, x 212, x 213, x 214, x 215, x 216, x 217, x 218, x 219, x 220, x 221, x 222, x 223, x 224, x 225, x 226, x 227, x 228, x 229, x 230, x 231, x 232, x 233, x 234, x 235, x 236, x 237, x 238, x 239, x 240, x 241, x 242, x 243, x 244, x 245, x 246, x 247, x 248, x 249, x 250, x 251, x 252, x 253, x 254, x 255, x 256, x 257, x 258, x 259, x 260, x 261, x 262, x 263, x 264, x 265, x 266, x 267, x 268, x 269, x 270, x 271, x 272, x 273, x 274, x 275, x 276, x 277, x 278, x 279, x 280, x 281, x 282, x 283, x 284, x 285, x 286, x 287, x 288, x 289, x 290, x 291, x 292, x 293, x 294, x 295, x 296, x 297, x 298, x 299, x 300, x 301, x 302, x 303, x 304, x 305, x 306, x 307, x 308, x 309, x 310, x 311, x 312, x 313, x 314, x 315, x 316, x 317, x 318, x 319, x 320, x 321, x 322, x 323, x 324, x 325, x 326, x 327, x 328, x 329, x 330, x 331, x 332, x 333, x 334, x 335, x 336, x 337, x 338, x 339, x 340, x 341, x 342, x 343, x 344, x 345, x 346, x 347, x 348, x 349, x 350, x 351, x 352, x 353, x 354, x 355, x 356, x 357, x 358, x 359, x 360, x 361, x 362, x 363, x 364, x 365, x 366, x 367, x 368, x 369, x 370, x 371, x 372, x 373, x 374, x 375, x 376, x 377, x 378, x 379, x 380, x 381, x 382, x 383], []⟩ wr := by
  obtain ⟨vr, hpr, hwr⟩ := hat
  have Hnv : Hid (∀ k, ok k → k ≠ b ∧ ¬ InRow vr k) := Lib.hid fun k hk => ⟨(hok.out _ hk).1, fun hh => by have := (hpr.addr _ hh).1; have := (hok.out _ hk).2; omega⟩
  obtain ⟨_, ⟨gb, kvo, ck, hcs, hgb, hkid, hrow⟩, hMr⟩ := hM
  obtain ⟨vbx, hbx0⟩ := Hbx.out
  have hbx := hwr.heap hbx1 Hbx2.out hbx0
  have hbc := cell_of_heap hbx 0
  simp at hbc
  have hbz := heap_lt hbx
  have Hbxr := Lib.hid hbx
  have Hbxn := Lib.hid (hwr.out Hbx2.out (heap_lt hbx0))
  clear hbx hbx0
  have hkp : ∀ a v, ok a.block → W0.cell? a = some v → wr.cell? a = some v := fun a v ha hc => hwr.cell ⟨(hok.out _ ha).1, fun hh => by have := hB.out _ hh; have := (hok.out _ ha).2; omega⟩ hc
  have q3 := hpr.cell 3 (by decide)
  have q6 := hpr.cell 6 (by decide)
  have q9 := hpr.cell 9 (by decide)
  simp [pc] at q3 q6 q9
  have hrb := hpr.lt_size
  have c0 := hcs 0 (by decide)
  have c1 := hcs 1 (by decide)
  have c2 := hcs 2 (by decide)
  have c3 := hcs 3 (by decide)
  have c4 := hcs 4 (by decide)
  have c5 := hcs 5 (by decide)
  have c6 := hcs 6 (by decide)
  simp [cells7, lkind, gkind, ltxt, gtxt] at c0 c1 c2 c3 c4 c5 c6
  replace c0 := hkp ⟨tb, k * 7, none⟩ _ htb c0
  replace c1 := hkp ⟨tb, k * 7 + 1, none⟩ _ htb c1
  replace c2 := hkp ⟨tb, k * 7 + 2, none⟩ _ htb c2
  replace c3 := hkp ⟨tb, k * 7 + 3, none⟩ _ htb c3
  replace c4 := hkp ⟨tb, k * 7 + 4, none⟩ _ htb c4
  replace c5 := hkp ⟨tb, k * 7 + 5, none⟩ _ htb c5
  replace c6 := hkp ⟨tb, k * 7 + 6, none⟩ _ htb c6
  have htbw := World.block_lt_of_cell? wr _ c0
  simp only at htbw
  have hkidr := hkp ⟨gb, 0, none⟩ _ hgb hkid
  have hgbw := World.block_lt_of_cell? wr _ hkidr
  simp only at hgbw
  have hlen2 : k + (r.len + 1) = N := hlen
  have hx0 : (0 : Int) ≤ (k : Int) := by omega
  have hx1 : (k : Int) < (N : Int) := by omega
  obtain ⟨hc0, hc1⟩ := hcl
  have hx5 : ¬ ((k : Int) + 1 < (N : Int)) := by omega
  have Hpr := Lib.hid hpr
  have Hwr := Lib.hid hwr
  have Hkp := Lib.hid hkp
  have HMr := Lib.hid hMr
  have Hlen := Lib.hid hlen
  have Htx := Lib.hid htx
  have Hfi := Lib.hid hfi
  have Hszr := Lib.hid hszr
  have Hcs := Lib.hid hcs
  have Hkid := Lib.hid hkid
  have Hrow := Lib.hid hrow
  clear hpr hwr hkp hMr hlen htx hfi hszr hcs hkid hrow hlast
  have hch2 : (out ++ pre).length + 1 + ((ftxt sel).data.toList.length + 1) + (full kd).length ≤ 99999000 := by have := hch; simp [sp, opens, gtxt] at this ⊢; omega
  clear hch
  have b02 : bits .and .u8 0 2 = 0 := by decide
  have b01 : bits .and .u8 0 1 = 0 := by decide
  obtain ⟨tx, htxx⟩ : ∃ tx, tx = ftxt sel := ⟨_, rfl⟩
  rw [← htxx] at c1 hch2
  have Hpl : Hid (Plain tx) := Lib.hid (by rw [htxx]; exact plain_f _)
  have hsz8 : tx.size ≤ 4 := by rw [htxx]; exact ftxt_size _
  have Htx2 := Lib.hid htxx
  clear htxx
  have HpW : Hid (Pr B b m false vr (out ++ pre) (wr.alloc (.cells #[.pointer (some ⟨gb, 0, none⟩), .string tx, .int .i32 0, .int .u32 0, .int .u16 0, .int .u8 27, .int .u8 0] 40))) := Lib.hid (Hpr.out.wrote ((Chg.refl Nowhere wr).alloc _))
  have HwW : Hid (Wrote b vr vr (wr.alloc (.cells #[.pointer (some ⟨gb, 0, none⟩), .string tx, .int .i32 0, .int .u32 0, .int .u16 0, .int .u8 27, .int .u8 0] 40)) (wr.alloc (.cells #[.pointer (some ⟨gb, 0, none⟩), .string tx, .int .i32 0, .int .u32 0, .int .u16 0, .int .u8 27, .int .u8 0] 40))) := Lib.hid (Wrote.refl b vr _)
  conv => arg 2; whnf
  go_wp2_with fail
  refine (print_w B b m false vr (out ++ pre) ⟨#[32]⟩ _ HpW.out (by simp only [List.length_append, List.length_cons, List.length_nil] at *; omega) (by decide)).mono ?_
  rintro e_waa waa ⟨rfl, vwaa, hp, hw⟩
  have Hp_waa : Hid (Pr B b m false vwaa (out ++ pre ++ [32]) waa) := Lib.hid hp
  have Hw_waa : Hid (Wrote b vr vwaa (wr.alloc (.cells #[.pointer (some ⟨gb, 0, none⟩), .string tx, .int .i32 0, .int .u32 0, .int .u16 0, .int .u8 27, .int .u8 0] 40)) waa) := Lib.hid (HwW.out.trans hw)
  clear hp hw
  have hbz_waa : waa.heap[wr.heap.size]? = some (.cells #[.pointer (some ⟨gb, 0, none⟩), .string tx, .int .i32 0, .int .u32 0, .int .u16 0, .int .u8 27, .int .u8 0] 40) := Hw_waa.out.heap (by omega) (fun hh => by have := (Hpr.out.addr _ hh).2; omega) (heap_alloc_at wr _ _ rfl)
  have z0_waa := cell_of_heap hbz_waa 0
  have z1_waa := cell_of_heap hbz_waa 1
  have z5_waa := cell_of_heap hbz_waa 5
  have z6_waa := cell_of_heap hbz_waa 6
  have zl_waa := heap_lt hbz_waa
  simp at z0_waa z1_waa z5_waa z6_waa
  have p3_waa := Hp_waa.out.cell 3 (by decide)
  have p6_waa := Hp_waa.out.cell 6 (by decide)
  have p9_waa := Hp_waa.out.cell 9 (by decide)
  simp [pc] at p3_waa p6_waa p9_waa
  have hby_waa := Hw_waa.out.heap hbx1 Hbxn.out (heap_alloc_keep Hbxr.out (.cells #[.pointer (some ⟨gb, 0, none⟩), .string tx, .int .i32 0, .int .u32 0, .int .u16 0, .int .u8 27, .int .u8 0] 40))
  have hbd_waa := cell_of_heap hby_waa 0
  have hbe_waa := heap_lt hby_waa
  simp at hbd_waa
  have kid_waa := (Wrote.trans ((Wrote.refl b vr wr).alloc _) Hw_waa.out).cell (a := ⟨gb, 0, none⟩) (Hnv.out _ hgb) hkidr
  have kgl_waa := World.block_lt_of_cell? waa _ kid_waa
  simp only at kgl_waa
  clear hbz_waa hby_waa
  go_wp2_with fail
  refine (ident22 B b m false vwaa (out ++ pre ++ [32]) tx _ _ Hpl.out Hp_waa.out (by simp only [List.length_append, List.length_cons, List.length_nil] at *; omega) (by omega)).mono ?_
  rintro e_wba wba ⟨rfl, vwba, hp, hw⟩
  have Hp_wba : Hid (Pr B b m false vwba (out ++ pre ++ [32] ++ tx.data.toList) wba) := Lib.hid hp
  have Hw_wba : Hid (Wrote b vr vwba (wr.alloc (.cells #[.pointer (some ⟨gb, 0, none⟩), .string tx, .int .i32 0, .int .u32 0, .int .u16 0, .int .u8 27, .int .u8 0] 40)) wba) := Lib.hid (Hw_waa.out.trans hw)
  clear hp hw
  have hbz_wba : wba.heap[wr.heap.size]? = some (.cells #[.pointer (some ⟨gb, 0, none⟩), .string tx, .int .i32 0, .int .u32 0, .int .u16 0, .int .u8 27, .int .u8 0] 40) := Hw_wba.out.heap (by omega) (fun hh => by have := (Hpr.out.addr _ hh).2; omega) (heap_alloc_at wr _ _ rfl)
  have z0_wba := cell_of_heap hbz_wba 0
  have z1_wba := cell_of_heap hbz_wba 1
  have z5_wba := cell_of_heap hbz_wba 5
  have z6_wba := cell_of_heap hbz_wba 6
  have zl_wba := heap_lt hbz_wba
  simp at z0_wba z1_wba z5_wba z6_wba
  have p3_wba := Hp_wba.out.cell 3 (by decide)
  have p6_wba := Hp_wba.out.cell 6 (by decide)
  have p9_wba := Hp_wba.out.cell 9 (by decide)
  simp [pc] at p3_wba p6_wba p9_wba
  have hby_wba := Hw_wba.out.heap hbx1 Hbxn.out (heap_alloc_keep Hbxr.out (.cells #[.pointer (some ⟨gb, 0, none⟩), .string tx, .int .i32 0, .int .u32 0, .int .u16 0, .int .u8 27, .int .u8 0] 40))
  have hbd_wba := cell_of_heap hby_wba 0
  have hbe_wba := heap_lt hby_wba
  simp at hbd_wba
  have kid_wba := (Wrote.trans ((Wrote.refl b vr wr).alloc _) Hw_wba.out).cell (a := ⟨gb, 0, none⟩) (Hnv.out _ hgb) hkidr
  have kgl_wba := World.block_lt_of_cell? wba _ kid_wba
  simp only at kgl_wba
  clear hbz_wba hby_wba
  go_wp2_with fail
  refine (print_w B b m false vwba (out ++ pre ++ [32] ++ tx.data.toList) ⟨#[40]⟩ _ Hp_wba.out (by simp only [List.length_append, List.length_cons, List.length_nil] at *; omega) (by decide)).mono ?_
  rintro e_wca wca ⟨rfl, vwca, hp, hw⟩
  have Hp_wca : Hid (Pr B b m false vwca (out ++ pre ++ [32] ++ tx.data.toList ++ [40]) wca) := Lib.hid hp
  have Hw_wca : Hid (Wrote b vr vwca (wr.alloc (.cells #[.pointer (some ⟨gb, 0, none⟩), .string tx, .int .i32 0, .int .u32 0, .int .u16 0, .int .u8 27, .int .u8 0] 40)) wca) := Lib.hid (Hw_wba.out.trans hw)
  clear hp hw
  have hbz_wca : wca.heap[wr.heap.size]? = some (.cells #[.pointer (some ⟨gb, 0, none⟩), .string tx, .int .i32 0, .int .u32 0, .int .u16 0, .int .u8 27, .int .u8 0] 40) := Hw_wca.out.heap (by omega) (fun hh => by have := (Hpr.out.addr _ hh).2; omega) (heap_alloc_at wr _ _ rfl)
  have z0_wca := cell_of_heap hbz_wca 0
  have z1_wca := cell_of_heap hbz_wca 1
  have z5_wca := cell_of_heap hbz_wca 5
  have z6_wca := cell_of_heap hbz_wca 6
  have zl_wca := heap_lt hbz_wca
  simp at z0_wca z1_wca z5_wca z6_wca
  have p3_wca := Hp_wca.out.cell 3 (by decide)
  have p6_wca := Hp_wca.out.cell 6 (by decide)
  have p9_wca := Hp_wca.out.cell 9 (by decide)
  simp [pc] at p3_wca p6_wca p9_wca
  have hby_wca := Hw_wca.out.heap hbx1 Hbxn.out (heap_alloc_keep Hbxr.out (.cells #[.pointer (some ⟨gb, 0, none⟩), .string tx, .int .i32 0, .int .u32 0, .int .u16 0, .int .u8 27, .int .u8 0] 40))
  have hbd_wca := cell_of_heap hby_wca 0
  have hbe_wca := heap_lt hby_wca
  simp at hbd_wca
  have kid_wca := (Wrote.trans ((Wrote.refl b vr wr).alloc _) Hw_wca.out).cell (a := ⟨gb, 0, none⟩) (Hnv.out _ hgb) hkidr
  have kgl_wca := World.block_lt_of_cell? wca _ kid_wca
  simp only at kgl_wca
  clear hbz_wca hby_wca
  go_wp2_with fail
  go_still_tail 9, (by kernel_rfl)
  change wpList _ _ _ _ _ wca.drew
  go_wp2_with fail
  have hkk : ∀ a u, ok a.block → W0.cell? a = some u → wca.drew.cell? a = some u := fun a u ha hc => (Wrote.trans ((Wrote.refl b vr wr).alloc _) Hw_wca.out).cell (Hnv.out _ ha) (Hkp.out a u ha hc)
  have Hw_wcaD : Hid (Wrote b vr vwca (wr.alloc (.cells #[.pointer (some ⟨gb, 0, none⟩), .string tx, .int .i32 0, .int .u32 0, .int .u16 0, .int .u8 27, .int .u8 0] 40)) wca.drew) := Lib.hid Hw_wca.out.drew
  refine (IH.out kvo ck Hrow.out (out ++ pre ++ [32] ++ tx.data.toList ++ [40]) wca.drew vwca Hp_wca.out.drew hkk (by simp only [List.length_append, List.length_cons, List.length_nil] at *; omega)).mono ?_
  rintro e_wda wda ⟨rfl, vwda, hp, hw⟩
  have Hp_wda : Hid (Pr B b m false vwda (out ++ pre ++ [32] ++ tx.data.toList ++ [40] ++ full kd) wda) := Lib.hid hp
  have Hw_wda : Hid (Wrote b vr vwda (wr.alloc (.cells #[.pointer (some ⟨gb, 0, none⟩), .string tx, .int .i32 0, .int .u32 0, .int .u16 0, .int .u8 27, .int .u8 0] 40)) wda) := Lib.hid (Hw_wcaD.out.trans hw)
  clear hp hw
  have hbz_wda : wda.heap[wr.heap.size]? = some (.cells #[.pointer (some ⟨gb, 0, none⟩), .string tx, .int .i32 0, .int .u32 0, .int .u16 0, .int .u8 27, .int .u8 0] 40) := Hw_wda.out.heap (by omega) (fun hh => by have := (Hpr.out.addr _ hh).2; omega) (heap_alloc_at wr _ _ rfl)
  have z0_wda := cell_of_heap hbz_wda 0
  have z1_wda := cell_of_heap hbz_wda 1
  have z5_wda := cell_of_heap hbz_wda 5
  have z6_wda := cell_of_heap hbz_wda 6
  have zl_wda := heap_lt hbz_wda
  simp at z0_wda z1_wda z5_wda z6_wda
  have p3_wda := Hp_wda.out.cell 3 (by decide)
  have p6_wda := Hp_wda.out.cell 6 (by decide)
  have p9_wda := Hp_wda.out.cell 9 (by decide)
  simp [pc] at p3_wda p6_wda p9_wda
  have hby_wda := Hw_wda.out.heap hbx1 Hbxn.out (heap_alloc_keep Hbxr.out (.cells #[.pointer (some ⟨gb, 0, none⟩), .string tx, .int .i32 0, .int .u32 0, .int .u16 0, .int .u8 27, .int .u8 0] 40))
  have hbd_wda := cell_of_heap hby_wda 0
  have hbe_wda := heap_lt hby_wda
  simp at hbd_wda
  have kid_wda := (Wrote.trans ((Wrote.refl b vr wr).alloc _) Hw_wda.out).cell (a := ⟨gb, 0, none⟩) (Hnv.out _ hgb) hkidr
  have kgl_wda := World.block_lt_of_cell? wda _ kid_wda
  simp only at kgl_wda
  clear hbz_wda hby_wda
  go_wp2_with fail
  refine (print_w B b m false vwda (out ++ pre ++ [32] ++ tx.data.toList ++ [40] ++ full kd) ⟨#[41]⟩ _ Hp_wda.out (by simp only [List.length_append, List.length_cons, List.length_nil] at *; omega) (by decide)).mono ?_
  rintro e_wea wea ⟨rfl, vwea, hp, hw⟩
  have Hp_wea : Hid (Pr B b m false vwea (out ++ pre ++ [32] ++ tx.data.toList ++ [40] ++ full kd ++ [41]) wea) := Lib.hid hp
  have Hw_wea : Hid (Wrote b vr vwea (wr.alloc (.cells #[.pointer (some ⟨gb, 0, none⟩), .string tx, .int .i32 0, .int .u32 0, .int .u16 0, .int .u8 27, .int .u8 0] 40)) wea) := Lib.hid (Hw_wda.out.trans hw)
  clear hp hw
  have hbz_wea : wea.heap[wr.heap.size]? = some (.cells #[.pointer (some ⟨gb, 0, none⟩), .string tx, .int .i32 0, .int .u32 0, .int .u16 0, .int .u8 27, .int .u8 0] 40) := Hw_wea.out.heap (by omega) (fun hh => by have := (Hpr.out.addr _ hh).2; omega) (heap_alloc_at wr _ _ rfl)
  have z0_wea := cell_of_heap hbz_wea 0
  have z1_wea := cell_of_heap hbz_wea 1
  have z5_wea := cell_of_heap hbz_wea 5
  have z6_wea := cell_of_heap hbz_wea 6
  have zl_wea := heap_lt hbz_wea
  simp at z0_wea z1_wea z5_wea z6_wea
  have p3_wea := Hp_wea.out.cell 3 (by decide)
  have p6_wea := Hp_wea.out.cell 6 (by decide)
  have p9_wea := Hp_wea.out.cell 9 (by decide)
  simp [pc] at p3_wea p6_wea p9_wea
  have hby_wea := Hw_wea.out.heap hbx1 Hbxn.out (heap_alloc_keep Hbxr.out (.cells #[.pointer (some ⟨gb, 0, none⟩), .string tx, .int .i32 0, .int .u32 0, .int .u16 0, .int .u8 27, .int .u8 0] 40))
  have hbd_wea := cell_of_heap hby_wea 0
  have hbe_wea := heap_lt hby_wea
  simp at hbd_wea
  have kid_wea := (Wrote.trans ((Wrote.refl b vr wr).alloc _) Hw_wea.out).cell (a := ⟨gb, 0, none⟩) (Hnv.out _ hgb) hkidr
  have kgl_wea := World.block_lt_of_cell? wea _ kid_wea
  simp only at kgl_wea
  clear hbz_wea hby_wea
  go_wp2_with fail
  have htx2 : body false ts = (pre ++ [32] ++ tx.data.toList ++ [40] ++ full kd ++ [41]) ++ body false r := by rw [Htx.out, Htx2.out]; simp [body, sp, ltxt, gtxt, opens, closer, full, List.append_assoc]
  have hfi2 : fin false ts = fin false r := by rw [Hfi.out]; simp [fin]
  refine ⟨⟨k + 1, cc, false, r, pre ++ [32] ++ tx.data.toList ++ [40] ++ full kd ++ [41], rfl, rfl, rfl, rfl, rfl, rfl, rfl, ?_, rfl, rfl, ?_, by omega, by omega, .inr ⟨tb, rfl, htb, HMr.out⟩, htx2, hfi2, by have := Hszr.out; simp only [sz] at this; omega, vwea, ?_, ?_⟩, ?_⟩
  · first | rfl | (simp; done)
  · first | rfl | (simp; done)
  · have hh := Hp_wea.out; first | exact hh | (simp only [List.append_assoc] at hh ⊢; exact hh)
  · exact Hwr.out.trans (Wrote.trans ((Wrote.refl b vr wr).alloc _) Hw_wea.out)
  · simp [Wmu, intOf]; omega
end Go.Proofs.YtbbanpfkicdnmaaFmt
