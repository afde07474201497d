/-
  Proved: printNonNegativeFloat's piece that shortens the text: a point and no exponent. No statement of the seat stands here.
-/
import Derived.Test.YtmlgfhdjdmfdbaaDoorNj
namespace Go.Proofs.YtmlgfhdjdmfdbaaDoor
open Go.RowKit Go.ChangeAt
set_option linter.unusedSimpArgs false
set_option linter.unusedVariables false
set_option maxRecDepth 1000000
set_option maxHeartbeats 16000000 in
theorem c99_point (b f : Nat) (mn : Bool) (r : List UInt8) (hrl : r.length ≤ 1000) (w : World) (hPl : b < w.heap.size) (g5 off5 cap5 : Nat) (wc : World) (HR5 : Hid (Row w.heap.size g5 off5 cap5 r wc)) (HP5 : Hid (Pn b mn wc)) (HC5 : Hid (Chg (fun k => k = b) w wc)) (x : Nat → Value) (K0 : Act → World → Prop) (Post : Ending → World → Prop) (N2 : Nat) (hok : ∀ a' w' l, l.length = N2 → Keeps b f mn w l a' w' → K0 a' w') (D : Int) (hD : 1 ≤ D) (hno1 : NoB 101 r) (hN : r.length = N2) :
    Code.wp Tryd.prog C99 (Exit.then K0 (bodyPost Tryd.prog Tryd.f8 Post)) ⟨#[.pointer (some ⟨b, 0, none⟩), .float .f64 f, x 2, x 3, x 4, .slice (some ⟨g5, off5, none⟩) (r.length) cap5, x 6, x 7, x 8, .int .i64 D, x 10, x 11, x 12, x 13, x 14, x 15, x 16, x 17, x 18, x 19, x 20, x 21, x 22, x 23, x 24, x 25, x 26, x 27, x 28, x 29, x 30, x 31, x 32, x 33, x 34, x 35, x 36, x 37, x 38, x 39, x 40, x 41, x 42, x 43, x 44, x 45, x 46, x 47, x 48, x 49, x 50, x 51, x 52, x 53, x 54, x 55, x 56, x 57, x 58, x 59, x 60, x 61, x 62, x 63, x 64, x 65, x 66, x 67, x 68, x 69, x 70, x 71, x 72, x 73, x 74, x 75, x 76, x 77, x 78, x 79, x 80, x 81, x 82, x 83, x 84, x 85, x 86, x 87, x 88, x 89, x 90, x 91, x 92, x 93, x 94, x 95, x 96, x 97, x 98, .bool false, x 100, x 101, x 102, x 103, x 104, x 105, x 106, x 107, x 108, x 109, x 110, x 111, x 112, x 113, x 114, x 115, x 116, x 117, x 118, x 119, x 120, x 121, x 122, x 123, x 124, x 125, x 126, x 127, x 128, x 129, x 130, x 131, x 132, x 133, x 134, x 135, x 136, x 137, x 138, x 139, x 140, x 141, x 142, x 143, x 144, x 145, x 146, x 147, x 148, x 149, x 150, x 151, x 152, x 153, x 154, x 155, x 156, x 157, x 158, x 159, x 160, x 161, x 162, x 163, x 164, x 165, x 166, x 167, x 168, x 169, x 170, x 171, x 172, x 173, x 174, x 175, x 176, x 177, x 178, x 179, x 180, x 181, x 182, x 183, x 184, x 185, x 186, x 187, x 188, x 189, x 190, x 191, x 192, x 193, x 194, x 195, x 196, x 197, x 198, x 199, x 200, x 201, x 202, x 203, x 204, x 205, x 206, x 207, x 208, x 209, x 210, x 211, x 212, x 213, x 214, x 215, x 216, x 217, x 218, x 219, x 220, x 221, x 222, x 223, x 224, x 225, x 226, x 227, x 228, x 229, x 230, x 231, x 232, x 233, x 234, x 235, x 236, x 237, x 238, x 239, x 240, x 241, x 242, x 243, x 244, x 245, x 246, x 247, x 248, x 249, x 250, x 251, x 252, x 253, x 254, x 255, x 256, x 257, x 258, x 259, x 260, x 261, x 262, x 263, x 264, x 265, x 266, x 267, x 268, x 269, x 270, x 271, x 272, x 273, x 274, x 275, x 276, x 277, x 278, x 279, x 280, x 281, x 282, x 283, x 284, x 285, x 286, x 287, x 288, x 289, x 290, x 291, x 292, x 293, x 294, x 295, x 296, x 297, x 298, x 299, x 300, x 301, x 302, x 303, x 304, x 305, x 306, x 307, x 308, x 309, x 310], []⟩ wc := by
  have Hok := Lib.hid hok
  clear hok
  have hgl := HR5.out.lt
  have hbl := HP5.out.lt
  have hcl := HR5.out.len
  have hcb := HR5.out.capb
  have hbg := HR5.out.base
  have hDn : (D != -1) = true := by rw [bne_iff_ne]; omega
  have Hlast := Lib.hid (last_none hno1)
  have HN := Lib.hid hN
  clear hno1 hN hD
  conv => arg 2; whnf
  go_wp2_with fail
  refine (last12 w.heap.size g5 off5 cap5 r wc HR5.out (by omega) 101 (-1) Hlast.out).mono ?_
  rintro ex w6 ⟨rfl, rfl⟩
  go_wp2_with fail
  exact Hok.out _ _ r HN.out ⟨rfl, rfl, rfl, rfl, _, rfl, Stands.mk' rfl HR5.out HP5.out HC5.out⟩
end Go.Proofs.YtmlgfhdjdmfdbaaDoor
