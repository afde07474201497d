/-
  Proved: the law's code cut in tails, its frames with letters in the slots. No statement of the seat stands here.
-/
import Derived.Test.YtambbfgmbfamkaaGreatDoorDoor
namespace Go.Proofs.YtambbfgmbfamkaaGreatDoor
open Go.RowKit Go.ChangeAt
set_option linter.unusedSimpArgs false
set_option linter.unusedVariables false
set_option maxRecDepth 1000000
def tailAt : Nat → Code → Code
  | 0, c => c
  | k + 1, .seq _ b => tailAt k b
  | _, c => c
noncomputable def body3 : Code := Tryz.f3.body.getD .skip
noncomputable def T6 : Code := tailAt 6 body3
noncomputable def T11 : Code := tailAt 11 body3
noncomputable def T18 : Code := tailAt 18 body3
noncomputable def T25 : Code := tailAt 25 body3
noncomputable def T26 : Code := tailAt 26 body3
noncomputable def T28 : Code := tailAt 28 body3
theorem list_lit (tm : Array Value) (n : Nat) (h : tm.size = n) : tm = ((List.range n).map fun i => tm[i]!).toArray := by
  subst h
  refine Array.ext (by simp) fun i h1 h2 => ?_
  simp [h1]
theorem get_bang {tm : Array Value} {i : Nat} {v : Value} (h : tm[i]? = some v) : tm[i]! = v := by
  rw [Array.getElem!_eq_getD, Array.getD_eq_getD_getElem?, h]
  rfl
theorem range_lit (x : Nat → Value) : ((List.range 345).map x).toArray = #[x 0, x 1, x 2, x 3, x 4, x 5, x 6, x 7, x 8, x 9, x 10, x 11, x 12, x 13, x 14, x 15, x 16, x 17, x 18, x 19, x 20, x 21, x 22, x 23, x 24, x 25, x 26, x 27, x 28, x 29, x 30, x 31, x 32, x 33, x 34, x 35, x 36, x 37, x 38, x 39, x 40, x 41, x 42, x 43, x 44, x 45, x 46, x 47, x 48, x 49, x 50, x 51, x 52, x 53, x 54, x 55, x 56, x 57, x 58, x 59, x 60, x 61, x 62, x 63, x 64, x 65, x 66, x 67, x 68, x 69, x 70, x 71, x 72, x 73, x 74, x 75, x 76, x 77, x 78, x 79, x 80, x 81, x 82, x 83, x 84, x 85, x 86, x 87, x 88, x 89, x 90, x 91, x 92, x 93, x 94, x 95, x 96, x 97, x 98, x 99, x 100, x 101, x 102, x 103, x 104, x 105, x 106, x 107, x 108, x 109, x 110, x 111, x 112, x 113, x 114, x 115, x 116, x 117, x 118, x 119, x 120, x 121, x 122, x 123, x 124, x 125, x 126, x 127, x 128, x 129, x 130, x 131, x 132, x 133, x 134, x 135, x 136, x 137, x 138, x 139, x 140, x 141, x 142, x 143, x 144, x 145, x 146, x 147, x 148, x 149, x 150, x 151, x 152, x 153, x 154, x 155, x 156, x 157, x 158, x 159, x 160, x 161, x 162, x 163, x 164, x 165, x 166, x 167, x 168, x 169, x 170, x 171, x 172, x 173, x 174, x 175, x 176, x 177, x 178, x 179, x 180, x 181, x 182, x 183, x 184, x 185, x 186, x 187, x 188, x 189, x 190, x 191, x 192, x 193, x 194, x 195, x 196, x 197, x 198, x 199, x 200, x 201, x 202, x 203, x 204, x 205, x 206, x 207, x 208, x 209, x 210, x 211, x 212, x 213, x 214, x 215, x 216, x 217, x 218, x 219, x 220, x 221, x 222, x 223, x 224, x 225, x 226, x 227, x 228, x 229, x 230, x 231, x 232, x 233, x 234, x 235, x 236, x 237, x 238, x 239, x 240, x 241, x 242, x 243, x 244, x 245, x 246, x 247, x 248, x 249, x 250, x 251, x 252, x 253, x 254, x 255, x 256, x 257, x 258, x 259, x 260, x 261, x 262, x 263, x 264, x 265, x 266, x 267, x 268, x 269, x 270, x 271, x 272, x 273, x 274, x 275, x 276, x 277, x 278, x 279, x 280, x 281, x 282, x 283, x 284, x 285, x 286, x 287, x 288, x 289, x 290, x 291, x 292, x 293, x 294, x 295, x 296, x 297, x 298, x 299, x 300, x 301, x 302, x 303, x 304, x 305, x 306, x 307, x 308, x 309, x 310, x 311, x 312, x 313, x 314, x 315, x 316, x 317, x 318, x 319, x 320, x 321, x 322, x 323, x 324, x 325, x 326, x 327, x 328, x 329, x 330, x 331, x 332, x 333, x 334, x 335, x 336, x 337, x 338, x 339, x 340, x 341, x 342, x 343, x 344] := rfl
theorem lit6 (a : Act) (hd : a.defers = []) (hs : a.tmps.size = 345) {v0 v1 v2 v3 v9 : Value} (h0 : a.tmps[0]? = some v0) (h1 : a.tmps[1]? = some v1) (h2 : a.tmps[2]? = some v2) (h3 : a.tmps[3]? = some v3) (h9 : a.tmps[9]? = some v9) :
    ∃ x : Nat → Value, a = ⟨#[v0, v1, v2, v3, x 4, x 5, x 6, x 7, x 8, v9, x 10, x 11, x 12, x 13, x 14, x 15, x 16, x 17, x 18, x 19, x 20, x 21, x 22, x 23, x 24, x 25, x 26, x 27, x 28, x 29, x 30, x 31, x 32, x 33, x 34, x 35, x 36, x 37, x 38, x 39, x 40, x 41, x 42, x 43, x 44, x 45, x 46, x 47, x 48, x 49, x 50, x 51, x 52, x 53, x 54, x 55, x 56, x 57, x 58, x 59, x 60, x 61, x 62, x 63, x 64, x 65, x 66, x 67, x 68, x 69, x 70, x 71, x 72, x 73, x 74, x 75, x 76, x 77, x 78, x 79, x 80, x 81, x 82, x 83, x 84, x 85, x 86, x 87, x 88, x 89, x 90, x 91, x 92, x 93, x 94, x 95, x 96, x 97, x 98, x 99, x 100, x 101, x 102, x 103, x 104, x 105, x 106, x 107, x 108, x 109, x 110, x 111, x 112, x 113, x 114, x 115, x 116, x 117, x 118, x 119, x 120, x 121, x 122, x 123, x 124, x 125, x 126, x 127, x 128, x 129, x 130, x 131, x 132, x 133, x 134, x 135, x 136, x 137, x 138, x 139, x 140, x 141, x 142, x 143, x 144, x 145, x 146, x 147, x 148, x 149, x 150, x 151, x 152, x 153, x 154, x 155, x 156, x 157, x 158, x 159, x 160, x 161, x 162, x 163, x 164, x 165, x 166, x 167, x 168, x 169, x 170, x 171, x 172, x 173, x 174, x 175, x 176, x 177, x 178, x 179, x 180, x 181, x 182, x 183, x 184, x 185, x 186, x 187, x 188, x 189, x 190, x 191, x 192, x 193, x 194, x 195, x 196, x 197, x 198, x 199, x 200, x 201, x 202, x 203, x 204, x 205, x 206, x 207, x 208, x 209, x 210, x 211, x 212, x 213, x 214, x 215, x 216, x 217, x 218, x 219, x 220, x 221, x 222, x 223, x 224, x 225, x 226, x 227, x 228, x 229, x 230, x 231, x 232, x 233, x 234, x 235, x 236, x 237, x 238, x 239, x 240, x 241, x 242, x 243, x 244, x 245, x 246, x 247, x 248, x 249, x 250, x 251, x 252, x 253, x 254, x 255, x 256, x 257, x 258, x 259, x 260, x 261, x 262, x 263, x 264, x 265, x 266, x 267, x 268, x 269, x 270, x 271, x 272, x 273, x 274, x 275, x 276, x 277, x 278, x 279, x 280, x 281, x 282, x 283, x 284, x 285, x 286, x 287, x 288, x 289, x 290, x 291, x 292, x 293, x 294, x 295, x 296, x 297, x 298, x 299, x 300, x 301, x 302, x 303, x 304, x 305, x 306, x 307, x 308, x 309, x 310, x 311, x 312, x 313, x 314, x 315, x 316, x 317, x 318, x 319, x 320, x 321, x 322, x 323, x 324, x 325, x 326, x 327, x 328, x 329, x 330, x 331, x 332, x 333, x 334, x 335, x 336, x 337, x 338, x 339, x 340, x 341, x 342, x 343, x 344], []⟩ := by
  obtain ⟨tm, df⟩ := a
  simp only at hd hs h0 h1 h2 h3 h9
  subst hd
  have e0 := get_bang h0
  have e1 := get_bang h1
  have e2 := get_bang h2
  have e3 := get_bang h3
  have e9 := get_bang h9
  refine ⟨fun i => tm[i]!, ?_⟩
  have hl := (list_lit tm 345 hs).trans (range_lit fun i => tm[i]!)
  clear hs h0 h1 h2 h3 h9
  subst e0 e1 e2 e3 e9
  exact congrArg (fun t => (⟨t, []⟩ : Act)) hl
theorem lit11 (a : Act) (hd : a.defers = []) (hs : a.tmps.size = 345) {v0 v1 v2 v3 v11 v12 v13 : Value} (h0 : a.tmps[0]? = some v0) (h1 : a.tmps[1]? = some v1) (h2 : a.tmps[2]? = some v2) (h3 : a.tmps[3]? = some v3) (h11 : a.tmps[11]? = some v11) (h12 : a.tmps[12]? = some v12) (h13 : a.tmps[13]? = some v13) :
    ∃ x : Nat → Value, a = ⟨#[v0, v1, v2, v3, x 4, x 5, x 6, x 7, x 8, x 9, x 10, v11, v12, v13, x 14, x 15, x 16, x 17, x 18, x 19, x 20, x 21, x 22, x 23, x 24, x 25, x 26, x 27, x 28, x 29, x 30, x 31, x 32, x 33, x 34, x 35, x 36, x 37, x 38, x 39, x 40, x 41, x 42, x 43, x 44, x 45, x 46, x 47, x 48, x 49, x 50, x 51, x 52, x 53, x 54, x 55, x 56, x 57, x 58, x 59, x 60, x 61, x 62, x 63, x 64, x 65, x 66, x 67, x 68, x 69, x 70, x 71, x 72, x 73, x 74, x 75, x 76, x 77, x 78, x 79, x 80, x 81, x 82, x 83, x 84, x 85, x 86, x 87, x 88, x 89, x 90, x 91, x 92, x 93, x 94, x 95, x 96, x 97, x 98, x 99, x 100, x 101, x 102, x 103, x 104, x 105, x 106, x 107, x 108, x 109, x 110, x 111, x 112, x 113, x 114, x 115, x 116, x 117, x 118, x 119, x 120, x 121, x 122, x 123, x 124, x 125, x 126, x 127, x 128, x 129, x 130, x 131, x 132, x 133, x 134, x 135, x 136, x 137, x 138, x 139, x 140, x 141, x 142, x 143, x 144, x 145, x 146, x 147, x 148, x 149, x 150, x 151, x 152, x 153, x 154, x 155, x 156, x 157, x 158, x 159, x 160, x 161, x 162, x 163, x 164, x 165, x 166, x 167, x 168, x 169, x 170, x 171, x 172, x 173, x 174, x 175, x 176, x 177, x 178, x 179, x 180, x 181, x 182, x 183, x 184, x 185, x 186, x 187, x 188, x 189, x 190, x 191, x 192, x 193, x 194, x 195, x 196, x 197, x 198, x 199, x 200, x 201, x 202, x 203, x 204, x 205, x 206, x 207, x 208, x 209, x 210, x 211, x 212, x 213, x 214, x 215, x 216, x 217, x 218, x 219, x 220, x 221, x 222, x 223, x 224, x 225, x 226, x 227, x 228, x 229, x 230, x 231, x 232, x 233, x 234, x 235, x 236, x 237, x 238, x 239, x 240, x 241, x 242, x 243, x 244, x 245, x 246, x 247, x 248, x 249, x 250, x 251, x 252, x 253, x 254, x 255, x 256, x 257, x 258, x 259, x 260, x 261, x 262, x 263, x 264, x 265, x 266, x 267, x 268, x 269, x 270, x 271, x 272, x 273, x 274, x 275, x 276, x 277, x 278, x 279, x 280, x 281, x 282, x 283, x 284, x 285, x 286, x 287, x 288, x 289, x 290, x 291, x 292, x 293, x 294, x 295, x 296, x 297, x 298, x 299, x 300, x 301, x 302, x 303, x 304, x 305, x 306, x 307, x 308, x 309, x 310, x 311, x 312, x 313, x 314, x 315, x 316, x 317, x 318, x 319, x 320, x 321, x 322, x 323, x 324, x 325, x 326, x 327, x 328, x 329, x 330, x 331, x 332, x 333, x 334, x 335, x 336, x 337, x 338, x 339, x 340, x 341, x 342, x 343, x 344], []⟩ := by
  obtain ⟨tm, df⟩ := a
  simp only at hd hs h0 h1 h2 h3 h11 h12 h13
  subst hd
  have e0 := get_bang h0
  have e1 := get_bang h1
  have e2 := get_bang h2
  have e3 := get_bang h3
  have e11 := get_bang h11
  have e12 := get_bang h12
  have e13 := get_bang h13
  refine ⟨fun i => tm[i]!, ?_⟩
  have hl := (list_lit tm 345 hs).trans (range_lit fun i => tm[i]!)
  clear hs h0 h1 h2 h3 h11 h12 h13
  subst e0 e1 e2 e3 e11 e12 e13
  exact congrArg (fun t => (⟨t, []⟩ : Act)) hl
theorem lit18 (a : Act) (hd : a.defers = []) (hs : a.tmps.size = 345) {v0 v1 v2 v3 v12 v13 v17 v18 v19 v20 v21 v23 : Value} (h0 : a.tmps[0]? = some v0) (h1 : a.tmps[1]? = some v1) (h2 : a.tmps[2]? = some v2) (h3 : a.tmps[3]? = some v3) (h12 : a.tmps[12]? = some v12) (h13 : a.tmps[13]? = some v13) (h17 : a.tmps[17]? = some v17) (h18 : a.tmps[18]? = some v18) (h19 : a.tmps[19]? = some v19) (h20 : a.tmps[20]? = some v20) (h21 : a.tmps[21]? = some v21) (h23 : a.tmps[23]? = some v23) :
    ∃ x : Nat → Value, a = ⟨#[v0, v1, v2, v3, x 4, x 5, x 6, x 7, x 8, x 9, x 10, x 11, v12, v13, x 14, x 15, x 16, v17, v18, v19, v20, v21, x 22, v23, x 24, x 25, x 26, x 27, x 28, x 29, x 30, x 31, x 32, x 33, x 34, x 35, x 36, x 37, x 38, x 39, x 40, x 41, x 42, x 43, x 44, x 45, x 46, x 47, x 48, x 49, x 50, x 51, x 52, x 53, x 54, x 55, x 56, x 57, x 58, x 59, x 60, x 61, x 62, x 63, x 64, x 65, x 66, x 67, x 68, x 69, x 70, x 71, x 72, x 73, x 74, x 75, x 76, x 77, x 78, x 79, x 80, x 81, x 82, x 83, x 84, x 85, x 86, x 87, x 88, x 89, x 90, x 91, x 92, x 93, x 94, x 95, x 96, x 97, x 98, x 99, x 100, x 101, x 102, x 103, x 104, x 105, x 106, x 107, x 108, x 109, x 110, x 111, x 112, x 113, x 114, x 115, x 116, x 117, x 118, x 119, x 120, x 121, x 122, x 123, x 124, x 125, x 126, x 127, x 128, x 129, x 130, x 131, x 132, x 133, x 134, x 135, x 136, x 137, x 138, x 139, x 140, x 141, x 142, x 143, x 144, x 145, x 146, x 147, x 148, x 149, x 150, x 151, x 152, x 153, x 154, x 155, x 156, x 157, x 158, x 159, x 160, x 161, x 162, x 163, x 164, x 165, x 166, x 167, x 168, x 169, x 170, x 171, x 172, x 173, x 174, x 175, x 176, x 177, x 178, x 179, x 180, x 181, x 182, x 183, x 184, x 185, x 186, x 187, x 188, x 189, x 190, x 191, x 192, x 193, x 194, x 195, x 196, x 197, x 198, x 199, x 200, x 201, x 202, x 203, x 204, x 205, x 206, x 207, x 208, x 209, x 210, x 211, x 212, x 213, x 214, x 215, x 216, x 217, x 218, x 219, x 220, x 221, x 222, x 223, x 224, x 225, x 226, x 227, x 228, x 229, x 230, x 231, x 232, x 233, x 234, x 235, x 236, x 237, x 238, x 239, x 240, x 241, x 242, x 243, x 244, x 245, x 246, x 247, x 248, x 249, x 250, x 251, x 252, x 253, x 254, x 255, x 256, x 257, x 258, x 259, x 260, x 261, x 262, x 263, x 264, x 265, x 266, x 267, x 268, x 269, x 270, x 271, x 272, x 273, x 274, x 275, x 276, x 277, x 278, x 279, x 280, x 281, x 282, x 283, x 284, x 285, x 286, x 287, x 288, x 289, x 290, x 291, x 292, x 293, x 294, x 295, x 296, x 297, x 298, x 299, x 300, x 301, x 302, x 303, x 304, x 305, x 306, x 307, x 308, x 309, x 310, x 311, x 312, x 313, x 314, x 315, x 316, x 317, x 318, x 319, x 320, x 321, x 322, x 323, x 324, x 325, x 326, x 327, x 328, x 329, x 330, x 331, x 332, x 333, x 334, x 335, x 336, x 337, x 338, x 339, x 340, x 341, x 342, x 343, x 344], []⟩ := by
  obtain ⟨tm, df⟩ := a
  simp only at hd hs h0 h1 h2 h3 h12 h13 h17 h18 h19 h20 h21 h23
  subst hd
  have e0 := get_bang h0
  have e1 := get_bang h1
  have e2 := get_bang h2
  have e3 := get_bang h3
  have e12 := get_bang h12
  have e13 := get_bang h13
  have e17 := get_bang h17
  have e18 := get_bang h18
  have e19 := get_bang h19
  have e20 := get_bang h20
  have e21 := get_bang h21
  have e23 := get_bang h23
  refine ⟨fun i => tm[i]!, ?_⟩
  have hl := (list_lit tm 345 hs).trans (range_lit fun i => tm[i]!)
  clear hs h0 h1 h2 h3 h12 h13 h17 h18 h19 h20 h21 h23
  subst e0 e1 e2 e3 e12 e13 e17 e18 e19 e20 e21 e23
  exact congrArg (fun t => (⟨t, []⟩ : Act)) hl
theorem lit25 (a : Act) (hd : a.defers = []) (hs : a.tmps.size = 345) {v0 v1 v2 v3 v12 v13 v17 v18 v19 v20 v21 v23 v25 v26 v27 v28 v29 : Value} (h0 : a.tmps[0]? = some v0) (h1 : a.tmps[1]? = some v1) (h2 : a.tmps[2]? = some v2) (h3 : a.tmps[3]? = some v3) (h12 : a.tmps[12]? = some v12) (h13 : a.tmps[13]? = some v13) (h17 : a.tmps[17]? = some v17) (h18 : a.tmps[18]? = some v18) (h19 : a.tmps[19]? = some v19) (h20 : a.tmps[20]? = some v20) (h21 : a.tmps[21]? = some v21) (h23 : a.tmps[23]? = some v23) (h25 : a.tmps[25]? = some v25) (h26 : a.tmps[26]? = some v26) (h27 : a.tmps[27]? = some v27) (h28 : a.tmps[28]? = some v28) (h29 : a.tmps[29]? = some v29) :
    ∃ x : Nat → Value, a = ⟨#[v0, v1, v2, v3, x 4, x 5, x 6, x 7, x 8, x 9, x 10, x 11, v12, v13, x 14, x 15, x 16, v17, v18, v19, v20, v21, x 22, v23, x 24, v25, v26, v27, v28, v29, x 30, x 31, x 32, x 33, x 34, x 35, x 36, x 37, x 38, x 39, x 40, x 41, x 42, x 43, x 44, x 45, x 46, x 47, x 48, x 49, x 50, x 51, x 52, x 53, x 54, x 55, x 56, x 57, x 58, x 59, x 60, x 61, x 62, x 63, x 64, x 65, x 66, x 67, x 68, x 69, x 70, x 71, x 72, x 73, x 74, x 75, x 76, x 77, x 78, x 79, x 80, x 81, x 82, x 83, x 84, x 85, x 86, x 87, x 88, x 89, x 90, x 91, x 92, x 93, x 94, x 95, x 96, x 97, x 98, x 99, x 100, x 101, x 102, x 103, x 104, x 105, x 106, x 107, x 108, x 109, x 110, x 111, x 112, x 113, x 114, x 115, x 116, x 117, x 118, x 119, x 120, x 121, x 122, x 123, x 124, x 125, x 126, x 127, x 128, x 129, x 130, x 131, x 132, x 133, x 134, x 135, x 136, x 137, x 138, x 139, x 140, x 141, x 142, x 143, x 144, x 145, x 146, x 147, x 148, x 149, x 150, x 151, x 152, x 153, x 154, x 155, x 156, x 157, x 158, x 159, x 160, x 161, x 162, x 163, x 164, x 165, x 166, x 167, x 168, x 169, x 170, x 171, x 172, x 173, x 174, x 175, x 176, x 177, x 178, x 179, x 180, x 181, x 182, x 183, x 184, x 185, x 186, x 187, x 188, x 189, x 190, x 191, x 192, x 193, x 194, x 195, x 196, x 197, x 198, x 199, x 200, x 201, x 202, x 203, x 204, x 205, x 206, x 207, x 208, x 209, x 210, x 211, x 212, x 213, x 214, x 215, x 216, x 217, x 218, x 219, x 220, x 221, x 222, x 223, x 224, x 225, x 226, x 227, x 228, x 229, x 230, x 231, x 232, x 233, x 234, x 235, x 236, x 237, x 238, x 239, x 240, x 241, x 242, x 243, x 244, x 245, x 246, x 247, x 248, x 249, x 250, x 251, x 252, x 253, x 254, x 255, x 256, x 257, x 258, x 259, x 260, x 261, x 262, x 263, x 264, x 265, x 266, x 267, x 268, x 269, x 270, x 271, x 272, x 273, x 274, x 275, x 276, x 277, x 278, x 279, x 280, x 281, x 282, x 283, x 284, x 285, x 286, x 287, x 288, x 289, x 290, x 291, x 292, x 293, x 294, x 295, x 296, x 297, x 298, x 299, x 300, x 301, x 302, x 303, x 304, x 305, x 306, x 307, x 308, x 309, x 310, x 311, x 312, x 313, x 314, x 315, x 316, x 317, x 318, x 319, x 320, x 321, x 322, x 323, x 324, x 325, x 326, x 327, x 328, x 329, x 330, x 331, x 332, x 333, x 334, x 335, x 336, x 337, x 338, x 339, x 340, x 341, x 342, x 343, x 344], []⟩ := by
  obtain ⟨tm, df⟩ := a
  simp only at hd hs h0 h1 h2 h3 h12 h13 h17 h18 h19 h20 h21 h23 h25 h26 h27 h28 h29
  subst hd
  have e0 := get_bang h0
  have e1 := get_bang h1
  have e2 := get_bang h2
  have e3 := get_bang h3
  have e12 := get_bang h12
  have e13 := get_bang h13
  have e17 := get_bang h17
  have e18 := get_bang h18
  have e19 := get_bang h19
  have e20 := get_bang h20
  have e21 := get_bang h21
  have e23 := get_bang h23
  have e25 := get_bang h25
  have e26 := get_bang h26
  have e27 := get_bang h27
  have e28 := get_bang h28
  have e29 := get_bang h29
  refine ⟨fun i => tm[i]!, ?_⟩
  have hl := (list_lit tm 345 hs).trans (range_lit fun i => tm[i]!)
  clear hs h0 h1 h2 h3 h12 h13 h17 h18 h19 h20 h21 h23 h25 h26 h27 h28 h29
  subst e0 e1 e2 e3 e12 e13 e17 e18 e19 e20 e21 e23 e25 e26 e27 e28 e29
  exact congrArg (fun t => (⟨t, []⟩ : Act)) hl
theorem lit26 (a : Act) (hd : a.defers = []) (hs : a.tmps.size = 345) {v0 v1 v2 v3 v12 v13 v17 v18 v19 v20 v21 v23 v25 v26 v27 v28 v29 : Value} (h0 : a.tmps[0]? = some v0) (h1 : a.tmps[1]? = some v1) (h2 : a.tmps[2]? = some v2) (h3 : a.tmps[3]? = some v3) (h12 : a.tmps[12]? = some v12) (h13 : a.tmps[13]? = some v13) (h17 : a.tmps[17]? = some v17) (h18 : a.tmps[18]? = some v18) (h19 : a.tmps[19]? = some v19) (h20 : a.tmps[20]? = some v20) (h21 : a.tmps[21]? = some v21) (h23 : a.tmps[23]? = some v23) (h25 : a.tmps[25]? = some v25) (h26 : a.tmps[26]? = some v26) (h27 : a.tmps[27]? = some v27) (h28 : a.tmps[28]? = some v28) (h29 : a.tmps[29]? = some v29) :
    ∃ x : Nat → Value, a = ⟨#[v0, v1, v2, v3, x 4, x 5, x 6, x 7, x 8, x 9, x 10, x 11, v12, v13, x 14, x 15, x 16, v17, v18, v19, v20, v21, x 22, v23, x 24, v25, v26, v27, v28, v29, x 30, x 31, x 32, x 33, x 34, x 35, x 36, x 37, x 38, x 39, x 40, x 41, x 42, x 43, x 44, x 45, x 46, x 47, x 48, x 49, x 50, x 51, x 52, x 53, x 54, x 55, x 56, x 57, x 58, x 59, x 60, x 61, x 62, x 63, x 64, x 65, x 66, x 67, x 68, x 69, x 70, x 71, x 72, x 73, x 74, x 75, x 76, x 77, x 78, x 79, x 80, x 81, x 82, x 83, x 84, x 85, x 86, x 87, x 88, x 89, x 90, x 91, x 92, x 93, x 94, x 95, x 96, x 97, x 98, x 99, x 100, x 101, x 102, x 103, x 104, x 105, x 106, x 107, x 108, x 109, x 110, x 111, x 112, x 113, x 114, x 115, x 116, x 117, x 118, x 119, x 120, x 121, x 122, x 123, x 124, x 125, x 126, x 127, x 128, x 129, x 130, x 131, x 132, x 133, x 134, x 135, x 136, x 137, x 138, x 139, x 140, x 141, x 142, x 143, x 144, x 145, x 146, x 147, x 148, x 149, x 150, x 151, x 152, x 153, x 154, x 155, x 156, x 157, x 158, x 159, x 160, x 161, x 162, x 163, x 164, x 165, x 166, x 167, x 168, x 169, x 170, x 171, x 172, x 173, x 174, x 175, x 176, x 177, x 178, x 179, x 180, x 181, x 182, x 183, x 184, x 185, x 186, x 187, x 188, x 189, x 190, x 191, x 192, x 193, x 194, x 195, x 196, x 197, x 198, x 199, x 200, x 201, x 202, x 203, x 204, x 205, x 206, x 207, x 208, x 209, x 210, x 211, x 212, x 213, x 214, x 215, x 216, x 217, x 218, x 219, x 220, x 221, x 222, x 223, x 224, x 225, x 226, x 227, x 228, x 229, x 230, x 231, x 232, x 233, x 234, x 235, x 236, x 237, x 238, x 239, x 240, x 241, x 242, x 243, x 244, x 245, x 246, x 247, x 248, x 249, x 250, x 251, x 252, x 253, x 254, x 255, x 256, x 257, x 258, x 259, x 260, x 261, x 262, x 263, x 264, x 265, x 266, x 267, x 268, x 269, x 270, x 271, x 272, x 273, x 274, x 275, x 276, x 277, x 278, x 279, x 280, x 281, x 282, x 283, x 284, x 285, x 286, x 287, x 288, x 289, x 290, x 291, x 292, x 293, x 294, x 295, x 296, x 297, x 298, x 299, x 300, x 301, x 302, x 303, x 304, x 305, x 306, x 307, x 308, x 309, x 310, x 311, x 312, x 313, x 314, x 315, x 316, x 317, x 318, x 319, x 320, x 321, x 322, x 323, x 324, x 325, x 326, x 327, x 328, x 329, x 330, x 331, x 332, x 333, x 334, x 335, x 336, x 337, x 338, x 339, x 340, x 341, x 342, x 343, x 344], []⟩ := by
  obtain ⟨tm, df⟩ := a
  simp only at hd hs h0 h1 h2 h3 h12 h13 h17 h18 h19 h20 h21 h23 h25 h26 h27 h28 h29
  subst hd
  have e0 := get_bang h0
  have e1 := get_bang h1
  have e2 := get_bang h2
  have e3 := get_bang h3
  have e12 := get_bang h12
  have e13 := get_bang h13
  have e17 := get_bang h17
  have e18 := get_bang h18
  have e19 := get_bang h19
  have e20 := get_bang h20
  have e21 := get_bang h21
  have e23 := get_bang h23
  have e25 := get_bang h25
  have e26 := get_bang h26
  have e27 := get_bang h27
  have e28 := get_bang h28
  have e29 := get_bang h29
  refine ⟨fun i => tm[i]!, ?_⟩
  have hl := (list_lit tm 345 hs).trans (range_lit fun i => tm[i]!)
  clear hs h0 h1 h2 h3 h12 h13 h17 h18 h19 h20 h21 h23 h25 h26 h27 h28 h29
  subst e0 e1 e2 e3 e12 e13 e17 e18 e19 e20 e21 e23 e25 e26 e27 e28 e29
  exact congrArg (fun t => (⟨t, []⟩ : Act)) hl
theorem lit28 (a : Act) (hd : a.defers = []) (hs : a.tmps.size = 345) {v0 v1 v2 v3 v12 v13 v17 v18 v19 v20 v21 v23 v28 v29 v32 : Value} (h0 : a.tmps[0]? = some v0) (h1 : a.tmps[1]? = some v1) (h2 : a.tmps[2]? = some v2) (h3 : a.tmps[3]? = some v3) (h12 : a.tmps[12]? = some v12) (h13 : a.tmps[13]? = some v13) (h17 : a.tmps[17]? = some v17) (h18 : a.tmps[18]? = some v18) (h19 : a.tmps[19]? = some v19) (h20 : a.tmps[20]? = some v20) (h21 : a.tmps[21]? = some v21) (h23 : a.tmps[23]? = some v23) (h28 : a.tmps[28]? = some v28) (h29 : a.tmps[29]? = some v29) (h32 : a.tmps[32]? = some v32) :
    ∃ x : Nat → Value, a = ⟨#[v0, v1, v2, v3, x 4, x 5, x 6, x 7, x 8, x 9, x 10, x 11, v12, v13, x 14, x 15, x 16, v17, v18, v19, v20, v21, x 22, v23, x 24, x 25, x 26, x 27, v28, v29, x 30, x 31, v32, x 33, x 34, x 35, x 36, x 37, x 38, x 39, x 40, x 41, x 42, x 43, x 44, x 45, x 46, x 47, x 48, x 49, x 50, x 51, x 52, x 53, x 54, x 55, x 56, x 57, x 58, x 59, x 60, x 61, x 62, x 63, x 64, x 65, x 66, x 67, x 68, x 69, x 70, x 71, x 72, x 73, x 74, x 75, x 76, x 77, x 78, x 79, x 80, x 81, x 82, x 83, x 84, x 85, x 86, x 87, x 88, x 89, x 90, x 91, x 92, x 93, x 94, x 95, x 96, x 97, x 98, x 99, x 100, x 101, x 102, x 103, x 104, x 105, x 106, x 107, x 108, x 109, x 110, x 111, x 112, x 113, x 114, x 115, x 116, x 117, x 118, x 119, x 120, x 121, x 122, x 123, x 124, x 125, x 126, x 127, x 128, x 129, x 130, x 131, x 132, x 133, x 134, x 135, x 136, x 137, x 138, x 139, x 140, x 141, x 142, x 143, x 144, x 145, x 146, x 147, x 148, x 149, x 150, x 151, x 152, x 153, x 154, x 155, x 156, x 157, x 158, x 159, x 160, x 161, x 162, x 163, x 164, x 165, x 166, x 167, x 168, x 169, x 170, x 171, x 172, x 173, x 174, x 175, x 176, x 177, x 178, x 179, x 180, x 181, x 182, x 183, x 184, x 185, x 186, x 187, x 188, x 189, x 190, x 191, x 192, x 193, x 194, x 195, x 196, x 197, x 198, x 199, x 200, x 201, x 202, x 203, x 204, x 205, x 206, x 207, x 208, x 209, x 210, x 211, x 212, x 213, x 214, x 215, x 216, x 217, x 218, x 219, x 220, x 221, x 222, x 223, x 224, x 225, x 226, x 227, x 228, x 229, x 230, x 231, x 232, x 233, x 234, x 235, x 236, x 237, x 238, x 239, x 240, x 241, x 242, x 243, x 244, x 245, x 246, x 247, x 248, x 249, x 250, x 251, x 252, x 253, x 254, x 255, x 256, x 257, x 258, x 259, x 260, x 261, x 262, x 263, x 264, x 265, x 266, x 267, x 268, x 269, x 270, x 271, x 272, x 273, x 274, x 275, x 276, x 277, x 278, x 279, x 280, x 281, x 282, x 283, x 284, x 285, x 286, x 287, x 288, x 289, x 290, x 291, x 292, x 293, x 294, x 295, x 296, x 297, x 298, x 299, x 300, x 301, x 302, x 303, x 304, x 305, x 306, x 307, x 308, x 309, x 310, x 311, x 312, x 313, x 314, x 315, x 316, x 317, x 318, x 319, x 320, x 321, x 322, x 323, x 324, x 325, x 326, x 327, x 328, x 329, x 330, x 331, x 332, x 333, x 334, x 335, x 336, x 337, x 338, x 339, x 340, x 341, x 342, x 343, x 344], []⟩ := by
  obtain ⟨tm, df⟩ := a
  simp only at hd hs h0 h1 h2 h3 h12 h13 h17 h18 h19 h20 h21 h23 h28 h29 h32
  subst hd
  have e0 := get_bang h0
  have e1 := get_bang h1
  have e2 := get_bang h2
  have e3 := get_bang h3
  have e12 := get_bang h12
  have e13 := get_bang h13
  have e17 := get_bang h17
  have e18 := get_bang h18
  have e19 := get_bang h19
  have e20 := get_bang h20
  have e21 := get_bang h21
  have e23 := get_bang h23
  have e28 := get_bang h28
  have e29 := get_bang h29
  have e32 := get_bang h32
  refine ⟨fun i => tm[i]!, ?_⟩
  have hl := (list_lit tm 345 hs).trans (range_lit fun i => tm[i]!)
  clear hs h0 h1 h2 h3 h12 h13 h17 h18 h19 h20 h21 h23 h28 h29 h32
  subst e0 e1 e2 e3 e12 e13 e17 e18 e19 e20 e21 e23 e28 e29 e32
  exact congrArg (fun t => (⟨t, []⟩ : Act)) hl
end Go.Proofs.YtambbfgmbfamkaaGreatDoor
