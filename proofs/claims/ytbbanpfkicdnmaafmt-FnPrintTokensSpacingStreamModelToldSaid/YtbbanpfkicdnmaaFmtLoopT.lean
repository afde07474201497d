/-
  Proved: printTokens at a tree of tokens (no pretty declaration). No statement of the seat stands here.
-/
import Derived.Test.YtbbanpfkicdnmaaFmtTid
import Derived.Test.YtbbanpfkicdnmaaFmtTco
import Derived.Test.YtbbanpfkicdnmaaFmtTws
import Derived.Test.YtbbanpfkicdnmaaFmtTst
import Derived.Test.YtbbanpfkicdnmaaFmtTfn
import Derived.Test.YtbbanpfkicdnmaaFmtTpa
import Derived.Test.YtbbanpfkicdnmaaFmtTbr
namespace Go.Proofs.YtbbanpfkicdnmaaFmt
open Go.RowKit Go.ChangeAt
set_option linter.unusedSimpArgs false
set_option linter.unusedVariables false
set_option maxRecDepth 1000000
structure WZ (B b : Nat) (m : Bool) (out : List UInt8) (W0 : World) (vo : Option Addr) (ts : Ts) (a : Act) (wr : World) : Prop where
  d : a.defers = []
  sz : a.tmps.size = 384
  f0 : a.tmps[0]? = some (.pointer (some ⟨b, 0, none⟩))
  f7 : a.tmps[7]? = some (.bool (fin false ts))
  at_ : At B b m vo (out ++ body false ts) W0 wr
theorem lit07 (a : Act) (hd : a.defers = []) (hs : a.tmps.size = 384) {v0 v7 : Value} (h0 : a.tmps[0]? = some v0) (h7 : a.tmps[7]? = some v7) :
    ∃ x : Nat → Value, a = ⟨#[v0, x 1, x 2, x 3, x 4, x 5, x 6, v7, x 8, x 9, x 10, x 11, x 12, x 13, x 14, x 15, x 16, x 17, x 18, x 19, x 20, x 21, x 22, x 23, x 24, x 25, x 26, x 27, x 28, x 29, x 30, x 31, x 32, x 33, x 34, x 35, x 36, x 37, x 38, x 39, x 40, x 41, x 42, x 43, x 44, x 45, x 46, x 47, x 48, x 49, x 50, x 51, x 52, x 53, x 54, x 55, x 56, x 57, x 58, x 59, x 60, x 61, x 62, x 63, x 64, x 65, x 66, x 67, x 68, x 69, x 70, x 71, x 72, x 73, x 74, x 75, x 76, x 77, x 78, x 79, x 80, x 81, x 82, x 83, x 84, x 85, x 86, x 87, x 88, x 89, x 90, x 91, x 92, x 93, x 94, x 95, x 96, x 97, x 98, x 99, x 100, x 101, x 102, x 103, x 104, x 105, x 106, x 107, x 108, x 109, x 110, x 111, x 112, x 113, x 114, x 115, x 116, x 117, x 118, x 119, x 120, x 121, x 122, x 123, x 124, x 125, x 126, x 127, x 128, x 129, x 130, x 131, x 132, x 133, x 134, x 135, x 136, x 137, x 138, x 139, x 140, x 141, x 142, x 143, x 144, x 145, x 146, x 147, x 148, x 149, x 150, x 151, x 152, x 153, x 154, x 155, x 156, x 157, x 158, x 159, x 160, x 161, x 162, x 163, x 164, x 165, x 166, x 167, x 168, x 169, x 170, x 171, x 172, x 173, x 174, x 175, x 176, x 177, x 178, x 179, x 180, x 181, x 182, x 183, x 184, x 185, x 186, x 187, x 188, x 189, x 190, x 191, x 192, x 193, x 194, x 195, x 196, x 197, x 198, x 199, x 200, x 201, x 202, x 203, x 204, x 205, x 206, x 207, x 208, x 209, x 210, x 211, x 212, x 213, x 214, x 215, x 216, x 217, x 218, x 219, x 220, x 221, x 222, x 223, x 224, x 225, x 226, x 227, x 228, x 229, x 230, x 231, x 232, x 233, x 234, x 235, x 236, x 237, x 238, x 239, x 240, x 241, x 242, x 243, x 244, x 245, x 246, x 247, x 248, x 249, x 250, x 251, x 252, x 253, x 254, x 255, x 256, x 257, x 258, x 259, x 260, x 261, x 262, x 263, x 264, x 265, x 266, x 267, x 268, x 269, x 270, x 271, x 272, x 273, x 274, x 275, x 276, x 277, x 278, x 279, x 280, x 281, x 282, x 283, x 284, x 285, x 286, x 287, x 288, x 289, x 290, x 291, x 292, x 293, x 294, x 295, x 296, x 297, x 298, x 299, x 300, x 301, x 302, x 303, x 304, x 305, x 306, x 307, x 308, x 309, x 310, x 311, x 312, x 313, x 314, x 315, x 316, x 317, x 318, x 319, x 320, x 321, x 322, x 323, x 324, x 325, x 326, x 327, x 328, x 329, x 330, x 331, x 332, x 333, x 334, x 335, x 336, x 337, x 338, x 339, x 340, x 341, x 342, x 343, x 344, x 345, x 346, x 347, x 348, x 349, x 350, x 351, x 352, x 353, x 354, x 355, x 356, x 357, x 358, x 359, x 360, x 361, x 362, x 363, x 364, x 365, x 366, x 367, x 368, x 369, x 370, x 371, x 372, x 373, x 374, x 375, x 376, x 377, x 378, x 379, x 380, x 381, x 382, x 383], []⟩ := by
  obtain ⟨tm, df⟩ := a
  simp only at hd hs h0 h7
  subst hd
  have e0 := get_bang h0
  have e7 := get_bang h7
  refine ⟨fun i => tm[i]!, ?_⟩
  have hl := (list_lit tm 384 hs).trans (range_lit fun i => tm[i]!)
  clear h0 h7 hs
  subst e0 e7
  exact congrArg (fun t => (⟨t, []⟩ : Act)) hl
set_option maxHeartbeats 32000000 in
theorem texit (B b N cap bx k : Nat) (tvo : Option Addr) (m p : Bool) (cc : Int) (out : List UInt8) (W0 : World) (vo : Option Addr) (ts : Ts) (x : Nat → Value) (wr : World) (K : Act → World → Prop) (Q0 : Exit → Act → World → Prop)
    (hexit : ∀ a' w'', WZ B b m out W0 vo ts a' w'' → Q0 (.exit 2) a' w'') (hk : k = N) (hp : fin false ts = p) (hat : At B b m vo (out ++ body false ts) W0 wr) :
    Code.wp Tryf.prog body2 (Exit.then K Q0) ⟨#[.pointer (some ⟨b, 0, none⟩), .slice tvo N cap, x 2, x 3, x 4, .pointer (some ⟨bx, 0, none⟩), x 6, .bool p, .int .i64 0, x 9, x 10, x 11, .int .i64 cc, x 13, x 14, x 15, x 16, x 17, x 18, x 19, x 20, x 21, x 22, x 23, x 24, x 25, x 26, x 27, x 28, x 29, x 30, x 31, x 32, x 33, x 34, x 35, x 36, x 37, x 38, x 39, x 40, x 41, x 42, x 43, x 44, x 45, x 46, x 47, x 48, x 49, x 50, x 51, x 52, x 53, x 54, x 55, x 56, x 57, x 58, x 59, x 60, x 61, x 62, x 63, x 64, x 65, x 66, x 67, x 68, x 69, .slice tvo N cap, .int .i64 (N : Int), .int .i64 (k : Int), x 73, x 74, x 75, x 76, x 77, x 78, x 79, x 80, x 81, x 82, x 83, x 84, x 85, x 86, x 87, x 88, x 89, x 90, x 91, x 92, x 93, x 94, x 95, x 96, x 97, x 98, x 99, x 100, x 101, x 102, x 103, x 104, x 105, x 106, x 107, x 108, x 109, x 110, x 111, x 112, x 113, x 114, x 115, x 116, x 117, x 118, x 119, x 120, x 121, x 122, x 123, x 124, x 125, x 126, x 127, x 128, x 129, x 130, x 131, x 132, x 133, x 134, x 135, x 136, x 137, x 138, x 139, x 140, x 141, x 142, x 143, x 144, x 145, x 146, x 147, x 148, x 149, x 150, x 151, x 152, x 153, x 154, x 155, x 156, x 157, x 158, x 159, x 160, x 161, x 162, x 163, x 164, x 165, x 166, x 167, x 168, x 169, x 170, x 171, x 172, x 173, x 174, x 175, x 176, x 177, x 178, x 179, x 180, x 181, x 182, x 183, x 184, x 185, x 186, x 187, x 188, x 189, x 190, x 191, x 192, x 193, x 194, x 195, x 196, x 197, x 198, x 199, x 200, x 201, x 202, x 203, x 204, x 205, x 206, x 207, x 208, x 209, x 210, x 211, x 212, x 213, x 214, x 215, x 216, x 217, x 218, x 219, x 220, x 221, x 222, x 223, x 224, x 225, x 226, x 227, x 228, x 229, x 230, x 231, x 232, x 233, x 234, x 235, x 236, x 237, x 238, x 239, x 240, x 241, x 242, x 243, x 244, x 245, x 246, x 247, x 248, x 249, x 250, x 251, x 252, x 253, x 254, x 255, x 256, x 257, x 258, x 259, x 260, x 261, x 262, x 263, x 264, x 265, x 266, x 267, x 268, x 269, x 270, x 271, x 272, x 273, x 274, x 275, x 276, x 277, x 278, x 279, x 280, x 281, x 282, x 283, x 284, x 285, x 286, x 287, x 288, x 289, x 290, x 291, x 292, x 293, x 294, x 295, x 296, x 297, x 298, x 299, x 300, x 301, x 302, x 303, x 304, x 305, x 306, x 307, x 308, x 309, x 310, x 311, x 312, x 313, x 314, x 315, x 316, x 317, x 318, x 319, x 320, x 321, x 322, x 323, x 324, x 325, x 326, x 327, x 328, x 329, x 330, x 331, x 332, x 333, x 334, x 335, x 336, x 337, x 338, x 339, x 340, x 341, x 342, x 343, x 344, x 345, x 346, x 347, x 348, x 349, x 350, x 351, x 352, x 353, x 354, x 355, x 356, x 357, x 358, x 359, x 360, x 361, x 362, x 363, x 364, x 365, x 366, x 367, x 368, x 369, x 370, x 371, x 372, x 373, x 374, x 375, x 376, x 377, x 378, x 379, x 380, x 381, x 382, x 383], []⟩ wr := by
  have hx1 : ¬ ((k : Int) < (N : Int)) := by omega
  have Hat := Lib.hid hat
  have Hex := Lib.hid hexit
  have Hpp := Lib.hid hp
  clear hk hat hexit hp
  conv => arg 2; whnf
  go_wp2_with fail
  refine Hex.out _ _ ?_
  exact ⟨rfl, rfl, rfl, by rw [Hpp.out]; rfl, Hat.out⟩
theorem pre_bound {out pre : List UInt8} {ts rest : Ts} {p : Bool} (ho : out.length + (full ts).length ≤ 100000000) (htx : body false ts = pre ++ body p rest) : (out ++ pre).length + (body p rest).length ≤ 100000000 := by
  unfold full at ho
  rw [List.length_append, htx, List.length_append] at ho
  rw [List.length_append]
  omega
theorem loopT (B b N cap bx : Nat) (tvo : Option Addr) (m : Bool) (ind : Int) (out : List UInt8) (W0 : World) (vo : Option Addr) (ok : Nat → Prop) (ts : Ts) (hNs : N ≤ 131073) (hok : Hid (∀ k, ok k → k ≠ b ∧ k < B)) (hB : Hid (∀ k, InRow vo k → B ≤ k))
    (Hbx : Hid (∃ v, W0.heap[bx]? = some (.cells #[.int .i32 ind, .int .u8 0, .bool v] 69))) (hbx1 : bx ≠ b) (Hbx2 : Hid (¬ InRow vo bx)) (ho : out.length + (full ts).length ≤ 99999000)
    (IH : ∀ kd, sz kd < sz ts → Hid (∀ kvo ck, Row W0 ok kvo kd → Child B b m ind W0 ok kvo ck kd))
    (a : Act) (wr : World) (h : WJ2 B b N cap bx tvo m out W0 vo ok ts a wr) (Q0 : Exit → Act → World → Prop) (hexit : ∀ a' w'', WZ B b m out W0 vo ts a' w'' → Q0 (.exit 2) a' w'') : Code.wp Tryf.prog (Code.loop body2) Q0 a wr := by
  refine wp_loop (WJ2 B b N cap bx tvo m out W0 vo ok ts) (Wmu N) h ?_
  clear h
  rintro a wr ⟨k, cc, p, rest, pre, hI⟩
  have hpb := pre_bound (out := out) (by omega : out.length + (full ts).length ≤ 100000000) hI.tx
  have hfl : out.length + pre.length + (body p rest).length ≤ 99999000 := by
    have := ho; unfold full at this; rw [List.length_append, hI.tx, List.length_append] at this; omega
  have hbk : (out ++ pre).length ≤ 100000000 := by omega
  cases rest with
  | nil =>
    obtain ⟨x, rfl⟩ := lit2 a hI.d hI.sz hI.f0 hI.f1 hI.f5 hI.f7 hI.f8 hI.f12 hI.f70 hI.f71 hI.f72
    refine texit B b N cap bx k tvo m p cc out W0 vo ts x wr _ Q0 hexit (by have := hI.le; simpa [Ts.len] using this) hI.fi ?_
    have h1 := hI.at_
    have h2 := hI.tx
    simp only [body, List.append_nil] at h2
    rw [h2]; exact h1
  | leaf op sel r =>
    have hrow := hI.row
    rcases hrow with h0 | ⟨tb, rfl, htb, hM⟩
    · cases h0
    have hop := hM.1
    rcases hop with rfl | rfl | rfl | rfl
    · by_cases hl : k + 1 < N
      · cases p
        · obtain ⟨x, rfl⟩ := lit2 a hI.d hI.sz hI.f0 hI.f1 hI.f5 hI.f7 hI.f8 hI.f12 hI.f70 hI.f71 hI.f72
          exact tidON B b tb N cap bx k sel r ts m cc ind out pre W0 vo ok x wr Q0 hNs hok hB Hbx hbx1 Hbx2 htb hM hI.le hI.cl hl hI.tx hI.fi hI.szr hbk hI.at_
        · obtain ⟨x, rfl⟩ := lit2 a hI.d hI.sz hI.f0 hI.f1 hI.f5 hI.f7 hI.f8 hI.f12 hI.f70 hI.f71 hI.f72
          exact tidHN B b tb N cap bx k sel r ts m cc ind out pre W0 vo ok x wr Q0 hNs hok hB Hbx hbx1 Hbx2 htb hM hI.le hI.cl hl hI.tx hI.fi hI.szr hbk hI.at_
      · cases p
        · obtain ⟨x, rfl⟩ := lit2 a hI.d hI.sz hI.f0 hI.f1 hI.f5 hI.f7 hI.f8 hI.f12 hI.f70 hI.f71 hI.f72
          exact tidOL B b tb N cap bx k sel r ts m cc ind out pre W0 vo ok x wr Q0 hNs hok hB Hbx hbx1 Hbx2 htb hM hI.le hI.cl hl hI.tx hI.fi hI.szr hbk hI.at_
        · obtain ⟨x, rfl⟩ := lit2 a hI.d hI.sz hI.f0 hI.f1 hI.f5 hI.f7 hI.f8 hI.f12 hI.f70 hI.f71 hI.f72
          exact tidHL B b tb N cap bx k sel r ts m cc ind out pre W0 vo ok x wr Q0 hNs hok hB Hbx hbx1 Hbx2 htb hM hI.le hI.cl hl hI.tx hI.fi hI.szr hbk hI.at_
    · by_cases hl : k + 1 < N
      · cases p
        · obtain ⟨x, rfl⟩ := lit2 a hI.d hI.sz hI.f0 hI.f1 hI.f5 hI.f7 hI.f8 hI.f12 hI.f70 hI.f71 hI.f72
          exact tcoON B b tb N cap bx k sel r ts m cc ind out pre W0 vo ok x wr Q0 hNs hok hB Hbx hbx1 Hbx2 htb hM hI.le hI.cl hl hI.tx hI.fi hI.szr hbk hI.at_
        · obtain ⟨x, rfl⟩ := lit2 a hI.d hI.sz hI.f0 hI.f1 hI.f5 hI.f7 hI.f8 hI.f12 hI.f70 hI.f71 hI.f72
          exact tcoHN B b tb N cap bx k sel r ts m cc ind out pre W0 vo ok x wr Q0 hNs hok hB Hbx hbx1 Hbx2 htb hM hI.le hI.cl hl hI.tx hI.fi hI.szr hbk hI.at_
      · cases p
        · obtain ⟨x, rfl⟩ := lit2 a hI.d hI.sz hI.f0 hI.f1 hI.f5 hI.f7 hI.f8 hI.f12 hI.f70 hI.f71 hI.f72
          exact tcoOL B b tb N cap bx k sel r ts m cc ind out pre W0 vo ok x wr Q0 hNs hok hB Hbx hbx1 Hbx2 htb hM hI.le hI.cl hl hI.tx hI.fi hI.szr hbk hI.at_
        · obtain ⟨x, rfl⟩ := lit2 a hI.d hI.sz hI.f0 hI.f1 hI.f5 hI.f7 hI.f8 hI.f12 hI.f70 hI.f71 hI.f72
          exact tcoHL B b tb N cap bx k sel r ts m cc ind out pre W0 vo ok x wr Q0 hNs hok hB Hbx hbx1 Hbx2 htb hM hI.le hI.cl hl hI.tx hI.fi hI.szr hbk hI.at_
    · obtain ⟨x, rfl⟩ := lit2 a hI.d hI.sz hI.f0 hI.f1 hI.f5 hI.f7 hI.f8 hI.f12 hI.f70 hI.f71 hI.f72
      exact tws B b tb N cap bx k sel r ts m cc ind p out pre W0 vo ok x wr Q0 hNs hok hB Hbx hbx1 Hbx2 htb hM hI.le hI.cl hI.tx hI.fi hI.szr hbk hI.at_
    · by_cases hl : k + 1 < N
      · cases p
        · obtain ⟨x, rfl⟩ := lit2 a hI.d hI.sz hI.f0 hI.f1 hI.f5 hI.f7 hI.f8 hI.f12 hI.f70 hI.f71 hI.f72
          exact tstON B b tb N cap bx k sel r ts m cc ind out pre W0 vo ok x wr Q0 hNs hok hB Hbx hbx1 Hbx2 htb hM hI.le hI.cl hl hI.tx hI.fi hI.szr hbk hI.at_
        · obtain ⟨x, rfl⟩ := lit2 a hI.d hI.sz hI.f0 hI.f1 hI.f5 hI.f7 hI.f8 hI.f12 hI.f70 hI.f71 hI.f72
          exact tstHN B b tb N cap bx k sel r ts m cc ind out pre W0 vo ok x wr Q0 hNs hok hB Hbx hbx1 Hbx2 htb hM hI.le hI.cl hl hI.tx hI.fi hI.szr hbk hI.at_
      · cases p
        · obtain ⟨x, rfl⟩ := lit2 a hI.d hI.sz hI.f0 hI.f1 hI.f5 hI.f7 hI.f8 hI.f12 hI.f70 hI.f71 hI.f72
          exact tstOL B b tb N cap bx k sel r ts m cc ind out pre W0 vo ok x wr Q0 hNs hok hB Hbx hbx1 Hbx2 htb hM hI.le hI.cl hl hI.tx hI.fi hI.szr hbk hI.at_
        · obtain ⟨x, rfl⟩ := lit2 a hI.d hI.sz hI.f0 hI.f1 hI.f5 hI.f7 hI.f8 hI.f12 hI.f70 hI.f71 hI.f72
          exact tstHL B b tb N cap bx k sel r ts m cc ind out pre W0 vo ok x wr Q0 hNs hok hB Hbx hbx1 Hbx2 htb hM hI.le hI.cl hl hI.tx hI.fi hI.szr hbk hI.at_
  | node op sel kd r =>
    have hrow := hI.row
    rcases hrow with h0 | ⟨tb, rfl, htb, hM⟩
    · cases h0
    have hkz : sz kd < sz ts := by have := hI.szr; simp only [sz] at this; omega
    have hch : (out ++ pre).length + (sp p).length + (opens op sel).length + (full kd).length ≤ 99999000 := by
      rw [List.length_append]
      simp only [body, List.length_append] at hfl
      unfold full
      rw [List.length_append]
      omega
    have hop := hM.1
    rcases hop with rfl | rfl | rfl
    · by_cases hl : k + 1 < N
      · cases p
        · obtain ⟨x, rfl⟩ := lit2 a hI.d hI.sz hI.f0 hI.f1 hI.f5 hI.f7 hI.f8 hI.f12 hI.f70 hI.f71 hI.f72
          exact tfnON B b tb N cap bx k sel kd r ts m cc ind out pre W0 vo ok x wr Q0 hNs hok hB Hbx hbx1 Hbx2 htb hM hI.le hI.cl hl hI.tx hI.fi hI.szr hbk hch (IH kd hkz) hI.at_
        · obtain ⟨x, rfl⟩ := lit2 a hI.d hI.sz hI.f0 hI.f1 hI.f5 hI.f7 hI.f8 hI.f12 hI.f70 hI.f71 hI.f72
          exact tfnHN B b tb N cap bx k sel kd r ts m cc ind out pre W0 vo ok x wr Q0 hNs hok hB Hbx hbx1 Hbx2 htb hM hI.le hI.cl hl hI.tx hI.fi hI.szr hbk hch (IH kd hkz) hI.at_
      · cases p
        · obtain ⟨x, rfl⟩ := lit2 a hI.d hI.sz hI.f0 hI.f1 hI.f5 hI.f7 hI.f8 hI.f12 hI.f70 hI.f71 hI.f72
          exact tfnOL B b tb N cap bx k sel kd r ts m cc ind out pre W0 vo ok x wr Q0 hNs hok hB Hbx hbx1 Hbx2 htb hM hI.le hI.cl hl hI.tx hI.fi hI.szr hbk hch (IH kd hkz) hI.at_
        · obtain ⟨x, rfl⟩ := lit2 a hI.d hI.sz hI.f0 hI.f1 hI.f5 hI.f7 hI.f8 hI.f12 hI.f70 hI.f71 hI.f72
          exact tfnHL B b tb N cap bx k sel kd r ts m cc ind out pre W0 vo ok x wr Q0 hNs hok hB Hbx hbx1 Hbx2 htb hM hI.le hI.cl hl hI.tx hI.fi hI.szr hbk hch (IH kd hkz) hI.at_
    · by_cases hl : k + 1 < N
      · cases p
        · obtain ⟨x, rfl⟩ := lit2 a hI.d hI.sz hI.f0 hI.f1 hI.f5 hI.f7 hI.f8 hI.f12 hI.f70 hI.f71 hI.f72
          exact tpaON B b tb N cap bx k sel kd r ts m cc ind out pre W0 vo ok x wr Q0 hNs hok hB Hbx hbx1 Hbx2 htb hM hI.le hI.cl hl hI.tx hI.fi hI.szr hbk hch (IH kd hkz) hI.at_
        · obtain ⟨x, rfl⟩ := lit2 a hI.d hI.sz hI.f0 hI.f1 hI.f5 hI.f7 hI.f8 hI.f12 hI.f70 hI.f71 hI.f72
          exact tpaHN B b tb N cap bx k sel kd r ts m cc ind out pre W0 vo ok x wr Q0 hNs hok hB Hbx hbx1 Hbx2 htb hM hI.le hI.cl hl hI.tx hI.fi hI.szr hbk hch (IH kd hkz) hI.at_
      · cases p
        · obtain ⟨x, rfl⟩ := lit2 a hI.d hI.sz hI.f0 hI.f1 hI.f5 hI.f7 hI.f8 hI.f12 hI.f70 hI.f71 hI.f72
          exact tpaOL B b tb N cap bx k sel kd r ts m cc ind out pre W0 vo ok x wr Q0 hNs hok hB Hbx hbx1 Hbx2 htb hM hI.le hI.cl hl hI.tx hI.fi hI.szr hbk hch (IH kd hkz) hI.at_
        · obtain ⟨x, rfl⟩ := lit2 a hI.d hI.sz hI.f0 hI.f1 hI.f5 hI.f7 hI.f8 hI.f12 hI.f70 hI.f71 hI.f72
          exact tpaHL B b tb N cap bx k sel kd r ts m cc ind out pre W0 vo ok x wr Q0 hNs hok hB Hbx hbx1 Hbx2 htb hM hI.le hI.cl hl hI.tx hI.fi hI.szr hbk hch (IH kd hkz) hI.at_
    · by_cases hl : k + 1 < N
      · cases p
        · obtain ⟨x, rfl⟩ := lit2 a hI.d hI.sz hI.f0 hI.f1 hI.f5 hI.f7 hI.f8 hI.f12 hI.f70 hI.f71 hI.f72
          exact tbrON B b tb N cap bx k sel kd r ts m cc ind out pre W0 vo ok x wr Q0 hNs hok hB Hbx hbx1 Hbx2 htb hM hI.le hI.cl hl hI.tx hI.fi hI.szr hbk hch (IH kd hkz) hI.at_
        · obtain ⟨x, rfl⟩ := lit2 a hI.d hI.sz hI.f0 hI.f1 hI.f5 hI.f7 hI.f8 hI.f12 hI.f70 hI.f71 hI.f72
          exact tbrHN B b tb N cap bx k sel kd r ts m cc ind out pre W0 vo ok x wr Q0 hNs hok hB Hbx hbx1 Hbx2 htb hM hI.le hI.cl hl hI.tx hI.fi hI.szr hbk hch (IH kd hkz) hI.at_
      · cases p
        · obtain ⟨x, rfl⟩ := lit2 a hI.d hI.sz hI.f0 hI.f1 hI.f5 hI.f7 hI.f8 hI.f12 hI.f70 hI.f71 hI.f72
          exact tbrOL B b tb N cap bx k sel kd r ts m cc ind out pre W0 vo ok x wr Q0 hNs hok hB Hbx hbx1 Hbx2 htb hM hI.le hI.cl hl hI.tx hI.fi hI.szr hbk hch (IH kd hkz) hI.at_
        · obtain ⟨x, rfl⟩ := lit2 a hI.d hI.sz hI.f0 hI.f1 hI.f5 hI.f7 hI.f8 hI.f12 hI.f70 hI.f71 hI.f72
          exact tbrHL B b tb N cap bx k sel kd r ts m cc ind out pre W0 vo ok x wr Q0 hNs hok hB Hbx hbx1 Hbx2 htb hM hI.le hI.cl hl hI.tx hI.fi hI.szr hbk hch (IH kd hkz) hI.at_
set_option maxHeartbeats 32000000 in
theorem treeMinE (B b cap : Nat) (kvo : Option Addr) (dec : Bool) (ind : Int) (out : List UInt8) (w : World) (vo : Option Addr) (ok : Nat → Prop) (ts : Ts) (h : Pr B b true false vo out w) (hnil : ts = .nil)
    (hok : Hid (∀ k, ok k → k ≠ b ∧ k < B)) (ho : out.length + (full ts).length ≤ 99999000)
    (IH : ∀ (W0 : World), (∀ a v, ok a.block → w.cell? a = some v → W0.cell? a = some v) → ∀ kd, sz kd < sz ts → Hid (∀ kvo ck, Row W0 ok kvo kd → Child B b true ind W0 ok kvo ck kd)) :
    Calls Tryf.prog 13 #[.pointer (some ⟨b, 0, none⟩), .slice kvo 0 cap, .agg #[.int .i32 ind, .int .u8 0, .bool dec]] w (WrtT B b true vo (out ++ full ts) (fin false ts) w) := by
  have p6 := h.cell 6 (by decide)
  have p3 := h.cell 3 (by decide)
  have p9 := h.cell 9 (by decide)
  simp [pc] at p6 p3 p9
  have hbs := h.lt_size
  have H0 : Hid (Wrote b vo vo w (w.alloc (.cells #[.int .i32 ind, .int .u8 0, .bool dec] 69))) := Lib.hid ((Wrote.refl b vo w).alloc _)
  have Hbx : Hid ((w.alloc (.cells #[.int .i32 ind, .int .u8 0, .bool dec] 69)).heap[w.heap.size]? = some (.cells #[.int .i32 ind, .int .u8 0, .bool dec] 69)) := Lib.hid (heap_alloc_at w _ _ rfl)
  have hrow := h.addr
  have Hrow := Lib.hid hrow
  have hle := h.le
  have Hp0 : Hid (Pr B b true false vo out (w.alloc (.cells #[.int .i32 ind, .int .u8 0, .bool dec] 69))) := Lib.hid (h.wrote ((Chg.refl Nowhere w).alloc _))
  have hkeep : ∀ a v, ok a.block → w.cell? a = some v → (w.alloc (.cells #[.int .i32 ind, .int .u8 0, .bool dec] 69)).cell? a = some v := fun a v ha hc => H0.out.cell ⟨(hok.out _ ha).1, fun hh => by have := (Hrow.out _ hh).1; have := (hok.out _ ha).2; omega⟩ hc
  have HIH := Lib.hid (IH _ hkeep)
  clear h hrow hkeep IH
  go_enter Tryf.func13, Tryf.ntmps13
  go_wp2_with fail
  refine loopT B b 0 cap w.heap.size kvo true ind out (w.alloc (.cells #[.int .i32 ind, .int .u8 0, .bool dec] 69)) vo ok ts (by omega) hok (Lib.hid fun k hk => (Hrow.out k hk).1) (Lib.hid ⟨_, Hbx.out⟩) (by omega) (Lib.hid fun hh => by have := (Hrow.out _ hh).2; omega) ho HIH.out _ _ ?_ _ ?_
  · exact ⟨0, 0, false, ts, [], rfl, rfl, rfl, rfl, rfl, rfl, rfl, rfl, rfl, rfl, rfl, by rw [hnil]; rfl, ⟨by omega, by omega⟩, .inl hnil, rfl, rfl, Nat.le_refl _, vo, by simpa only [List.append_nil] using Hp0.out, Wrote.refl b vo _⟩
  rintro ay wy ⟨hd, hsz, h0, h7, vy, hpy, hwy⟩
  obtain ⟨fv, hfv⟩ : ∃ fv, fv = fin false ts := ⟨_, rfl⟩
  rw [← hfv] at h7
  obtain ⟨x, rfl⟩ := lit07 ay hd hsz h0 h7
  have Hpy := Lib.hid hpy
  have Hwy := Lib.hid hwy
  have Hfv := Lib.hid hfv
  clear hpy hwy hd hsz h0 h7 hfv
  have hlb : (out ++ body false ts).length ≤ 100000000 := by have := ho; unfold full at this; rw [List.length_append] at this ⊢; omega
  cases fv
  · go_wp2_with fail
    go_ret
    exact ⟨by rw [← Hfv.out]; rfl, vy, by unfold full; rw [← Hfv.out]; simpa [sp] using Hpy.out, H0.out.trans Hwy.out⟩
  · go_wp2_with fail
    refine (print_w B b true false vy (out ++ body false ts) ⟨#[32]⟩ _ Hpy.out (by omega) (by decide)).mono ?_
    rintro ez wz ⟨rfl, vz, hpz, hwz⟩
    have Hpz := Lib.hid hpz
    have Hwz := Lib.hid hwz
    clear hpz hwz
    go_wp2_with fail
    go_ret
    exact ⟨by rw [← Hfv.out]; rfl, vz, by unfold full; rw [← Hfv.out]; simpa [sp] using Hpz.out, H0.out.trans (Hwy.out.trans Hwz.out)⟩
set_option maxHeartbeats 32000000 in
theorem treeMinS (B b tb N cap : Nat) (dec : Bool) (ind : Int) (out : List UInt8) (w : World) (vo : Option Addr) (ok : Nat → Prop) (ts : Ts) (h : Pr B b true false vo out w) (htb : ok tb) (hM : Mem w ok ts tb 0) (HN : Hid (ts.len = N)) (hNp : 0 < N) (hNs : N ≤ 131073)
    (hok : Hid (∀ k, ok k → k ≠ b ∧ k < B)) (ho : out.length + (full ts).length ≤ 99999000)
    (IH : ∀ (W0 : World), (∀ a v, ok a.block → w.cell? a = some v → W0.cell? a = some v) → ∀ kd, sz kd < sz ts → Hid (∀ kvo ck, Row W0 ok kvo kd → Child B b true ind W0 ok kvo ck kd)) :
    Calls Tryf.prog 13 #[.pointer (some ⟨b, 0, none⟩), .slice (some ⟨tb, 0, none⟩) N cap, .agg #[.int .i32 ind, .int .u8 0, .bool dec]] w (WrtT B b true vo (out ++ full ts) (fin false ts) w) := by
  have p6 := h.cell 6 (by decide)
  have p3 := h.cell 3 (by decide)
  have p9 := h.cell 9 (by decide)
  simp [pc] at p6 p3 p9
  have hbs := h.lt_size
  have H0 : Hid (Wrote b vo vo w (w.alloc (.cells #[.int .i32 ind, .int .u8 0, .bool dec] 69))) := Lib.hid ((Wrote.refl b vo w).alloc _)
  have Hbx : Hid ((w.alloc (.cells #[.int .i32 ind, .int .u8 0, .bool dec] 69)).heap[w.heap.size]? = some (.cells #[.int .i32 ind, .int .u8 0, .bool dec] 69)) := Lib.hid (heap_alloc_at w _ _ rfl)
  have hrow := h.addr
  have Hrow := Lib.hid hrow
  have hle := h.le
  have Hp0 : Hid (Pr B b true false vo out (w.alloc (.cells #[.int .i32 ind, .int .u8 0, .bool dec] 69))) := Lib.hid (h.wrote ((Chg.refl Nowhere w).alloc _))
  have hkeep : ∀ a v, ok a.block → w.cell? a = some v → (w.alloc (.cells #[.int .i32 ind, .int .u8 0, .bool dec] 69)).cell? a = some v := fun a v ha hc => H0.out.cell ⟨(hok.out _ ha).1, fun hh => by have := (Hrow.out _ hh).1; have := (hok.out _ ha).2; omega⟩ hc
  have HIH := Lib.hid (IH _ hkeep)
  have hfl := Mem.ws hM (by rw [HN.out]; exact hNp)
  simp at hfl
  have hgs := (hok.out _ htb).2
  have hgs2 : tb < w.heap.size := by omega
  have HM0 : Hid (Mem (w.alloc (.cells #[.int .i32 ind, .int .u8 0, .bool dec] 69)) ok ts tb 0) := Lib.hid (Mem.keep hkeep (fun _ h => h) ts tb 0 htb hM)
  have b01 : bits .and .u8 0 1 = 0 := by decide
  have hNi : (0 : Int) < (N : Int) := by omega
  clear hM
  clear h hrow hkeep IH
  go_enter Tryf.func13, Tryf.ntmps13
  go_wp2_with fail
  refine loopT B b N cap w.heap.size (some ⟨tb, 0, none⟩) true ind out (w.alloc (.cells #[.int .i32 ind, .int .u8 0, .bool dec] 69)) vo ok ts hNs hok (Lib.hid fun k hk => (Hrow.out k hk).1) (Lib.hid ⟨_, Hbx.out⟩) (by omega) (Lib.hid fun hh => by have := (Hrow.out _ hh).2; omega) ho HIH.out _ _ ?_ _ ?_
  · exact ⟨0, 0, false, ts, [], rfl, rfl, rfl, rfl, rfl, rfl, rfl, rfl, rfl, rfl, rfl, by rw [HN.out]; omega, ⟨by omega, by omega⟩, .inr ⟨tb, rfl, htb, HM0.out⟩, rfl, rfl, Nat.le_refl _, vo, by simpa only [List.append_nil] using Hp0.out, Wrote.refl b vo _⟩
  rintro ay wy ⟨hd, hsz, h0, h7, vy, hpy, hwy⟩
  obtain ⟨fv, hfv⟩ : ∃ fv, fv = fin false ts := ⟨_, rfl⟩
  rw [← hfv] at h7
  obtain ⟨x, rfl⟩ := lit07 ay hd hsz h0 h7
  have Hpy := Lib.hid hpy
  have Hwy := Lib.hid hwy
  have Hfv := Lib.hid hfv
  clear hpy hwy hd hsz h0 h7 hfv
  have hlb : (out ++ body false ts).length ≤ 100000000 := by have := ho; unfold full at this; rw [List.length_append] at this ⊢; omega
  cases fv
  · go_wp2_with fail
    go_ret
    exact ⟨by rw [← Hfv.out]; rfl, vy, by unfold full; rw [← Hfv.out]; simpa [sp] using Hpy.out, H0.out.trans Hwy.out⟩
  · go_wp2_with fail
    refine (print_w B b true false vy (out ++ body false ts) ⟨#[32]⟩ _ Hpy.out (by omega) (by decide)).mono ?_
    rintro ez wz ⟨rfl, vz, hpz, hwz⟩
    have Hpz := Lib.hid hpz
    have Hwz := Lib.hid hwz
    clear hpz hwz
    go_wp2_with fail
    go_ret
    exact ⟨by rw [← Hfv.out]; rfl, vz, by unfold full; rw [← Hfv.out]; simpa [sp] using Hpz.out, H0.out.trans (Hwy.out.trans Hwz.out)⟩
set_option maxHeartbeats 32000000 in
theorem treeFlatE (B b cap : Nat) (kvo : Option Addr) (ind : Int) (out : List UInt8) (w : World) (vo : Option Addr) (ok : Nat → Prop) (ts : Ts) (h : Pr B b false false vo out w) (hnil : ts = .nil)
    (hok : Hid (∀ k, ok k → k ≠ b ∧ k < B)) (ho : out.length + (full ts).length ≤ 99999000)
    (IH : ∀ (W0 : World), (∀ a v, ok a.block → w.cell? a = some v → W0.cell? a = some v) → ∀ kd, sz kd < sz ts → Hid (∀ kvo ck, Row W0 ok kvo kd → Child B b false ind W0 ok kvo ck kd)) :
    Calls Tryf.prog 13 #[.pointer (some ⟨b, 0, none⟩), .slice kvo 0 cap, .agg #[.int .i32 ind, .int .u8 0, .bool false]] w (WrtT B b false vo (out ++ full ts) (fin false ts) w) := by
  have p6 := h.cell 6 (by decide)
  have p3 := h.cell 3 (by decide)
  have p9 := h.cell 9 (by decide)
  simp [pc] at p6 p3 p9
  have hbs := h.lt_size
  have H0 : Hid (Wrote b vo vo w (w.alloc (.cells #[.int .i32 ind, .int .u8 0, .bool false] 69))) := Lib.hid ((Wrote.refl b vo w).alloc _)
  have Hbx : Hid ((w.alloc (.cells #[.int .i32 ind, .int .u8 0, .bool false] 69)).heap[w.heap.size]? = some (.cells #[.int .i32 ind, .int .u8 0, .bool false] 69)) := Lib.hid (heap_alloc_at w _ _ rfl)
  have hrow := h.addr
  have Hrow := Lib.hid hrow
  have hle := h.le
  have Hp0 : Hid (Pr B b false false vo out (w.alloc (.cells #[.int .i32 ind, .int .u8 0, .bool false] 69))) := Lib.hid (h.wrote ((Chg.refl Nowhere w).alloc _))
  have hkeep : ∀ a v, ok a.block → w.cell? a = some v → (w.alloc (.cells #[.int .i32 ind, .int .u8 0, .bool false] 69)).cell? a = some v := fun a v ha hc => H0.out.cell ⟨(hok.out _ ha).1, fun hh => by have := (Hrow.out _ hh).1; have := (hok.out _ ha).2; omega⟩ hc
  have HIH := Lib.hid (IH _ hkeep)
  clear h hrow hkeep IH
  go_enter Tryf.func13, Tryf.ntmps13
  go_wp2_with fail
  refine loopT B b 0 cap w.heap.size kvo false ind out (w.alloc (.cells #[.int .i32 ind, .int .u8 0, .bool false] 69)) vo ok ts (by omega) hok (Lib.hid fun k hk => (Hrow.out k hk).1) (Lib.hid ⟨_, Hbx.out⟩) (by omega) (Lib.hid fun hh => by have := (Hrow.out _ hh).2; omega) ho HIH.out _ _ ?_ _ ?_
  · exact ⟨0, 0, false, ts, [], rfl, rfl, rfl, rfl, rfl, rfl, rfl, rfl, rfl, rfl, rfl, by rw [hnil]; rfl, ⟨by omega, by omega⟩, .inl hnil, rfl, rfl, Nat.le_refl _, vo, by simpa only [List.append_nil] using Hp0.out, Wrote.refl b vo _⟩
  rintro ay wy ⟨hd, hsz, h0, h7, vy, hpy, hwy⟩
  obtain ⟨fv, hfv⟩ : ∃ fv, fv = fin false ts := ⟨_, rfl⟩
  rw [← hfv] at h7
  obtain ⟨x, rfl⟩ := lit07 ay hd hsz h0 h7
  have Hpy := Lib.hid hpy
  have Hwy := Lib.hid hwy
  have Hfv := Lib.hid hfv
  clear hpy hwy hd hsz h0 h7 hfv
  have hlb : (out ++ body false ts).length ≤ 100000000 := by have := ho; unfold full at this; rw [List.length_append] at this ⊢; omega
  cases fv
  · go_wp2_with fail
    go_ret
    exact ⟨by rw [← Hfv.out]; rfl, vy, by unfold full; rw [← Hfv.out]; simpa [sp] using Hpy.out, H0.out.trans Hwy.out⟩
  · go_wp2_with fail
    refine (print_w B b false false vy (out ++ body false ts) ⟨#[32]⟩ _ Hpy.out (by omega) (by decide)).mono ?_
    rintro ez wz ⟨rfl, vz, hpz, hwz⟩
    have Hpz := Lib.hid hpz
    have Hwz := Lib.hid hwz
    clear hpz hwz
    go_wp2_with fail
    go_ret
    exact ⟨by rw [← Hfv.out]; rfl, vz, by unfold full; rw [← Hfv.out]; simpa [sp] using Hpz.out, H0.out.trans (Hwy.out.trans Hwz.out)⟩
set_option maxHeartbeats 32000000 in
theorem treeFlatS (B b tb N cap : Nat) (ind : Int) (out : List UInt8) (w : World) (vo : Option Addr) (ok : Nat → Prop) (ts : Ts) (h : Pr B b false false vo out w) (htb : ok tb) (hM : Mem w ok ts tb 0) (HN : Hid (ts.len = N)) (hNp : 0 < N) (hNs : N ≤ 131073)
    (hok : Hid (∀ k, ok k → k ≠ b ∧ k < B)) (ho : out.length + (full ts).length ≤ 99999000)
    (IH : ∀ (W0 : World), (∀ a v, ok a.block → w.cell? a = some v → W0.cell? a = some v) → ∀ kd, sz kd < sz ts → Hid (∀ kvo ck, Row W0 ok kvo kd → Child B b false ind W0 ok kvo ck kd)) :
    Calls Tryf.prog 13 #[.pointer (some ⟨b, 0, none⟩), .slice (some ⟨tb, 0, none⟩) N cap, .agg #[.int .i32 ind, .int .u8 0, .bool false]] w (WrtT B b false vo (out ++ full ts) (fin false ts) w) := by
  have p6 := h.cell 6 (by decide)
  have p3 := h.cell 3 (by decide)
  have p9 := h.cell 9 (by decide)
  simp [pc] at p6 p3 p9
  have hbs := h.lt_size
  have H0 : Hid (Wrote b vo vo w (w.alloc (.cells #[.int .i32 ind, .int .u8 0, .bool false] 69))) := Lib.hid ((Wrote.refl b vo w).alloc _)
  have Hbx : Hid ((w.alloc (.cells #[.int .i32 ind, .int .u8 0, .bool false] 69)).heap[w.heap.size]? = some (.cells #[.int .i32 ind, .int .u8 0, .bool false] 69)) := Lib.hid (heap_alloc_at w _ _ rfl)
  have hrow := h.addr
  have Hrow := Lib.hid hrow
  have hle := h.le
  have Hp0 : Hid (Pr B b false false vo out (w.alloc (.cells #[.int .i32 ind, .int .u8 0, .bool false] 69))) := Lib.hid (h.wrote ((Chg.refl Nowhere w).alloc _))
  have hkeep : ∀ a v, ok a.block → w.cell? a = some v → (w.alloc (.cells #[.int .i32 ind, .int .u8 0, .bool false] 69)).cell? a = some v := fun a v ha hc => H0.out.cell ⟨(hok.out _ ha).1, fun hh => by have := (Hrow.out _ hh).1; have := (hok.out _ ha).2; omega⟩ hc
  have HIH := Lib.hid (IH _ hkeep)
  have hfl := Mem.ws hM (by rw [HN.out]; exact hNp)
  simp at hfl
  have hgs := (hok.out _ htb).2
  have hgs2 : tb < w.heap.size := by omega
  have HM0 : Hid (Mem (w.alloc (.cells #[.int .i32 ind, .int .u8 0, .bool false] 69)) ok ts tb 0) := Lib.hid (Mem.keep hkeep (fun _ h => h) ts tb 0 htb hM)
  have b01 : bits .and .u8 0 1 = 0 := by decide
  have hNi : (0 : Int) < (N : Int) := by omega
  clear hM
  clear h hrow hkeep IH
  go_enter Tryf.func13, Tryf.ntmps13
  go_wp2_with fail
  refine loopT B b N cap w.heap.size (some ⟨tb, 0, none⟩) false ind out (w.alloc (.cells #[.int .i32 ind, .int .u8 0, .bool false] 69)) vo ok ts hNs hok (Lib.hid fun k hk => (Hrow.out k hk).1) (Lib.hid ⟨_, Hbx.out⟩) (by omega) (Lib.hid fun hh => by have := (Hrow.out _ hh).2; omega) ho HIH.out _ _ ?_ _ ?_
  · exact ⟨0, 0, false, ts, [], rfl, rfl, rfl, rfl, rfl, rfl, rfl, rfl, rfl, rfl, rfl, by rw [HN.out]; omega, ⟨by omega, by omega⟩, .inr ⟨tb, rfl, htb, HM0.out⟩, rfl, rfl, Nat.le_refl _, vo, by simpa only [List.append_nil] using Hp0.out, Wrote.refl b vo _⟩
  rintro ay wy ⟨hd, hsz, h0, h7, vy, hpy, hwy⟩
  obtain ⟨fv, hfv⟩ : ∃ fv, fv = fin false ts := ⟨_, rfl⟩
  rw [← hfv] at h7
  obtain ⟨x, rfl⟩ := lit07 ay hd hsz h0 h7
  have Hpy := Lib.hid hpy
  have Hwy := Lib.hid hwy
  have Hfv := Lib.hid hfv
  clear hpy hwy hd hsz h0 h7 hfv
  have hlb : (out ++ body false ts).length ≤ 100000000 := by have := ho; unfold full at this; rw [List.length_append] at this ⊢; omega
  cases fv
  · go_wp2_with fail
    go_ret
    exact ⟨by rw [← Hfv.out]; rfl, vy, by unfold full; rw [← Hfv.out]; simpa [sp] using Hpy.out, H0.out.trans Hwy.out⟩
  · go_wp2_with fail
    refine (print_w B b false false vy (out ++ body false ts) ⟨#[32]⟩ _ Hpy.out (by omega) (by decide)).mono ?_
    rintro ez wz ⟨rfl, vz, hpz, hwz⟩
    have Hpz := Lib.hid hpz
    have Hwz := Lib.hid hwz
    clear hpz hwz
    go_wp2_with fail
    go_ret
    exact ⟨by rw [← Hfv.out]; rfl, vz, by unfold full; rw [← Hfv.out]; simpa [sp] using Hpz.out, H0.out.trans (Hwy.out.trans Hwz.out)⟩
theorem tree13 (B b : Nat) (m : Bool) (ind : Int) (ok : Nat → Prop) (hok : Hid (∀ k, ok k → k ≠ b ∧ k < B)) (M : Nat) (hM : M ≤ 131073) :
    ∀ (n : Nat) (ts : Ts), sz ts ≤ n → sz ts ≤ M → ∀ (dec : Bool), (m = false → dec = false) → ∀ (kvo : Option Addr) (ck : Nat) (out : List UInt8) (w : World) (vo : Option Addr), Row w ok kvo ts → Pr B b m false vo out w → out.length + (full ts).length ≤ 99999000 →
      Calls Tryf.prog 13 #[.pointer (some ⟨b, 0, none⟩), .slice kvo ts.len ck, .agg #[.int .i32 ind, .int .u8 0, .bool dec]] w (WrtT B b m vo (out ++ full ts) (fin false ts) w) := by
  have hnil : ∀ ts : Ts, ts.len = 0 → ts = .nil := by intro ts h; cases ts <;> simp [Ts.len] at h ⊢
  have hz : ∀ ts : Ts, sz ts = 0 → ts = .nil := by intro ts h; exact hnil ts (by have := len_sz ts; omega)
  have hE : ∀ (dec : Bool), (m = false → dec = false) → ∀ (kvo : Option Addr) (ck : Nat) (out : List UInt8) (w : World) (vo : Option Addr), Pr B b m false vo out w → out.length + (full .nil).length ≤ 99999000 →
      Calls Tryf.prog 13 #[.pointer (some ⟨b, 0, none⟩), .slice kvo 0 ck, .agg #[.int .i32 ind, .int .u8 0, .bool dec]] w (WrtT B b m vo (out ++ full .nil) (fin false .nil) w) := by
    intro dec hd kvo ck out w vo hp ho
    cases m
    · rw [hd rfl]
      exact treeFlatE B b ck kvo ind out w vo ok .nil hp rfl hok ho (fun W0 _ kd hk => absurd hk (by simp [sz]))
    · exact treeMinE B b ck kvo dec ind out w vo ok .nil hp rfl hok ho (fun W0 _ kd hk => absurd hk (by simp [sz]))
  intro n
  induction n with
  | zero =>
    intro ts h0 hM2 dec hd kvo ck out w vo hrow hp ho
    obtain rfl := hz ts (by omega)
    exact hE dec hd kvo ck out w vo hp ho
  | succ n ih =>
    intro ts h0 hM2 dec hd kvo ck out w vo hrow hp ho
    have hIH : ∀ (W0 : World), (∀ a v, ok a.block → w.cell? a = some v → W0.cell? a = some v) → ∀ kd, sz kd < sz ts → Hid (∀ kvo ck, Row W0 ok kvo kd → Child B b m ind W0 ok kvo ck kd) := by
      intro W0 _ kd hkd
      refine Lib.hid fun kvo ck hr out w v hp hk2 hl => ?_
      refine ih kd (by omega) (by omega) false (fun _ => rfl) kvo ck out w v ?_ hp hl
      rcases hr with hr | ⟨g, e1, e2, e3⟩
      · exact .inl hr
      · exact .inr ⟨g, e1, e2, Mem.keep hk2 (fun _ h => h) kd g 0 e2 e3⟩
    by_cases hl0 : ts.len = 0
    · obtain rfl := hnil ts hl0
      exact hE dec hd kvo ck out w vo hp ho
    · rcases hrow with hr | ⟨g, rfl, hg, hMm⟩
      · subst hr; exact absurd rfl hl0
      · have hln := len_sz ts
        cases m
        · rw [hd rfl]
          exact treeFlatS B b g ts.len ck ind out w vo ok ts hp hg hMm (Lib.hid rfl) (by omega) (by omega) hok ho hIH
        · exact treeMinS B b g ts.len ck dec ind out w vo ok ts hp hg hMm (Lib.hid rfl) (by omega) (by omega) hok ho hIH
end Go.Proofs.YtbbanpfkicdnmaaFmt
