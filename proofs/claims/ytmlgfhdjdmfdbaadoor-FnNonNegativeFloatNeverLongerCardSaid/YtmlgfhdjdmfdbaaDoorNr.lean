/-
  Proved: printNonNegativeFloat where FormatFloat is asked, whole. No statement of the seat stands here.
-/
import Derived.Test.YtmlgfhdjdmfdbaaDoorNq
import Derived.Test.YtmlgfhdjdmfdbaaDoorNc
import Derived.Laws.FloatArith
import Derived.Deep.CutRange
import Derived.Deep.DeepCutAuto
namespace Go.Proofs.YtmlgfhdjdmfdbaaDoor
open Go.RowKit Go.ChangeAt
set_option linter.unusedSimpArgs false
set_option linter.unusedVariables false
set_option maxRecDepth 1000000
theorem litp52 (a : Act) (hd : a.defers = []) (hs : a.tmps.size = 311) {v0 v1 v5 v6 v52 : Value} (h0 : a.tmps[0]? = some v0) (h1 : a.tmps[1]? = some v1) (h5 : a.tmps[5]? = some v5) (h6 : a.tmps[6]? = some v6) (h52 : a.tmps[52]? = some v52) :
    ∃ x : Nat → Value, a = ⟨#[v0, v1, x 2, x 3, x 4, v5, v6, x 7, x 8, x 9, x 10, x 11, x 12, x 13, x 14, x 15, x 16, x 17, x 18, x 19, x 20, x 21, x 22, x 23, x 24, x 25, x 26, x 27, x 28, x 29, x 30, x 31, x 32, x 33, x 34, x 35, x 36, x 37, x 38, x 39, x 40, x 41, x 42, x 43, x 44, x 45, x 46, x 47, x 48, x 49, x 50, x 51, v52, x 53, x 54, x 55, x 56, x 57, x 58, x 59, x 60, x 61, x 62, x 63, x 64, x 65, x 66, x 67, x 68, x 69, x 70, x 71, x 72, x 73, x 74, x 75, x 76, x 77, x 78, x 79, x 80, x 81, x 82, x 83, x 84, x 85, x 86, x 87, x 88, x 89, x 90, x 91, x 92, x 93, x 94, x 95, x 96, x 97, x 98, x 99, x 100, x 101, x 102, x 103, x 104, x 105, x 106, x 107, x 108, x 109, x 110, x 111, x 112, x 113, x 114, x 115, x 116, x 117, x 118, x 119, x 120, x 121, x 122, x 123, x 124, x 125, x 126, x 127, x 128, x 129, x 130, x 131, x 132, x 133, x 134, x 135, x 136, x 137, x 138, x 139, x 140, x 141, x 142, x 143, x 144, x 145, x 146, x 147, x 148, x 149, x 150, x 151, x 152, x 153, x 154, x 155, x 156, x 157, x 158, x 159, x 160, x 161, x 162, x 163, x 164, x 165, x 166, x 167, x 168, x 169, x 170, x 171, x 172, x 173, x 174, x 175, x 176, x 177, x 178, x 179, x 180, x 181, x 182, x 183, x 184, x 185, x 186, x 187, x 188, x 189, x 190, x 191, x 192, x 193, x 194, x 195, x 196, x 197, x 198, x 199, x 200, x 201, x 202, x 203, x 204, x 205, x 206, x 207, x 208, x 209, x 210, x 211, x 212, x 213, x 214, x 215, x 216, x 217, x 218, x 219, x 220, x 221, x 222, x 223, x 224, x 225, x 226, x 227, x 228, x 229, x 230, x 231, x 232, x 233, x 234, x 235, x 236, x 237, x 238, x 239, x 240, x 241, x 242, x 243, x 244, x 245, x 246, x 247, x 248, x 249, x 250, x 251, x 252, x 253, x 254, x 255, x 256, x 257, x 258, x 259, x 260, x 261, x 262, x 263, x 264, x 265, x 266, x 267, x 268, x 269, x 270, x 271, x 272, x 273, x 274, x 275, x 276, x 277, x 278, x 279, x 280, x 281, x 282, x 283, x 284, x 285, x 286, x 287, x 288, x 289, x 290, x 291, x 292, x 293, x 294, x 295, x 296, x 297, x 298, x 299, x 300, x 301, x 302, x 303, x 304, x 305, x 306, x 307, x 308, x 309, x 310], []⟩ := by
  obtain ⟨tm, df⟩ := a
  simp only at hd hs h0 h1 h5 h6 h52
  subst hd
  have e0 := get_bang h0
  have e1 := get_bang h1
  have e5 := get_bang h5
  have e6 := get_bang h6
  have e52 := get_bang h52
  refine ⟨fun i => tm[i]!, ?_⟩
  have hl := (list_lit tm 311 hs).trans (range_lit fun i => tm[i]!)
  clear hs h0 h1 h5 h6 h52
  subst e0 e1 e5 e6 e52
  exact congrArg (fun t => (⟨t, []⟩ : Act)) hl
theorem cond52' (b f : Nat) (mn : Bool) (T r : List UInt8) (hTl : T.length ≤ 1000) (HS : Hid (Simp T r)) (w : World) (hPl : b < w.heap.size) (g cap : Nat) (w3 : World) (HR0 : Hid (Row w.heap.size g 0 cap T w3)) (hw1 : w.heap.size ≤ g)
    (Hst : Hid (Stands b mn w T (.slice (some ⟨g, 0, none⟩) T.length cap) w3)) (k : Int) (hk : LastIs T 101 k) (K0 : Act → World → Prop) (Post : Ending → World → Prop) (a : Act) (hd : a.defers = []) (hs : a.tmps.size = 311) (h0 : a.tmps[0]? = some (.pointer (some ⟨b, 0, none⟩))) (h1 : a.tmps[1]? = some (.float .f64 f))
    (h5 : a.tmps[5]? = some (.slice (some ⟨g, 0, none⟩) T.length cap)) (h6 : a.tmps[6]? = some (.int .i64 k)) (h52 : a.tmps[52]? = some (.bool (k != -1))) (hok : ∀ a' w', Keeps b f mn w r a' w' → K0 a' w') :
    Code.wp Tryd.prog C52 (Exit.then K0 (bodyPost Tryd.prog Tryd.f8 Post)) a w3 := by
  obtain ⟨x, rfl⟩ := litp52 a hd hs h0 h1 h5 h6 h52
  exact cond52 b f mn T r hTl HS w hPl g cap w3 HR0 hw1 Hst k hk x K0 Post hok
/-- Where FormatFloat is asked: the number is not below 1000, or it is not whole. -/
def Asks (f : Nat) : Prop := (FloatKind.f64.format.order f 4652007308841189376 == some Ordering.lt) = false ∨ ((FloatKind.f64.format.order f 4652007308841189376 == some Ordering.lt) = true ∧ ∃ n, floatToIntVal .f64 f .i64 = some n ∧ (FloatKind.f64.format.order f (floatOfInt .f64 n) == some Ordering.eq) = false)
set_option maxHeartbeats 16000000 in
theorem big8 (b f : Nat) (mn : Bool) (T r : List UInt8) (hTl : T.length ≤ 1000) (hrl : r.length ≤ 1000) (hS : Simp T r) (N2 : Nat) (hN2 : N2 ≤ 1000) (HF : Form r mn N2) (w : World) (hP : Pn b mn w) (h4 : ∀ w', Chg (fun k => k = b) w w' → Tab4 w')
    (hff : Calls Tryd.prog 7 #[.float .f64 f, .int .u8 103, .int .i64 (-1), .int .i64 64] w (StrOut ⟨⟨T⟩⟩ w)) (hent : Asks f) :
    Calls Tryd.prog 8 #[.pointer (some ⟨b, 0, none⟩), .float .f64 f] w (TailOut b mn N2 w) := by
  have hPl := hP.lt
  have HP := Lib.hid hP
  have H4 := Lib.hid h4
  have HFF := Lib.hid HF
  have HE := Lib.hid hent
  have hk : ∃ k, LastIs T 101 k := by
    rcases hS with ⟨h, _⟩ | ⟨pre, es, neg, z, rfl, _, _, h⟩
    · exact ⟨_, last_none h⟩
    · exact ⟨_, mkE_last pre es neg z h⟩
  obtain ⟨k, hk⟩ := hk
  have HS := Lib.hid hS
  have Hk := Lib.hid hk
  clear hS hk HF hent h4 hP
  go_enter Tryd.func8, Tryd.ntmps8
  rcases HE.out with he | ⟨he, n, he2, he3⟩
  rotate_left
  have hcv9 : (convert 22 2 (.float .f64 f)).run Tryd.prog w = .ok (.int .i64 n) w := run_convert_float_int w _ _ .f64 .i64 f n (by rw [Tryd.underlying22]; rfl) Tryd.underlying2 he2
  rotate_left
  all_goals
    go_wp2_with fail
    refine hff.mono ?_
    rintro ex w1 ⟨rfl, hc⟩
    obtain ⟨cap, w2, hcv, hrow, hch2⟩ := conv_row T (by omega) w1
    have hc2 := hc.trans hch2 (fun _ _ h => h)
    have hst : Stands b mn w T (.slice (some ⟨w1.heap.size, 0, none⟩) T.length cap) w2 := ⟨_, _, _, rfl, ⟨hc.size, hrow.blk, hrow.len, hrow.capb⟩, HP.out.kept hc2 (fun h => h), hc2.mono (fun _ _ h => h.elim)⟩
    have hR0 : Row w.heap.size w1.heap.size 0 cap T w2 := ⟨hc.size, hrow.blk, hrow.len, hrow.capb⟩
    have hw1 := hc.size
    have Hst := Lib.hid hst
    have HR0 := Lib.hid hR0
    clear hst hrow hR0 hc hch2 hc2
    go_wp2_with fail
    refine (last12 _ _ _ _ T w2 HR0.out (by omega) 101 k Hk.out).mono ?_
    rintro ex w3 ⟨rfl, rfl⟩
    go_upto_if 52 with fail
    refine cond52' b f mn T r hTl HS w hPl _ cap w3 HR0 hw1 Hst k Hk.out _ _ _ rfl rfl rfl rfl rfl rfl rfl (fun a' w' hkk => ?_)
    apply_assumption
    exact mid8 b f mn r hrl w hPl H4.out N2 hN2 HFF a' w' hkk
end Go.Proofs.YtmlgfhdjdmfdbaaDoor
