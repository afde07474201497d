/-
  Proved: printNonNegativeFloat's last piece: the hexadecimal form and the printing. No statement of the seat stands here.
-/
import Derived.Test.YtmlgfhdjdmfdbaaDoorNi
namespace Go.Proofs.YtmlgfhdjdmfdbaaDoor
open Go.RowKit Go.ChangeAt
set_option linter.unusedSimpArgs false
set_option linter.unusedVariables false
set_option maxRecDepth 1000000
def TailOut (b : Nat) (mn : Bool) (n : Nat) (w : World) (e : Ending) (w' : World) : Prop := e = .returned (.tuple #[]) ∧ ∃ m, ((mn = false → m = n) ∧ m ≤ n) ∧ Pj b m w' ∧ Chg (fun k => k = b) w w'
set_option maxHeartbeats 16000000 in
theorem tail_plain (b f : Nat) (l : List UInt8) (hl : l.length ≤ 1000) (w : World) (hPl : b < w.heap.size) (g off cap : Nat) (wx : World) (HR : Hid (Row w.heap.size g off cap l wx)) (HP : Hid (Pn b false wx)) (HC : Hid (Chg (fun k => k = b) w wx)) (x : Nat → Value) :
    Code.wp Tryd.prog R99 (bodyPost Tryd.prog Tryd.f8 (TailOut b false l.length w)) ⟨#[.pointer (some ⟨b, 0, none⟩), .float .f64 f, x 2, x 3, x 4, .slice (some ⟨g, off, none⟩) l.length cap, x 6, x 7, x 8, x 9, x 10, x 11, x 12, x 13, x 14, x 15, x 16, x 17, x 18, x 19, x 20, x 21, x 22, x 23, x 24, x 25, x 26, x 27, x 28, x 29, x 30, x 31, x 32, x 33, x 34, x 35, x 36, x 37, x 38, x 39, x 40, x 41, x 42, x 43, x 44, x 45, x 46, x 47, x 48, x 49, x 50, x 51, x 52, x 53, x 54, x 55, x 56, x 57, x 58, x 59, x 60, x 61, x 62, x 63, x 64, x 65, x 66, x 67, x 68, x 69, x 70, x 71, x 72, x 73, x 74, x 75, x 76, x 77, x 78, x 79, x 80, x 81, x 82, x 83, x 84, x 85, x 86, x 87, x 88, x 89, x 90, x 91, x 92, x 93, x 94, x 95, x 96, x 97, x 98, x 99, x 100, x 101, x 102, x 103, x 104, x 105, x 106, x 107, x 108, x 109, x 110, x 111, x 112, x 113, x 114, x 115, x 116, x 117, x 118, x 119, x 120, x 121, x 122, x 123, x 124, x 125, x 126, x 127, x 128, x 129, x 130, x 131, x 132, x 133, x 134, x 135, x 136, x 137, x 138, x 139, x 140, x 141, x 142, x 143, x 144, x 145, x 146, x 147, x 148, x 149, x 150, x 151, x 152, x 153, x 154, x 155, x 156, x 157, x 158, x 159, x 160, x 161, x 162, x 163, x 164, x 165, x 166, x 167, x 168, x 169, x 170, x 171, x 172, x 173, x 174, x 175, x 176, x 177, x 178, x 179, x 180, x 181, x 182, x 183, x 184, x 185, x 186, x 187, x 188, x 189, x 190, x 191, x 192, x 193, x 194, x 195, x 196, x 197, x 198, x 199, x 200, x 201, x 202, x 203, x 204, x 205, x 206, x 207, x 208, x 209, x 210, x 211, x 212, x 213, x 214, x 215, x 216, x 217, x 218, x 219, x 220, x 221, x 222, x 223, x 224, x 225, x 226, x 227, x 228, x 229, x 230, x 231, x 232, x 233, x 234, x 235, x 236, x 237, x 238, x 239, x 240, x 241, x 242, x 243, x 244, x 245, x 246, x 247, x 248, x 249, x 250, x 251, x 252, x 253, x 254, x 255, x 256, x 257, x 258, x 259, x 260, x 261, x 262, x 263, x 264, x 265, x 266, x 267, x 268, x 269, x 270, x 271, x 272, x 273, x 274, x 275, x 276, x 277, x 278, x 279, x 280, x 281, x 282, x 283, x 284, x 285, x 286, x 287, x 288, x 289, x 290, x 291, x 292, x 293, x 294, x 295, x 296, x 297, x 298, x 299, x 300, x 301, x 302, x 303, x 304, x 305, x 306, x 307, x 308, x 309, x 310], []⟩ wx := by
  have hm := HP.out.min
  have hgl := HR.out.lt
  have hbl := HP.out.lt
  obtain ⟨mn, hmn⟩ : ∃ mn, mn = false := ⟨_, rfl⟩
  rw [← hmn] at HP
  conv => arg 2; whnf
  go_wp2_with fail
  refine (print10 b g off cap mn l rfl wx HP.out HR.out.reads (by omega)).mono ?_
  rintro ex w6 ⟨rfl, hPj, hch6⟩
  have hR6 := HR.out.kept hch6 (by have := HR.out.base; omega)
  have hC6 := HC.out.trans hch6 (fun k hk hs => hs)
  obtain ⟨cs, vo, vc, hb6, hsz6, h96⟩ := hPj
  have c9 := cell_of_heap hb6 9
  rw [h96] at c9
  have c66 : w6.cell? ⟨b, 66, none⟩ = some cs[66] := by rw [cell_of_heap hb6, Array.getElem?_eq_getElem (by omega)]
  have z66 := frozen_of_heap hb6 66
  have s6 := heap_lt hb6
  have H6 := Lib.hid (And.intro hb6 (And.intro hsz6 h96))
  have HC6 := Lib.hid hC6
  have hhas := has16 _ g off cap l rfl w6 hR6 (by omega)
  clear hR6 hC6 hch6 hb6 h96
  go_wp2_with fail
  refine hhas.mono ?_
  rintro ex w7 ⟨r, rfl, rfl⟩
  cases r
  · go_wp2_with fail
    go_end0
    exact ⟨rfl, _, ⟨fun _ => rfl, Nat.le_refl _⟩, ⟨_, vo, vc, heap_setCell H6.out.1 66 _, by simpa using H6.out.2.1, by rw [Array.getElem?_setIfInBounds_ne (by omega)]; exact H6.out.2.2⟩, Chg.setCell (S := fun k => k = b) (p := ⟨b, 66, none⟩) HC6.out (fun _ => rfl) _⟩
  · go_wp2_with fail
    go_end0
    exact ⟨rfl, _, ⟨fun _ => rfl, Nat.le_refl _⟩, ⟨cs, vo, vc, H6.out.1, H6.out.2.1, H6.out.2.2⟩, HC6.out⟩

set_option maxHeartbeats 16000000 in
theorem tail_min (b f : Nat) (l : List UInt8) (hl : l.length ≤ 1000) (w : World) (hPl : b < w.heap.size) (g off cap : Nat) (wx : World) (HR : Hid (Row w.heap.size g off cap l wx)) (HP : Hid (Pn b true wx)) (HC : Hid (Chg (fun k => k = b) w wx)) (x : Nat → Value) (h4 : ∀ w', Chg (fun k => k = b) w w' → Tab4 w') :
    Code.wp Tryd.prog R99 (bodyPost Tryd.prog Tryd.f8 (TailOut b true l.length w)) ⟨#[.pointer (some ⟨b, 0, none⟩), .float .f64 f, x 2, x 3, x 4, .slice (some ⟨g, off, none⟩) l.length cap, x 6, x 7, x 8, x 9, x 10, x 11, x 12, x 13, x 14, x 15, x 16, x 17, x 18, x 19, x 20, x 21, x 22, x 23, x 24, x 25, x 26, x 27, x 28, x 29, x 30, x 31, x 32, x 33, x 34, x 35, x 36, x 37, x 38, x 39, x 40, x 41, x 42, x 43, x 44, x 45, x 46, x 47, x 48, x 49, x 50, x 51, x 52, x 53, x 54, x 55, x 56, x 57, x 58, x 59, x 60, x 61, x 62, x 63, x 64, x 65, x 66, x 67, x 68, x 69, x 70, x 71, x 72, x 73, x 74, x 75, x 76, x 77, x 78, x 79, x 80, x 81, x 82, x 83, x 84, x 85, x 86, x 87, x 88, x 89, x 90, x 91, x 92, x 93, x 94, x 95, x 96, x 97, x 98, x 99, x 100, x 101, x 102, x 103, x 104, x 105, x 106, x 107, x 108, x 109, x 110, x 111, x 112, x 113, x 114, x 115, x 116, x 117, x 118, x 119, x 120, x 121, x 122, x 123, x 124, x 125, x 126, x 127, x 128, x 129, x 130, x 131, x 132, x 133, x 134, x 135, x 136, x 137, x 138, x 139, x 140, x 141, x 142, x 143, x 144, x 145, x 146, x 147, x 148, x 149, x 150, x 151, x 152, x 153, x 154, x 155, x 156, x 157, x 158, x 159, x 160, x 161, x 162, x 163, x 164, x 165, x 166, x 167, x 168, x 169, x 170, x 171, x 172, x 173, x 174, x 175, x 176, x 177, x 178, x 179, x 180, x 181, x 182, x 183, x 184, x 185, x 186, x 187, x 188, x 189, x 190, x 191, x 192, x 193, x 194, x 195, x 196, x 197, x 198, x 199, x 200, x 201, x 202, x 203, x 204, x 205, x 206, x 207, x 208, x 209, x 210, x 211, x 212, x 213, x 214, x 215, x 216, x 217, x 218, x 219, x 220, x 221, x 222, x 223, x 224, x 225, x 226, x 227, x 228, x 229, x 230, x 231, x 232, x 233, x 234, x 235, x 236, x 237, x 238, x 239, x 240, x 241, x 242, x 243, x 244, x 245, x 246, x 247, x 248, x 249, x 250, x 251, x 252, x 253, x 254, x 255, x 256, x 257, x 258, x 259, x 260, x 261, x 262, x 263, x 264, x 265, x 266, x 267, x 268, x 269, x 270, x 271, x 272, x 273, x 274, x 275, x 276, x 277, x 278, x 279, x 280, x 281, x 282, x 283, x 284, x 285, x 286, x 287, x 288, x 289, x 290, x 291, x 292, x 293, x 294, x 295, x 296, x 297, x 298, x 299, x 300, x 301, x 302, x 303, x 304, x 305, x 306, x 307, x 308, x 309, x 310], []⟩ wx := by
  have hm := HP.out.min
  have hgl := HR.out.lt
  have hbl := HP.out.lt
  have hcb := HR.out.capb
  obtain ⟨mn, hmn⟩ : ∃ mn, mn = true := ⟨_, rfl⟩
  rw [← hmn] at HP
  obtain ⟨n, w2, hcv, hn, hw2⟩ := conv_u64 f wx
  have hc2 : Chg Nowhere wx w2 := by rcases hw2 with rfl | rfl; exact Chg.refl _ _; exact (Chg.refl _ _).drew
  have HR2 := Lib.hid (HR.out.kept hc2 (fun h => h))
  have HP2 := Lib.hid (HP.out.kept hc2 (fun h => h))
  have HC2 := Lib.hid (HC.out.trans hc2 (fun _ _ h => h.elim))
  have hgl2 := HR2.out.lt
  have hbl2 := HP2.out.lt
  have hm2 := HP2.out.min
  rw [hmn] at hm2
  have HF := Lib.hid (fmt15 n hn w2 (h4 w2 HC2.out))
  clear hw2 hc2 h4
  conv => arg 2; whnf
  go_wp2_with fail
  all_goals first
  | (
    refine (print10 b g off cap mn l rfl wx HP.out HR.out.reads (by omega)).mono ?_
    rintro ex w6 ⟨rfl, hPj, hch6⟩
    have hR6 := HR.out.kept hch6 (by have := HR.out.base; omega)
    have hC6 := HC.out.trans hch6 (fun k hk hs => hs)
    obtain ⟨cs, vo, vc, hb6, hsz6, h96⟩ := hPj
    have c9 := cell_of_heap hb6 9
    rw [h96] at c9
    have c66 : w6.cell? ⟨b, 66, none⟩ = some cs[66] := by rw [cell_of_heap hb6, Array.getElem?_eq_getElem (by omega)]
    have z66 := frozen_of_heap hb6 66
    have s6 := heap_lt hb6
    have H6 := Lib.hid (And.intro hb6 (And.intro hsz6 h96))
    have HC6 := Lib.hid hC6
    have hhas := has16 _ g off cap l rfl w6 hR6 (by omega)
    clear hR6 hC6 hch6 hb6 h96
    go_wp2_with fail
    refine hhas.mono ?_
    rintro ex w7 ⟨r, rfl, rfl⟩
    cases r
    · go_wp2_with fail
      go_end0
      exact ⟨rfl, _, ⟨(by intro h; cases h), Nat.le_refl _⟩, ⟨_, vo, vc, heap_setCell H6.out.1 66 _, by simpa using H6.out.2.1, by rw [Array.getElem?_setIfInBounds_ne (by omega)]; exact H6.out.2.2⟩, Chg.setCell (S := fun k => k = b) (p := ⟨b, 66, none⟩) HC6.out (fun _ => rfl) _⟩
    · go_wp2_with fail
      go_end0
      exact ⟨rfl, _, ⟨(by intro h; cases h), Nat.le_refl _⟩, ⟨cs, vo, vc, H6.out.1, H6.out.2.1, H6.out.2.2⟩, HC6.out⟩)
  | (
    refine (print10 b g off cap mn l rfl w2 HP2.out HR2.out.reads (by omega)).mono ?_
    rintro ex w6 ⟨rfl, hPj, hch6⟩
    have hR6 := HR2.out.kept hch6 (by have := HR2.out.base; omega)
    have hC6 := HC2.out.trans hch6 (fun k hk hs => hs)
    obtain ⟨cs, vo, vc, hb6, hsz6, h96⟩ := hPj
    have c9 := cell_of_heap hb6 9
    rw [h96] at c9
    have c66 : w6.cell? ⟨b, 66, none⟩ = some cs[66] := by rw [cell_of_heap hb6, Array.getElem?_eq_getElem (by omega)]
    have z66 := frozen_of_heap hb6 66
    have s6 := heap_lt hb6
    have H6 := Lib.hid (And.intro hb6 (And.intro hsz6 h96))
    have HC6 := Lib.hid hC6
    have hhas := has16 _ g off cap l rfl w6 hR6 (by omega)
    clear hR6 hC6 hch6 hb6 h96
    go_wp2_with fail
    refine hhas.mono ?_
    rintro ex w7 ⟨r, rfl, rfl⟩
    cases r
    · go_wp2_with fail
      go_end0
      exact ⟨rfl, _, ⟨(by intro h; cases h), Nat.le_refl _⟩, ⟨_, vo, vc, heap_setCell H6.out.1 66 _, by simpa using H6.out.2.1, by rw [Array.getElem?_setIfInBounds_ne (by omega)]; exact H6.out.2.2⟩, Chg.setCell (S := fun k => k = b) (p := ⟨b, 66, none⟩) HC6.out (fun _ => rfl) _⟩
    · go_wp2_with fail
      go_end0
      exact ⟨rfl, _, ⟨(by intro h; cases h), Nat.le_refl _⟩, ⟨cs, vo, vc, H6.out.1, H6.out.2.1, H6.out.2.2⟩, HC6.out⟩)
  | (
    refine HF.out.mono ?_
    rintro ex w3 ⟨s, rfl, hs100, hc3⟩
    have HR3 := Lib.hid (HR2.out.kept hc3 (fun h => h))
    have HP3 := Lib.hid (HP2.out.kept hc3 (fun h => h))
    have HC3 := Lib.hid (HC2.out.trans hc3 (fun _ _ h => h.elim))
    have hgl3 := HR3.out.lt
    have hbl3 := HP3.out.lt
    clear hc3
    by_cases hlen : 2 + s.size < l.length
    · have hle : ((2 : Int) + (s.size : Int) < (l.length : Int)) = True := eq_true (by omega)
      have HLN := Lib.hid hlen
      have hcl := HR3.out.len
      have hc0 : ¬ (cap = 0) := by omega
      have hbg := HR3.out.base
      go_wp2_with (at_builtin; go_loud (first | (refine wpList_row_append rfl (.tmp 292) (.tmp 293) rfl w.heap.size g off cap 0 [] rfl rfl ((by have := HR3.out.pre 0 (by omega); simpa using this : Row w.heap.size g off cap [] w3).kept ((Chg.refl Nowhere w3).alloc _) (fun h => h)) ⟨w3.heap.size, 0, none⟩ 2 2 [48, 120] rfl rfl (fun j u hj => cells_new w3 _ 5 _ rfl j u hj) (by simp) (by simp; omega) ?_; intro g4 off4 cap4 w4 hR4 hch4 hor4; have HR4 := Lib.hid hR4; have HC4 := Lib.hid hch4; have gl4 := hR4.lt; clear hR4 hch4 hor4) | (refine wpList_row_append_str rfl (.tmp 294) (.tmp 295) rfl w.heap.size g4 off4 cap4 _ ([] ++ [48, 120]) rfl rfl HR4.out s rfl (by simp; omega) (by have := HR4.out.base; omega) ?_; intro g5 off5 cap5 w5 hR5 hch5; have HR5 := Lib.hid hR5; have HC5 := Lib.hid hch5; have gl5 := hR5.lt; clear hR5 hch5)))
      have hP5 := (HP3.out.kept (((Chg.refl (fun k => k = g) w3).alloc _).trans HC4.out (fun _ _ h => h)) (by omega)).kept HC5.out (fun e => by have := HR4.out.base; omega)
      have hC5 := (HC3.out.trans (((Chg.refl (fun k => k = g) w3).alloc _).trans HC4.out (fun _ _ h => h)) (fun k hk hs => by omega)).trans HC5.out (fun k hk hs => by have := HR4.out.base; omega)
      have HP5 := Lib.hid hP5
      have HCC5 := Lib.hid hC5
      clear hP5 hC5
      have HL5 : Hid (2 + s.size = ([] ++ [48, 120] ++ s.data.toList).length) := Lib.hid (by simp; omega)
      refine (print10 b g5 off5 cap5 mn ([] ++ [48, 120] ++ s.data.toList) HL5.out w5 HP5.out HR5.out.reads (by omega)).mono ?_
      rintro ex w6 ⟨rfl, hPj, hch6⟩
      have hR6 := HR5.out.kept hch6 (by have := HR5.out.base; omega)
      have hC6 := HCC5.out.trans hch6 (fun k hk hs => hs)
      obtain ⟨cs, vo, vc, hb6, hsz6, h96⟩ := hPj
      have c9 := cell_of_heap hb6 9
      rw [h96] at c9
      have c66 : w6.cell? ⟨b, 66, none⟩ = some cs[66] := by rw [cell_of_heap hb6, Array.getElem?_eq_getElem (by omega)]
      have z66 := frozen_of_heap hb6 66
      have s6 := heap_lt hb6
      have H6 := Lib.hid (And.intro hb6 (And.intro hsz6 h96))
      have HC6 := Lib.hid hC6
      have hhas := has16 _ g5 off5 cap5 ([] ++ [48, 120] ++ s.data.toList) HL5.out w6 hR6 (by omega)
      clear hR6 hC6 hch6 hb6 h96
      go_wp2_with fail
      refine hhas.mono ?_
      rintro ex w7 ⟨r, rfl, rfl⟩
      cases r
      · go_wp2_with fail
        go_end0
        exact ⟨rfl, 2 + s.size, ⟨(by intro h; cases h), by have h8 := HLN.out; have h9 := HL5.out; first | omega | (simp only [List.length_append, List.length_cons, List.length_nil] at h9 ⊢; omega)⟩, ⟨_, vo, vc, heap_setCell H6.out.1 66 _, by simpa using H6.out.2.1, by rw [Array.getElem?_setIfInBounds_ne (by omega)]; exact H6.out.2.2⟩, Chg.setCell (S := fun k => k = b) (p := ⟨b, 66, none⟩) HC6.out (fun _ => rfl) _⟩
      · go_wp2_with fail
        go_end0
        exact ⟨rfl, 2 + s.size, ⟨(by intro h; cases h), by have h8 := HLN.out; have h9 := HL5.out; first | omega | (simp only [List.length_append, List.length_cons, List.length_nil] at h9 ⊢; omega)⟩, ⟨cs, vo, vc, H6.out.1, H6.out.2.1, H6.out.2.2⟩, HC6.out⟩
    · have hle : ¬ ((2 : Int) + (s.size : Int) < (l.length : Int)) := by omega
      clear hlen
      go_wp2_with fail
      refine (print10 b g off cap mn l rfl w3 HP3.out HR3.out.reads (by omega)).mono ?_
      rintro ex w6 ⟨rfl, hPj, hch6⟩
      have hR6 := HR3.out.kept hch6 (by have := HR3.out.base; omega)
      have hC6 := HC3.out.trans hch6 (fun k hk hs => hs)
      obtain ⟨cs, vo, vc, hb6, hsz6, h96⟩ := hPj
      have c9 := cell_of_heap hb6 9
      rw [h96] at c9
      have c66 : w6.cell? ⟨b, 66, none⟩ = some cs[66] := by rw [cell_of_heap hb6, Array.getElem?_eq_getElem (by omega)]
      have z66 := frozen_of_heap hb6 66
      have s6 := heap_lt hb6
      have H6 := Lib.hid (And.intro hb6 (And.intro hsz6 h96))
      have HC6 := Lib.hid hC6
      have hhas := has16 _ g off cap l rfl w6 hR6 (by omega)
      clear hR6 hC6 hch6 hb6 h96
      go_wp2_with fail
      refine hhas.mono ?_
      rintro ex w7 ⟨r, rfl, rfl⟩
      cases r
      · go_wp2_with fail
        go_end0
        exact ⟨rfl, _, ⟨(by intro h; cases h), Nat.le_refl _⟩, ⟨_, vo, vc, heap_setCell H6.out.1 66 _, by simpa using H6.out.2.1, by rw [Array.getElem?_setIfInBounds_ne (by omega)]; exact H6.out.2.2⟩, Chg.setCell (S := fun k => k = b) (p := ⟨b, 66, none⟩) HC6.out (fun _ => rfl) _⟩
      · go_wp2_with fail
        go_end0
        exact ⟨rfl, _, ⟨(by intro h; cases h), Nat.le_refl _⟩, ⟨cs, vo, vc, H6.out.1, H6.out.2.1, H6.out.2.2⟩, HC6.out⟩)
end Go.Proofs.YtmlgfhdjdmfdbaaDoor
