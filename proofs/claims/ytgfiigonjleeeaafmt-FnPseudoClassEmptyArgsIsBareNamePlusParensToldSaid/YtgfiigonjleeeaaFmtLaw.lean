/-
  Proved: the walk of FnPseudoClassCaseTable: it answers true. The frame and the card stand in a later text.
-/
import Derived.Test.YtgfiigonjleeeaaFmtTail
namespace Go.Proofs.YtgfiigonjleeeaaFmt
open Go.RowKit Go.ChangeAt
set_option linter.unusedSimpArgs false
set_option linter.unusedVariables false
set_option maxRecDepth 100000
def TrueOut (w : World) (e : Ending) (w' : World) : Prop := e = .returned (.bool true) ∧ Chg Nowhere w w'
theorem Chg.drewN' {S : Nat → Prop} {w w' : World} (h : Chg S w w') (q : Nat) : Chg S w (w'.drewN q) := h.drewN q
theorem reads_own {w : World} {B : Nat} {vo : Option Addr} {vc : Nat} {pre : List UInt8} (h : w.ownsRow B 5 1 (.slice vo pre.length vc) pre.length (Lib.byteCells pre)) : Reads w vo pre.length (byteAt pre) := by
  rcases ownsRow_addr h with ⟨rfl, h2⟩ | ⟨g, rfl, _, _⟩
  · exact .inl h2.1
  · refine .inr ⟨g, 0, rfl, fun i hi => ?_⟩
    have := h.cells (g := g) rfl i (byteAt pre i) (by simp [Lib.byteCells, byteAt, List.getD, hi])
    rw [add_cell] at this
    exact this
theorem own_nil {w : World} {B n : Nat} {vo : Option Addr} {vc : Nat} {xs : List Value} (h : w.ownsRow B 5 1 (.slice vo n vc) n xs) : vo = none → n = 0 := by
  rintro rfl
  rcases ownsRow_addr h with ⟨_, h2⟩ | ⟨g, h3, _⟩
  · exact h2.1
  · cases h3
/-- What b3Tail wants of a row that is not empty. -/
theorem own_some {w : World} {B : Nat} {vo : Option Addr} {vc : Nat} {l : List UInt8} (h : w.ownsRow B 5 1 (.slice vo l.length vc) l.length (Lib.byteCells l)) (hl : 0 < l.length) :
    ∃ g, vo = some ⟨g, 0, none⟩ ∧ (∀ i, i < l.length → w.cell? ⟨g, i, none⟩ = some (byteAt l i)) ∧ l.length ≤ vc ∧ vc ≤ 9223372036854775807 := by
  have hr := reads_own h
  rcases h.2 with ⟨h1, h2⟩ | ⟨g, cap, cur, h1, _, _, h4, h5, _⟩
  · omega
  · injection h1 with e1 e2 e3
    subst e1 e3
    refine ⟨g, rfl, fun i hi => ?_, h4, by unfold maxLen at h5; omega⟩
    rcases hr with h0 | ⟨g2, o2, e, h6⟩
    · omega
    · injection e with e
      injection e with e1 e2
      subst e1 e2
      simpa using h6 i hi
theorem want00 (nm ag : ByteArray) : (⟨(colons false ++ nm.data.toList).toArray⟩ : ByteArray) = ⟨#[58]⟩ ++ nm := by
  apply ByteArray.ext
  simp only [ByteArray.data_append]
  simp [colons]
set_option maxHeartbeats 8000000 in
theorem law4_00 (a : Option Addr) (c : Nat) (pre : List UInt8) (nm ag : ByteArray) (mw m asc : Bool) (w : World) (hnil : a = none → pre.length = 0) (hR : Reads w a pre.length (byteAt pre)) :
    Calls Tryf.prog 4 #[.slice a pre.length c, .string nm, .bool false, .int .u8 0, .string ag, .bool mw, .bool m, .bool asc] w (TrueOut w) := by
  have HR := Lib.hid hR
  clear hR
  go_enter Tryf.func4, Tryf.ntmps4
  go_wp2_with fail
  refine (zb12 a pre.length c nm ag _ _ _ _ _ w).mono ?_
  rintro ex w1 ⟨r, rfl, rfl, hb⟩
  cases r
  · go_wp2_with fail
    go_ret
    exact ⟨rfl, Chg.refl _ _⟩
  replace hb := hb rfl
  have x1 : ¬ (1048576 : Int) < (pre.length : Int) := by omega
  have x2 : ¬ (1048576 : Int) < (nm.size : Int) := by omega
  have x3 : ¬ (1048576 : Int) < (ag.size : Int) := by omega
  have x4 : ¬ (1048576 : Int) < (pre.length : Int) + (nm.size : Int) + (ag.size : Int) := by omega
  go_wp2_with fail
  refine (plain13 nm (by omega) w).mono ?_
  rintro ex w1 ⟨r, rfl, rfl, hpl⟩
  cases r
  · clear hpl
    go_wp2_with fail
    go_ret
    exact ⟨rfl, Chg.refl _ _⟩
  have Hpl := Lib.hid (hpl rfl)
  clear hpl
  go_wp2_with fail
  refine (clone14 a c pre w hnil (by omega) HR.out).mono ?_
  rintro ex w2 ⟨vo1, vc1, rfl, hown1, hc1⟩
  have Hr1 := Lib.hid (reads_own hown1)
  have Ho1 := Lib.hid hown1
  have Hc1 := Lib.hid hc1
  clear hown1 hc1
  go_wp2_with fail
  refine (ws10 mw w2).mono ?_
  rintro ex w1 ⟨⟨wsv, rfl⟩, rfl⟩
  go_wp2_with fail
  refine (clone14 vo1 vc1 pre w2 (own_nil Ho1.out) (by omega) Hr1.out).mono ?_
  rintro ex w3 ⟨vo2, vc2, rfl, hown2, hc2⟩
  have Ho2 := Lib.hid hown2
  have Hc2 := Lib.hid hc2
  clear hown2 hc2
  go_wp2_with fail
  refine (new6 m asc vo2 pre.length vc2 w3).mono ?_
  rintro ex w4 ⟨rfl, hw4⟩
  have hc34 : Chg Nowhere w3 w4 := by subst hw4; exact (Chg.refl _ _).alloc _
  have hp : Pr w2.heap.size w3.heap.size m asc vo2 pre w4 := by
    subst hw4
    exact ⟨Nat.le_trans Hc2.out.size (by simp), fun hh => by have := (inRow_own Ho2.out _ hh).2; omega, vc2, heap_alloc_at w3 _ _ rfl, Ho2.out.alloc _⟩
  clear hw4
  have hb4 := hp.lt_size
  go_wp2_with fail
  refine (no7 w2.heap.size w3.heap.size m asc false pre nm _ vo2 _ hp Hpl.out (by omega) (by omega)).mono ?_
  rintro ex w5 ⟨rfl, vo3, hp3, hw3⟩
  have hp5 : Pr w2.heap.size w3.heap.size m asc vo3 (pre ++ (colons false ++ nm.data.toList)) w5 := by simpa only [List.append_assoc] using hp3
  have hch : Chg Nowhere w2 w5 := (Hc2.out.trans hc34 (fun _ _ h => h)).trans hw3.chg (by
    intro k hk hs
    have h23 := Hc2.out.size
    rcases hs with rfl | hs
    · omega
    · have := (inRow_own Ho2.out _ hs).1; omega)
  obtain ⟨vc3, hrow, hown3⟩ := hp5.row
  have hc15 := cell_of_heap hrow 15
  simp only [pc, List.getElem?_toArray, List.getElem?_cons_succ, List.getElem?_cons_zero] at hc15
  have hrl : 0 < (colons false ++ nm.data.toList).length := by simp [colons]
  have hnl : nm.data.toList.length = nm.size := by rw [Array.length_toList]; rfl
  have hal : ag.data.toList.length = ag.size := by rw [Array.length_toList]; rfl
  have hrb : (colons false ++ nm.data.toList).length ≤ 2097160 := by
    simp only [colons, List.length_append, List.length_cons, List.length_nil, if_true, if_false, Bool.false_eq_true]
    omega
  generalize hre : (colons false ++ nm.data.toList) = rest at hp5 hrow hown3 hc15 hrl hrb
  have hwant : (⟨rest.toArray⟩ : ByteArray) = ⟨#[58]⟩ ++ nm := by rw [← hre]; exact want00 nm ag
  rw [List.length_append] at hc15 hown3
  obtain ⟨g1, rfl, hcells, hvc, hvm⟩ := own_some (l := pre ++ rest) (by rw [List.length_append]; exact hown3) (by rw [List.length_append]; omega)
  rw [List.length_append] at hcells hvc
  have Hcl := Lib.hid hcells
  have Hch := Lib.hid hch
  have Hwant := Lib.hid hwant
  have Hr5 : Hid (Reads w5 vo1 pre.length (byteAt pre)) := Lib.hid (Hr1.out.kept hch (fun _ _ _ h => h))
  clear hp hp3 hw3 hp5 hch hrow hown3 hcells hwant hre hc34
  go_wp2_with fail
  refine (css11 w3.heap.size _ w5 hc15).mono ?_
  rintro ex w6 ⟨rfl, rfl⟩
  go_wp2_with fail
  refine (tail16 g1 vc3 vo1 vc1 pre rest w5 (by omega) Hcl.out hrl hvc hvm Hr5.out).mono ?_
  rintro ex w6 ⟨rfl, q, rfl⟩
  rw [Hwant.out]
  go_wp2_with fail
  go_ret
  exact ⟨rfl, (Hc1.out.trans Hch.out (fun _ _ h => h)).drewN q⟩
theorem want01 (nm ag : ByteArray) : (⟨(colons false ++ (nm.data.toList ++ ([40] ++ [41]))).toArray⟩ : ByteArray) = ⟨#[58]⟩ ++ nm ++ ⟨#[40, 41]⟩ := by
  apply ByteArray.ext
  simp only [ByteArray.data_append]
  simp [colons]
set_option maxHeartbeats 8000000 in
theorem law4_01 (a : Option Addr) (c : Nat) (pre : List UInt8) (nm ag : ByteArray) (mw m asc : Bool) (w : World) (hnil : a = none → pre.length = 0) (hR : Reads w a pre.length (byteAt pre)) :
    Calls Tryf.prog 4 #[.slice a pre.length c, .string nm, .bool false, .int .u8 1, .string ag, .bool mw, .bool m, .bool asc] w (TrueOut w) := by
  have HR := Lib.hid hR
  clear hR
  go_enter Tryf.func4, Tryf.ntmps4
  go_wp2_with fail
  refine (zb12 a pre.length c nm ag _ _ _ _ _ w).mono ?_
  rintro ex w1 ⟨r, rfl, rfl, hb⟩
  cases r
  · go_wp2_with fail
    go_ret
    exact ⟨rfl, Chg.refl _ _⟩
  replace hb := hb rfl
  have x1 : ¬ (1048576 : Int) < (pre.length : Int) := by omega
  have x2 : ¬ (1048576 : Int) < (nm.size : Int) := by omega
  have x3 : ¬ (1048576 : Int) < (ag.size : Int) := by omega
  have x4 : ¬ (1048576 : Int) < (pre.length : Int) + (nm.size : Int) + (ag.size : Int) := by omega
  go_wp2_with fail
  refine (plain13 nm (by omega) w).mono ?_
  rintro ex w1 ⟨r, rfl, rfl, hpl⟩
  cases r
  · clear hpl
    go_wp2_with fail
    go_ret
    exact ⟨rfl, Chg.refl _ _⟩
  have Hpl := Lib.hid (hpl rfl)
  clear hpl
  go_wp2_with fail
  refine (clone14 a c pre w hnil (by omega) HR.out).mono ?_
  rintro ex w2 ⟨vo1, vc1, rfl, hown1, hc1⟩
  have Hr1 := Lib.hid (reads_own hown1)
  have Ho1 := Lib.hid hown1
  have Hc1 := Lib.hid hc1
  clear hown1 hc1
  go_wp2_with fail
  refine (ws10 mw w2).mono ?_
  rintro ex w1 ⟨⟨wsv, rfl⟩, rfl⟩
  go_wp2_with fail
  refine (clone14 vo1 vc1 pre w2 (own_nil Ho1.out) (by omega) Hr1.out).mono ?_
  rintro ex w3 ⟨vo2, vc2, rfl, hown2, hc2⟩
  have Ho2 := Lib.hid hown2
  have Hc2 := Lib.hid hc2
  clear hown2 hc2
  go_wp2_with fail
  refine (new6 m asc vo2 pre.length vc2 w3).mono ?_
  rintro ex w4 ⟨rfl, hw4⟩
  have hc34 : Chg Nowhere w3 w4 := by subst hw4; exact (Chg.refl _ _).alloc _
  have hp : Pr w2.heap.size w3.heap.size m asc vo2 pre w4 := by
    subst hw4
    exact ⟨Nat.le_trans Hc2.out.size (by simp), fun hh => by have := (inRow_own Ho2.out _ hh).2; omega, vc2, heap_alloc_at w3 _ _ rfl, Ho2.out.alloc _⟩
  clear hw4
  have hb4 := hp.lt_size
  go_wp2_with fail
  refine (empty9 w2.heap.size w3.heap.size m asc false pre nm _ vo2 _ hp Hpl.out (by omega) (by omega)).mono ?_
  rintro ex w5 ⟨rfl, vo3, hp3, hw3⟩
  have hp5 : Pr w2.heap.size w3.heap.size m asc vo3 (pre ++ (colons false ++ (nm.data.toList ++ ([40] ++ [41])))) w5 := by simpa only [List.append_assoc] using hp3
  have hch : Chg Nowhere w2 w5 := (Hc2.out.trans hc34 (fun _ _ h => h)).trans hw3.chg (by
    intro k hk hs
    have h23 := Hc2.out.size
    rcases hs with rfl | hs
    · omega
    · have := (inRow_own Ho2.out _ hs).1; omega)
  obtain ⟨vc3, hrow, hown3⟩ := hp5.row
  have hc15 := cell_of_heap hrow 15
  simp only [pc, List.getElem?_toArray, List.getElem?_cons_succ, List.getElem?_cons_zero] at hc15
  have hrl : 0 < (colons false ++ (nm.data.toList ++ ([40] ++ [41]))).length := by simp [colons]
  have hnl : nm.data.toList.length = nm.size := by rw [Array.length_toList]; rfl
  have hal : ag.data.toList.length = ag.size := by rw [Array.length_toList]; rfl
  have hrb : (colons false ++ (nm.data.toList ++ ([40] ++ [41]))).length ≤ 2097160 := by
    simp only [colons, List.length_append, List.length_cons, List.length_nil, if_true, if_false, Bool.false_eq_true]
    omega
  generalize hre : (colons false ++ (nm.data.toList ++ ([40] ++ [41]))) = rest at hp5 hrow hown3 hc15 hrl hrb
  have hwant : (⟨rest.toArray⟩ : ByteArray) = ⟨#[58]⟩ ++ nm ++ ⟨#[40, 41]⟩ := by rw [← hre]; exact want01 nm ag
  rw [List.length_append] at hc15 hown3
  obtain ⟨g1, rfl, hcells, hvc, hvm⟩ := own_some (l := pre ++ rest) (by rw [List.length_append]; exact hown3) (by rw [List.length_append]; omega)
  rw [List.length_append] at hcells hvc
  have Hcl := Lib.hid hcells
  have Hch := Lib.hid hch
  have Hwant := Lib.hid hwant
  have Hr5 : Hid (Reads w5 vo1 pre.length (byteAt pre)) := Lib.hid (Hr1.out.kept hch (fun _ _ _ h => h))
  clear hp hp3 hw3 hp5 hch hrow hown3 hcells hwant hre hc34
  go_wp2_with fail
  refine (css11 w3.heap.size _ w5 hc15).mono ?_
  rintro ex w6 ⟨rfl, rfl⟩
  go_wp2_with fail
  refine (tail16 g1 vc3 vo1 vc1 pre rest w5 (by omega) Hcl.out hrl hvc hvm Hr5.out).mono ?_
  rintro ex w6 ⟨rfl, q, rfl⟩
  rw [Hwant.out]
  go_wp2_with fail
  go_ret
  exact ⟨rfl, (Hc1.out.trans Hch.out (fun _ _ h => h)).drewN q⟩
theorem want02 (nm ag : ByteArray) : (⟨(colons false ++ (nm.data.toList ++ ([40] ++ (ag.data.toList ++ [41])))).toArray⟩ : ByteArray) = ⟨#[58]⟩ ++ nm ++ ⟨#[40]⟩ ++ ag ++ ⟨#[41]⟩ := by
  apply ByteArray.ext
  simp only [ByteArray.data_append]
  simp [colons]
set_option maxHeartbeats 8000000 in
theorem law4_02 (a : Option Addr) (c : Nat) (pre : List UInt8) (nm ag : ByteArray) (mw m asc : Bool) (w : World) (hnil : a = none → pre.length = 0) (hR : Reads w a pre.length (byteAt pre)) :
    Calls Tryf.prog 4 #[.slice a pre.length c, .string nm, .bool false, .int .u8 2, .string ag, .bool mw, .bool m, .bool asc] w (TrueOut w) := by
  have HR := Lib.hid hR
  clear hR
  go_enter Tryf.func4, Tryf.ntmps4
  go_wp2_with fail
  refine (zb12 a pre.length c nm ag _ _ _ _ _ w).mono ?_
  rintro ex w1 ⟨r, rfl, rfl, hb⟩
  cases r
  · go_wp2_with fail
    go_ret
    exact ⟨rfl, Chg.refl _ _⟩
  replace hb := hb rfl
  have x1 : ¬ (1048576 : Int) < (pre.length : Int) := by omega
  have x2 : ¬ (1048576 : Int) < (nm.size : Int) := by omega
  have x3 : ¬ (1048576 : Int) < (ag.size : Int) := by omega
  have x4 : ¬ (1048576 : Int) < (pre.length : Int) + (nm.size : Int) + (ag.size : Int) := by omega
  go_wp2_with fail
  refine (plain13 nm (by omega) w).mono ?_
  rintro ex w1 ⟨r, rfl, rfl, hpl⟩
  cases r
  · clear hpl
    go_wp2_with fail
    go_ret
    exact ⟨rfl, Chg.refl _ _⟩
  have Hpl := Lib.hid (hpl rfl)
  clear hpl
  go_wp2_with fail
  refine (plain13 ag (by omega) w).mono ?_
  rintro ex w1 ⟨r, rfl, rfl, hpa⟩
  cases r
  · clear hpa
    go_wp2_with fail
    go_ret
    exact ⟨rfl, Chg.refl _ _⟩
  have Hpa := Lib.hid (hpa rfl)
  clear hpa
  go_wp2_with fail
  refine (clone14 a c pre w hnil (by omega) HR.out).mono ?_
  rintro ex w2 ⟨vo1, vc1, rfl, hown1, hc1⟩
  have Hr1 := Lib.hid (reads_own hown1)
  have Ho1 := Lib.hid hown1
  have Hc1 := Lib.hid hc1
  clear hown1 hc1
  go_wp2_with fail
  refine (ws10 mw w2).mono ?_
  rintro ex w1 ⟨⟨wsv, rfl⟩, rfl⟩
  go_wp2_with fail
  refine (clone14 vo1 vc1 pre w2 (own_nil Ho1.out) (by omega) Hr1.out).mono ?_
  rintro ex w3 ⟨vo2, vc2, rfl, hown2, hc2⟩
  have Ho2 := Lib.hid hown2
  have Hc2 := Lib.hid hc2
  clear hown2 hc2
  go_wp2_with fail
  refine (new6 m asc vo2 pre.length vc2 w3).mono ?_
  rintro ex w4 ⟨rfl, hw4⟩
  have hc34 : Chg Nowhere w3 w4 := by subst hw4; exact (Chg.refl _ _).alloc _
  have hp : Pr w2.heap.size w3.heap.size m asc vo2 pre w4 := by
    subst hw4
    exact ⟨Nat.le_trans Hc2.out.size (by simp), fun hh => by have := (inRow_own Ho2.out _ hh).2; omega, vc2, heap_alloc_at w3 _ _ rfl, Ho2.out.alloc _⟩
  clear hw4
  have hb4 := hp.lt_size
  go_wp2_with fail
  refine (one15 w2.heap.size w3.heap.size m asc false pre nm ag _ vo2 _ hp Hpl.out (by omega) (by omega) Hpa.out (by omega)).mono ?_
  rintro ex w5 ⟨rfl, vo3, hp3, hw3⟩
  have hp5 : Pr w2.heap.size w3.heap.size m asc vo3 (pre ++ (colons false ++ (nm.data.toList ++ ([40] ++ (ag.data.toList ++ [41]))))) w5 := by simpa only [List.append_assoc] using hp3
  have hch : Chg Nowhere w2 w5 := (Hc2.out.trans hc34 (fun _ _ h => h)).trans hw3.chg (by
    intro k hk hs
    have h23 := Hc2.out.size
    rcases hs with rfl | hs
    · omega
    · have := (inRow_own Ho2.out _ hs).1; omega)
  obtain ⟨vc3, hrow, hown3⟩ := hp5.row
  have hc15 := cell_of_heap hrow 15
  simp only [pc, List.getElem?_toArray, List.getElem?_cons_succ, List.getElem?_cons_zero] at hc15
  have hrl : 0 < (colons false ++ (nm.data.toList ++ ([40] ++ (ag.data.toList ++ [41])))).length := by simp [colons]
  have hnl : nm.data.toList.length = nm.size := by rw [Array.length_toList]; rfl
  have hal : ag.data.toList.length = ag.size := by rw [Array.length_toList]; rfl
  have hrb : (colons false ++ (nm.data.toList ++ ([40] ++ (ag.data.toList ++ [41])))).length ≤ 2097160 := by
    simp only [colons, List.length_append, List.length_cons, List.length_nil, if_true, if_false, Bool.false_eq_true]
    omega
  generalize hre : (colons false ++ (nm.data.toList ++ ([40] ++ (ag.data.toList ++ [41])))) = rest at hp5 hrow hown3 hc15 hrl hrb
  have hwant : (⟨rest.toArray⟩ : ByteArray) = ⟨#[58]⟩ ++ nm ++ ⟨#[40]⟩ ++ ag ++ ⟨#[41]⟩ := by rw [← hre]; exact want02 nm ag
  rw [List.length_append] at hc15 hown3
  obtain ⟨g1, rfl, hcells, hvc, hvm⟩ := own_some (l := pre ++ rest) (by rw [List.length_append]; exact hown3) (by rw [List.length_append]; omega)
  rw [List.length_append] at hcells hvc
  have Hcl := Lib.hid hcells
  have Hch := Lib.hid hch
  have Hwant := Lib.hid hwant
  have Hr5 : Hid (Reads w5 vo1 pre.length (byteAt pre)) := Lib.hid (Hr1.out.kept hch (fun _ _ _ h => h))
  clear hp hp3 hw3 hp5 hch hrow hown3 hcells hwant hre hc34
  go_wp2_with fail
  refine (css11 w3.heap.size _ w5 hc15).mono ?_
  rintro ex w6 ⟨rfl, rfl⟩
  go_wp2_with fail
  refine (tail16 g1 vc3 vo1 vc1 pre rest w5 (by omega) Hcl.out hrl hvc hvm Hr5.out).mono ?_
  rintro ex w6 ⟨rfl, q, rfl⟩
  rw [Hwant.out]
  go_wp2_with fail
  go_ret
  exact ⟨rfl, (Hc1.out.trans Hch.out (fun _ _ h => h)).drewN q⟩
theorem want10 (nm ag : ByteArray) : (⟨(colons true ++ nm.data.toList).toArray⟩ : ByteArray) = ⟨#[58, 58]⟩ ++ nm := by
  apply ByteArray.ext
  simp only [ByteArray.data_append]
  simp [colons]
set_option maxHeartbeats 8000000 in
theorem law4_10 (a : Option Addr) (c : Nat) (pre : List UInt8) (nm ag : ByteArray) (mw m asc : Bool) (w : World) (hnil : a = none → pre.length = 0) (hR : Reads w a pre.length (byteAt pre)) :
    Calls Tryf.prog 4 #[.slice a pre.length c, .string nm, .bool true, .int .u8 0, .string ag, .bool mw, .bool m, .bool asc] w (TrueOut w) := by
  have HR := Lib.hid hR
  clear hR
  go_enter Tryf.func4, Tryf.ntmps4
  go_wp2_with fail
  refine (zb12 a pre.length c nm ag _ _ _ _ _ w).mono ?_
  rintro ex w1 ⟨r, rfl, rfl, hb⟩
  cases r
  · go_wp2_with fail
    go_ret
    exact ⟨rfl, Chg.refl _ _⟩
  replace hb := hb rfl
  have x1 : ¬ (1048576 : Int) < (pre.length : Int) := by omega
  have x2 : ¬ (1048576 : Int) < (nm.size : Int) := by omega
  have x3 : ¬ (1048576 : Int) < (ag.size : Int) := by omega
  have x4 : ¬ (1048576 : Int) < (pre.length : Int) + (nm.size : Int) + (ag.size : Int) := by omega
  go_wp2_with fail
  refine (plain13 nm (by omega) w).mono ?_
  rintro ex w1 ⟨r, rfl, rfl, hpl⟩
  cases r
  · clear hpl
    go_wp2_with fail
    go_ret
    exact ⟨rfl, Chg.refl _ _⟩
  have Hpl := Lib.hid (hpl rfl)
  clear hpl
  go_wp2_with fail
  refine (clone14 a c pre w hnil (by omega) HR.out).mono ?_
  rintro ex w2 ⟨vo1, vc1, rfl, hown1, hc1⟩
  have Hr1 := Lib.hid (reads_own hown1)
  have Ho1 := Lib.hid hown1
  have Hc1 := Lib.hid hc1
  clear hown1 hc1
  go_wp2_with fail
  refine (ws10 mw w2).mono ?_
  rintro ex w1 ⟨⟨wsv, rfl⟩, rfl⟩
  go_wp2_with fail
  refine (clone14 vo1 vc1 pre w2 (own_nil Ho1.out) (by omega) Hr1.out).mono ?_
  rintro ex w3 ⟨vo2, vc2, rfl, hown2, hc2⟩
  have Ho2 := Lib.hid hown2
  have Hc2 := Lib.hid hc2
  clear hown2 hc2
  go_wp2_with fail
  refine (new6 m asc vo2 pre.length vc2 w3).mono ?_
  rintro ex w4 ⟨rfl, hw4⟩
  have hc34 : Chg Nowhere w3 w4 := by subst hw4; exact (Chg.refl _ _).alloc _
  have hp : Pr w2.heap.size w3.heap.size m asc vo2 pre w4 := by
    subst hw4
    exact ⟨Nat.le_trans Hc2.out.size (by simp), fun hh => by have := (inRow_own Ho2.out _ hh).2; omega, vc2, heap_alloc_at w3 _ _ rfl, Ho2.out.alloc _⟩
  clear hw4
  have hb4 := hp.lt_size
  go_wp2_with fail
  refine (no7 w2.heap.size w3.heap.size m asc true pre nm _ vo2 _ hp Hpl.out (by omega) (by omega)).mono ?_
  rintro ex w5 ⟨rfl, vo3, hp3, hw3⟩
  have hp5 : Pr w2.heap.size w3.heap.size m asc vo3 (pre ++ (colons true ++ nm.data.toList)) w5 := by simpa only [List.append_assoc] using hp3
  have hch : Chg Nowhere w2 w5 := (Hc2.out.trans hc34 (fun _ _ h => h)).trans hw3.chg (by
    intro k hk hs
    have h23 := Hc2.out.size
    rcases hs with rfl | hs
    · omega
    · have := (inRow_own Ho2.out _ hs).1; omega)
  obtain ⟨vc3, hrow, hown3⟩ := hp5.row
  have hc15 := cell_of_heap hrow 15
  simp only [pc, List.getElem?_toArray, List.getElem?_cons_succ, List.getElem?_cons_zero] at hc15
  have hrl : 0 < (colons true ++ nm.data.toList).length := by simp [colons]
  have hnl : nm.data.toList.length = nm.size := by rw [Array.length_toList]; rfl
  have hal : ag.data.toList.length = ag.size := by rw [Array.length_toList]; rfl
  have hrb : (colons true ++ nm.data.toList).length ≤ 2097160 := by
    simp only [colons, List.length_append, List.length_cons, List.length_nil, if_true, if_false, Bool.false_eq_true]
    omega
  generalize hre : (colons true ++ nm.data.toList) = rest at hp5 hrow hown3 hc15 hrl hrb
  have hwant : (⟨rest.toArray⟩ : ByteArray) = ⟨#[58, 58]⟩ ++ nm := by rw [← hre]; exact want10 nm ag
  rw [List.length_append] at hc15 hown3
  obtain ⟨g1, rfl, hcells, hvc, hvm⟩ := own_some (l := pre ++ rest) (by rw [List.length_append]; exact hown3) (by rw [List.length_append]; omega)
  rw [List.length_append] at hcells hvc
  have Hcl := Lib.hid hcells
  have Hch := Lib.hid hch
  have Hwant := Lib.hid hwant
  have Hr5 : Hid (Reads w5 vo1 pre.length (byteAt pre)) := Lib.hid (Hr1.out.kept hch (fun _ _ _ h => h))
  clear hp hp3 hw3 hp5 hch hrow hown3 hcells hwant hre hc34
  go_wp2_with fail
  refine (css11 w3.heap.size _ w5 hc15).mono ?_
  rintro ex w6 ⟨rfl, rfl⟩
  go_wp2_with fail
  refine (tail16 g1 vc3 vo1 vc1 pre rest w5 (by omega) Hcl.out hrl hvc hvm Hr5.out).mono ?_
  rintro ex w6 ⟨rfl, q, rfl⟩
  rw [Hwant.out]
  go_wp2_with fail
  go_ret
  exact ⟨rfl, (Hc1.out.trans Hch.out (fun _ _ h => h)).drewN q⟩
theorem want11 (nm ag : ByteArray) : (⟨(colons true ++ (nm.data.toList ++ ([40] ++ [41]))).toArray⟩ : ByteArray) = ⟨#[58, 58]⟩ ++ nm ++ ⟨#[40, 41]⟩ := by
  apply ByteArray.ext
  simp only [ByteArray.data_append]
  simp [colons]
set_option maxHeartbeats 8000000 in
theorem law4_11 (a : Option Addr) (c : Nat) (pre : List UInt8) (nm ag : ByteArray) (mw m asc : Bool) (w : World) (hnil : a = none → pre.length = 0) (hR : Reads w a pre.length (byteAt pre)) :
    Calls Tryf.prog 4 #[.slice a pre.length c, .string nm, .bool true, .int .u8 1, .string ag, .bool mw, .bool m, .bool asc] w (TrueOut w) := by
  have HR := Lib.hid hR
  clear hR
  go_enter Tryf.func4, Tryf.ntmps4
  go_wp2_with fail
  refine (zb12 a pre.length c nm ag _ _ _ _ _ w).mono ?_
  rintro ex w1 ⟨r, rfl, rfl, hb⟩
  cases r
  · go_wp2_with fail
    go_ret
    exact ⟨rfl, Chg.refl _ _⟩
  replace hb := hb rfl
  have x1 : ¬ (1048576 : Int) < (pre.length : Int) := by omega
  have x2 : ¬ (1048576 : Int) < (nm.size : Int) := by omega
  have x3 : ¬ (1048576 : Int) < (ag.size : Int) := by omega
  have x4 : ¬ (1048576 : Int) < (pre.length : Int) + (nm.size : Int) + (ag.size : Int) := by omega
  go_wp2_with fail
  refine (plain13 nm (by omega) w).mono ?_
  rintro ex w1 ⟨r, rfl, rfl, hpl⟩
  cases r
  · clear hpl
    go_wp2_with fail
    go_ret
    exact ⟨rfl, Chg.refl _ _⟩
  have Hpl := Lib.hid (hpl rfl)
  clear hpl
  go_wp2_with fail
  refine (clone14 a c pre w hnil (by omega) HR.out).mono ?_
  rintro ex w2 ⟨vo1, vc1, rfl, hown1, hc1⟩
  have Hr1 := Lib.hid (reads_own hown1)
  have Ho1 := Lib.hid hown1
  have Hc1 := Lib.hid hc1
  clear hown1 hc1
  go_wp2_with fail
  refine (ws10 mw w2).mono ?_
  rintro ex w1 ⟨⟨wsv, rfl⟩, rfl⟩
  go_wp2_with fail
  refine (clone14 vo1 vc1 pre w2 (own_nil Ho1.out) (by omega) Hr1.out).mono ?_
  rintro ex w3 ⟨vo2, vc2, rfl, hown2, hc2⟩
  have Ho2 := Lib.hid hown2
  have Hc2 := Lib.hid hc2
  clear hown2 hc2
  go_wp2_with fail
  refine (new6 m asc vo2 pre.length vc2 w3).mono ?_
  rintro ex w4 ⟨rfl, hw4⟩
  have hc34 : Chg Nowhere w3 w4 := by subst hw4; exact (Chg.refl _ _).alloc _
  have hp : Pr w2.heap.size w3.heap.size m asc vo2 pre w4 := by
    subst hw4
    exact ⟨Nat.le_trans Hc2.out.size (by simp), fun hh => by have := (inRow_own Ho2.out _ hh).2; omega, vc2, heap_alloc_at w3 _ _ rfl, Ho2.out.alloc _⟩
  clear hw4
  have hb4 := hp.lt_size
  go_wp2_with fail
  refine (empty9 w2.heap.size w3.heap.size m asc true pre nm _ vo2 _ hp Hpl.out (by omega) (by omega)).mono ?_
  rintro ex w5 ⟨rfl, vo3, hp3, hw3⟩
  have hp5 : Pr w2.heap.size w3.heap.size m asc vo3 (pre ++ (colons true ++ (nm.data.toList ++ ([40] ++ [41])))) w5 := by simpa only [List.append_assoc] using hp3
  have hch : Chg Nowhere w2 w5 := (Hc2.out.trans hc34 (fun _ _ h => h)).trans hw3.chg (by
    intro k hk hs
    have h23 := Hc2.out.size
    rcases hs with rfl | hs
    · omega
    · have := (inRow_own Ho2.out _ hs).1; omega)
  obtain ⟨vc3, hrow, hown3⟩ := hp5.row
  have hc15 := cell_of_heap hrow 15
  simp only [pc, List.getElem?_toArray, List.getElem?_cons_succ, List.getElem?_cons_zero] at hc15
  have hrl : 0 < (colons true ++ (nm.data.toList ++ ([40] ++ [41]))).length := by simp [colons]
  have hnl : nm.data.toList.length = nm.size := by rw [Array.length_toList]; rfl
  have hal : ag.data.toList.length = ag.size := by rw [Array.length_toList]; rfl
  have hrb : (colons true ++ (nm.data.toList ++ ([40] ++ [41]))).length ≤ 2097160 := by
    simp only [colons, List.length_append, List.length_cons, List.length_nil, if_true, if_false, Bool.false_eq_true]
    omega
  generalize hre : (colons true ++ (nm.data.toList ++ ([40] ++ [41]))) = rest at hp5 hrow hown3 hc15 hrl hrb
  have hwant : (⟨rest.toArray⟩ : ByteArray) = ⟨#[58, 58]⟩ ++ nm ++ ⟨#[40, 41]⟩ := by rw [← hre]; exact want11 nm ag
  rw [List.length_append] at hc15 hown3
  obtain ⟨g1, rfl, hcells, hvc, hvm⟩ := own_some (l := pre ++ rest) (by rw [List.length_append]; exact hown3) (by rw [List.length_append]; omega)
  rw [List.length_append] at hcells hvc
  have Hcl := Lib.hid hcells
  have Hch := Lib.hid hch
  have Hwant := Lib.hid hwant
  have Hr5 : Hid (Reads w5 vo1 pre.length (byteAt pre)) := Lib.hid (Hr1.out.kept hch (fun _ _ _ h => h))
  clear hp hp3 hw3 hp5 hch hrow hown3 hcells hwant hre hc34
  go_wp2_with fail
  refine (css11 w3.heap.size _ w5 hc15).mono ?_
  rintro ex w6 ⟨rfl, rfl⟩
  go_wp2_with fail
  refine (tail16 g1 vc3 vo1 vc1 pre rest w5 (by omega) Hcl.out hrl hvc hvm Hr5.out).mono ?_
  rintro ex w6 ⟨rfl, q, rfl⟩
  rw [Hwant.out]
  go_wp2_with fail
  go_ret
  exact ⟨rfl, (Hc1.out.trans Hch.out (fun _ _ h => h)).drewN q⟩
theorem want12 (nm ag : ByteArray) : (⟨(colons true ++ (nm.data.toList ++ ([40] ++ (ag.data.toList ++ [41])))).toArray⟩ : ByteArray) = ⟨#[58, 58]⟩ ++ nm ++ ⟨#[40]⟩ ++ ag ++ ⟨#[41]⟩ := by
  apply ByteArray.ext
  simp only [ByteArray.data_append]
  simp [colons]
set_option maxHeartbeats 8000000 in
theorem law4_12 (a : Option Addr) (c : Nat) (pre : List UInt8) (nm ag : ByteArray) (mw m asc : Bool) (w : World) (hnil : a = none → pre.length = 0) (hR : Reads w a pre.length (byteAt pre)) :
    Calls Tryf.prog 4 #[.slice a pre.length c, .string nm, .bool true, .int .u8 2, .string ag, .bool mw, .bool m, .bool asc] w (TrueOut w) := by
  have HR := Lib.hid hR
  clear hR
  go_enter Tryf.func4, Tryf.ntmps4
  go_wp2_with fail
  refine (zb12 a pre.length c nm ag _ _ _ _ _ w).mono ?_
  rintro ex w1 ⟨r, rfl, rfl, hb⟩
  cases r
  · go_wp2_with fail
    go_ret
    exact ⟨rfl, Chg.refl _ _⟩
  replace hb := hb rfl
  have x1 : ¬ (1048576 : Int) < (pre.length : Int) := by omega
  have x2 : ¬ (1048576 : Int) < (nm.size : Int) := by omega
  have x3 : ¬ (1048576 : Int) < (ag.size : Int) := by omega
  have x4 : ¬ (1048576 : Int) < (pre.length : Int) + (nm.size : Int) + (ag.size : Int) := by omega
  go_wp2_with fail
  refine (plain13 nm (by omega) w).mono ?_
  rintro ex w1 ⟨r, rfl, rfl, hpl⟩
  cases r
  · clear hpl
    go_wp2_with fail
    go_ret
    exact ⟨rfl, Chg.refl _ _⟩
  have Hpl := Lib.hid (hpl rfl)
  clear hpl
  go_wp2_with fail
  refine (plain13 ag (by omega) w).mono ?_
  rintro ex w1 ⟨r, rfl, rfl, hpa⟩
  cases r
  · clear hpa
    go_wp2_with fail
    go_ret
    exact ⟨rfl, Chg.refl _ _⟩
  have Hpa := Lib.hid (hpa rfl)
  clear hpa
  go_wp2_with fail
  refine (clone14 a c pre w hnil (by omega) HR.out).mono ?_
  rintro ex w2 ⟨vo1, vc1, rfl, hown1, hc1⟩
  have Hr1 := Lib.hid (reads_own hown1)
  have Ho1 := Lib.hid hown1
  have Hc1 := Lib.hid hc1
  clear hown1 hc1
  go_wp2_with fail
  refine (ws10 mw w2).mono ?_
  rintro ex w1 ⟨⟨wsv, rfl⟩, rfl⟩
  go_wp2_with fail
  refine (clone14 vo1 vc1 pre w2 (own_nil Ho1.out) (by omega) Hr1.out).mono ?_
  rintro ex w3 ⟨vo2, vc2, rfl, hown2, hc2⟩
  have Ho2 := Lib.hid hown2
  have Hc2 := Lib.hid hc2
  clear hown2 hc2
  go_wp2_with fail
  refine (new6 m asc vo2 pre.length vc2 w3).mono ?_
  rintro ex w4 ⟨rfl, hw4⟩
  have hc34 : Chg Nowhere w3 w4 := by subst hw4; exact (Chg.refl _ _).alloc _
  have hp : Pr w2.heap.size w3.heap.size m asc vo2 pre w4 := by
    subst hw4
    exact ⟨Nat.le_trans Hc2.out.size (by simp), fun hh => by have := (inRow_own Ho2.out _ hh).2; omega, vc2, heap_alloc_at w3 _ _ rfl, Ho2.out.alloc _⟩
  clear hw4
  have hb4 := hp.lt_size
  go_wp2_with fail
  refine (one15 w2.heap.size w3.heap.size m asc true pre nm ag _ vo2 _ hp Hpl.out (by omega) (by omega) Hpa.out (by omega)).mono ?_
  rintro ex w5 ⟨rfl, vo3, hp3, hw3⟩
  have hp5 : Pr w2.heap.size w3.heap.size m asc vo3 (pre ++ (colons true ++ (nm.data.toList ++ ([40] ++ (ag.data.toList ++ [41]))))) w5 := by simpa only [List.append_assoc] using hp3
  have hch : Chg Nowhere w2 w5 := (Hc2.out.trans hc34 (fun _ _ h => h)).trans hw3.chg (by
    intro k hk hs
    have h23 := Hc2.out.size
    rcases hs with rfl | hs
    · omega
    · have := (inRow_own Ho2.out _ hs).1; omega)
  obtain ⟨vc3, hrow, hown3⟩ := hp5.row
  have hc15 := cell_of_heap hrow 15
  simp only [pc, List.getElem?_toArray, List.getElem?_cons_succ, List.getElem?_cons_zero] at hc15
  have hrl : 0 < (colons true ++ (nm.data.toList ++ ([40] ++ (ag.data.toList ++ [41])))).length := by simp [colons]
  have hnl : nm.data.toList.length = nm.size := by rw [Array.length_toList]; rfl
  have hal : ag.data.toList.length = ag.size := by rw [Array.length_toList]; rfl
  have hrb : (colons true ++ (nm.data.toList ++ ([40] ++ (ag.data.toList ++ [41])))).length ≤ 2097160 := by
    simp only [colons, List.length_append, List.length_cons, List.length_nil, if_true, if_false, Bool.false_eq_true]
    omega
  generalize hre : (colons true ++ (nm.data.toList ++ ([40] ++ (ag.data.toList ++ [41])))) = rest at hp5 hrow hown3 hc15 hrl hrb
  have hwant : (⟨rest.toArray⟩ : ByteArray) = ⟨#[58, 58]⟩ ++ nm ++ ⟨#[40]⟩ ++ ag ++ ⟨#[41]⟩ := by rw [← hre]; exact want12 nm ag
  rw [List.length_append] at hc15 hown3
  obtain ⟨g1, rfl, hcells, hvc, hvm⟩ := own_some (l := pre ++ rest) (by rw [List.length_append]; exact hown3) (by rw [List.length_append]; omega)
  rw [List.length_append] at hcells hvc
  have Hcl := Lib.hid hcells
  have Hch := Lib.hid hch
  have Hwant := Lib.hid hwant
  have Hr5 : Hid (Reads w5 vo1 pre.length (byteAt pre)) := Lib.hid (Hr1.out.kept hch (fun _ _ _ h => h))
  clear hp hp3 hw3 hp5 hch hrow hown3 hcells hwant hre hc34
  go_wp2_with fail
  refine (css11 w3.heap.size _ w5 hc15).mono ?_
  rintro ex w6 ⟨rfl, rfl⟩
  go_wp2_with fail
  refine (tail16 g1 vc3 vo1 vc1 pre rest w5 (by omega) Hcl.out hrl hvc hvm Hr5.out).mono ?_
  rintro ex w6 ⟨rfl, q, rfl⟩
  rw [Hwant.out]
  go_wp2_with fail
  go_ret
  exact ⟨rfl, (Hc1.out.trans Hch.out (fun _ _ h => h)).drewN q⟩
set_option maxHeartbeats 8000000 in
theorem law4_more (a : Option Addr) (c : Nat) (pre : List UInt8) (nm ag : ByteArray) (el mw m asc : Bool) (mo : Int) (hmo : 2 < mo) (w : World) :
    Calls Tryf.prog 4 #[.slice a pre.length c, .string nm, .bool el, .int .u8 mo, .string ag, .bool mw, .bool m, .bool asc] w (TrueOut w) := by
  go_enter Tryf.func4, Tryf.ntmps4
  go_wp2_with fail
  refine (zb12 a pre.length c nm ag _ _ _ _ _ w).mono ?_
  rintro ex w1 ⟨r, rfl, rfl, hb⟩
  cases r
  · go_wp2_with fail
    go_ret
    exact ⟨rfl, Chg.refl _ _⟩
  replace hb := hb rfl
  have x1 : ¬ (1048576 : Int) < (pre.length : Int) := by omega
  have x2 : ¬ (1048576 : Int) < (nm.size : Int) := by omega
  have x3 : ¬ (1048576 : Int) < (ag.size : Int) := by omega
  have x4 : ¬ (1048576 : Int) < (pre.length : Int) + (nm.size : Int) + (ag.size : Int) := by omega
  go_wp2_with fail
  go_ret
  exact ⟨rfl, Chg.refl _ _⟩
theorem law4 (a : Option Addr) (c : Nat) (pre : List UInt8) (nm ag : ByteArray) (el mw m asc : Bool) (mo : Int) (h0 : 0 ≤ mo) (w : World) (hnil : a = none → pre.length = 0) (hR : Reads w a pre.length (byteAt pre)) :
    Calls Tryf.prog 4 #[.slice a pre.length c, .string nm, .bool el, .int .u8 mo, .string ag, .bool mw, .bool m, .bool asc] w (TrueOut w) := by
  by_cases hmo : 2 < mo
  · exact law4_more a c pre nm ag el mw m asc mo hmo w
  · obtain rfl | rfl | rfl : mo = 0 ∨ mo = 1 ∨ mo = 2 := by omega
    all_goals cases el
    · exact law4_00 a c pre nm ag mw m asc w hnil hR
    · exact law4_10 a c pre nm ag mw m asc w hnil hR
    · exact law4_01 a c pre nm ag mw m asc w hnil hR
    · exact law4_11 a c pre nm ag mw m asc w hnil hR
    · exact law4_02 a c pre nm ag mw m asc w hnil hR
    · exact law4_12 a c pre nm ag mw m asc w hnil hR
end Go.Proofs.YtgfiigonjleeeaaFmt
