/-
  Proved: contract of the css printer's printComplexSelectors at lists of compounds of one nesting selector each. No statement of the seat stands here.
-/
import Derived.Test.YtadmncfemgmioaaGreatFmtComp
import Derived.Test.YtadmncfemgmioaaGreatFmtIndent
import Derived.Deep.LoopGhost
namespace Go.Proofs.YtadmncfemgmioaaGreatFmt
open Go.RowKit Go.ChangeAt
set_option linter.unusedSimpArgs false
set_option linter.unusedVariables false
set_option maxRecDepth 100000
def byteOf (l : List UInt8) (j : Nat) : Nat := (l.getD j 0).toNat
def compsTo (m : Bool) (l : List UInt8) : Nat → List UInt8
  | 0 => []
  | k + 1 => compsTo m l k ++ piece m (k == 0) (byteOf l k)
def selsTo (sep : List UInt8) (m : Bool) (X : Nat → List UInt8) : Nat → List UInt8
  | 0 => []
  | k + 1 => selsTo sep m X k ++ (if k = 0 then [] else sep) ++ compsTo m (X k) (X k).length
def sepT (m : Bool) (lay ind : Int) : List UInt8 := if m then [44] else if lay = 0 then [44, 10] ++ spaces ind.toNat else [44, 32]
theorem piece_length (m f : Bool) (c : Nat) : (piece m f c).length ≤ 4 := by
  unfold piece
  split <;> cases m <;> cases f <;> simp
theorem compsTo_length (m : Bool) (l : List UInt8) (k : Nat) : (compsTo m l k).length ≤ 4 * k := by
  induction k with
  | zero => simp [compsTo]
  | succ k ih =>
    have := piece_length m (k == 0) (byteOf l k)
    simp only [compsTo, List.length_append]
    omega
/-- n complex selectors in block gs, their compounds in the blocks gc i, their nesting rows in the blocks gn i j. -/
structure SelsAt (b : Nat) (vo : Option Addr) (n gs : Nat) (X : Nat → List UInt8) (gc : Nat → Nat) (gn : Nat → Nat → Nat) (w : World) : Prop where
  row : ∀ i, i < n → w.cell? ⟨gs, i, none⟩ = some (.slice (some ⟨gc i, 0, none⟩) (X i).length (X i).length)
  comp : ∀ i, i < n → ∀ j, j < (X i).length → ∀ q, q < 6 → w.cell? ⟨gc i, j * 6 + q, none⟩ = (compCells (gn i j) (byteOf (X i) j))[q]?
  nest : ∀ i, i < n → ∀ j, j < (X i).length → w.heap[gn i j]? = some (.cells #[.int .i32 0] 35 (0, 0))
  o1 : gs ≠ b ∧ ¬ InRow vo gs
  o2 : ∀ i, i < n → gc i ≠ b ∧ ¬ InRow vo (gc i)
  o3 : ∀ i, i < n → ∀ j, j < (X i).length → gn i j ≠ b ∧ ¬ InRow vo (gn i j)
theorem Wrote.cell {b : Nat} {vo vo' : Option Addr} {w w' : World} {a : Addr} {v : Value} (h : Wrote b vo vo' w w') (h1 : a.block ≠ b ∧ ¬ InRow vo a.block) (hc : w.cell? a = some v) : w'.cell? a = some v :=
  h.chg.cell hc (by rintro (h2 | h2); exact h1.1 h2; exact h1.2 h2)
theorem byteOf_lt (l : List UInt8) (j : Nat) : byteOf l j < 256 := UInt8.toNat_lt _
set_option maxHeartbeats 8000000 in
theorem sels_m (B b n gs : Nat) (X : Nat → List UInt8) (gc : Nat → Nat) (gn : Nat → Nat → Nat) (lay : Int) (ind : Int) (out : List UInt8) (w : World) (vo : Option Addr) (h : Pr B b true false vo out w) (hs : SelsAt b vo n gs X gc gn w)
    (ho : out.length ≤ 1000000) (hn : n ≤ 1048576) (hx : ∀ i, i < n → (X i).length ≤ 1048576) (hb : ∀ k, k ≤ n → (selsTo [44] true X k).length ≤ 1000000000) (hi1 : ind ≤ 65536) (hi0 : -2147483648 ≤ ind) :
    Calls Tryz.prog 13 #[.pointer (some ⟨b, 0, none⟩), .slice (some ⟨gs, 0, none⟩) n n, .int .i32 ind, .int .u8 lay] w (Wrt B b true false vo (out ++ selsTo [44] true X n) w) := by
  have hbs := h.lt_size
  have Hp := Lib.hid h
  have Hs := Lib.hid hs
  have Hb := Lib.hid hb
  have Hx := Lib.hid hx
  clear h hs hb hx
  go_enter Tryz.func13, Tryz.ntmps13
  go_wp2_with fail
  go_loopw [14] (fun i wr => ∃ k : Nat, k ≤ n ∧ i = .int .i64 k ∧ At B b true vo (out ++ selsTo [44] true X k) w wr) (fun i _ => n - (intOf i).toNat)
  case atStart => exact ⟨0, by omega, rfl, vo, by simpa only [selsTo, List.append_nil] using Hp.out, Wrote.refl b vo w⟩
  case round =>
    obtain ⟨k, hk, rfl, vr, hpr, hwr⟩ := hrel
    by_cases hlt : k < n
    · have hbk := Hb.out k hk
      have hxk := Hx.out k hlt
      have hrow := hwr.cell (a := ⟨gs, k, none⟩) Hs.out.o1 (Hs.out.row k hlt)
      have p3 := hpr.cell 3 (by decide)
      have p6 := hpr.cell 6 (by decide)
      simp [pc] at p3 p6
      have hrb := hpr.lt_size
      have Hpr := Lib.hid hpr
      have Hwr := Lib.hid hwr
      clear hpr hwr
      have hx1 : (k : Int) < (n : Int) := by omega
      have hx0 : (0 : Int) ≤ (k : Int) := by omega
      rcases Nat.eq_zero_or_pos k with hz | hz
      · have Hzk := Lib.hid hz
        have hx2 : ¬ (0 : Int) < (k : Int) := by omega
        clear hz
        go_wp2_with fail
        have Hp1 : Hid (Pr B b true false vr (out ++ selsTo [44] true X k) (wr.alloc (.cells #[.slice (some ⟨gc k, 0, none⟩) (X k).length (X k).length] 44))) := Lib.hid (Hpr.out.wrote ((Chg.refl Nowhere wr).alloc _))
        have Hw1 : Hid (Wrote b vo vr w (wr.alloc (.cells #[.slice (some ⟨gc k, 0, none⟩) (X k).length (X k).length] 44))) := Lib.hid (Hwr.out.alloc _)
        have Hv1 : Hid (Wrote b vr vr (wr.alloc (.cells #[.slice (some ⟨gc k, 0, none⟩) (X k).length (X k).length] 44)) (wr.alloc (.cells #[.slice (some ⟨gc k, 0, none⟩) (X k).length (X k).length] 44))) := Lib.hid (Wrote.refl b vr _)
        have Hpi := Hp1
        have Hwi := Hw1
        go_loopw [49] (fun i wq => ∃ j : Nat, j ≤ (X k).length ∧ i = .int .i64 j ∧ At B b true vo (out ++ selsTo [44] true X k ++ compsTo true (X k) j) w wq) (fun i _ => (X k).length - (intOf i).toNat)
        case atStart => exact ⟨0, by omega, rfl, vr, by simpa only [compsTo, List.append_nil] using Hpi.out, Hwi.out⟩
        case round =>
          obtain ⟨j, hj, rfl, vj, hpj, hwj⟩ := hrel
          by_cases hlj : j < (X k).length
          · have c0 := hwj.cell (a := ⟨gc k, j * 6 + 0, none⟩) (Hs.out.o2 k hlt) (Hs.out.comp k hlt j hlj 0 (by decide))
            have c1 := hwj.cell (a := ⟨gc k, j * 6 + 1, none⟩) (Hs.out.o2 k hlt) (Hs.out.comp k hlt j hlj 1 (by decide))
            have c2 := hwj.cell (a := ⟨gc k, j * 6 + 2, none⟩) (Hs.out.o2 k hlt) (Hs.out.comp k hlt j hlj 2 (by decide))
            have c3 := hwj.cell (a := ⟨gc k, j * 6 + 3, none⟩) (Hs.out.o2 k hlt) (Hs.out.comp k hlt j hlj 3 (by decide))
            have c4 := hwj.cell (a := ⟨gc k, j * 6 + 4, none⟩) (Hs.out.o2 k hlt) (Hs.out.comp k hlt j hlj 4 (by decide))
            have c5 := hwj.cell (a := ⟨gc k, j * 6 + 5, none⟩) (Hs.out.o2 k hlt) (Hs.out.comp k hlt j hlj 5 (by decide))
            simp only [Nat.add_zero] at c0
            have hcl := compsTo_length true (X k) j
            have hjb := heap_lt (hwj.heap (Hs.out.o3 k hlt j hlj).1 (Hs.out.o3 k hlt j hlj).2 (Hs.out.nest k hlt j hlj))
            have hj1 : (j : Int) < ((X k).length : Int) := by omega
            have hj0 : (0 : Int) ≤ (j : Int) := by omega
            have hjs := hpj.lt_size
            have Hpj := Lib.hid hpj
            have Hwj := Lib.hid hwj
            clear hpj hwj
            generalize hby : byteOf (X k) j = y at c0 c1 c2 c3 c4 c5
            have Hby := Lib.hid hby
            clear hby
            have hy : y < 256 := by rw [← Hby.out]; exact byteOf_lt _ _
            generalize hgy : gn k j = gy at c0 c1 c2 c3 c4 c5
            have Hgy := Lib.hid hgy
            clear hgy
            simp only [compCells, List.getElem?_toArray, List.getElem?_cons_succ, List.getElem?_cons_zero] at c0 c1 c2 c3 c4 c5
            rcases Nat.eq_zero_or_pos j with hzj | hzj
            · have ej : ((j : Int) == 0) = true := beq_iff_eq.2 (by omega)
              have Hzj := Lib.hid hzj
              clear hzj
              go_wp2_with fail
              have hcb : Wrote b vj vj wr (wr.alloc (.cells #[.pointer none, .slice none 0 0, .slice (some ⟨gy, 0, none⟩) 1 1, .int .i32 0, .int .u8 (y : Int), .bool false] 42)) := (Wrote.refl b vj wr).alloc _
              refine (comp18 B b gy y true true hy ind (out ++ selsTo [44] true X k ++ compsTo true (X k) j) _ vj (Hpj.out.wrote ((Chg.refl Nowhere wr).alloc _)) (by simp only [List.length_append, List.length_cons, List.length_nil, spaces_length]; omega) ((Hwj.out.trans hcb).heap (Hgy.out ▸ (Hs.out.o3 k hlt j hlj).1) (Hgy.out ▸ (Hs.out.o3 k hlt j hlj).2) (Hgy.out ▸ Hs.out.nest k hlt j hlj)) (Hgy.out ▸ (Hs.out.o3 k hlt j hlj).1) (Hwj.out.out (Hgy.out ▸ (Hs.out.o3 k hlt j hlj).2) (heap_lt (Hgy.out ▸ Hs.out.nest k hlt j hlj)))).mono ?_
              rintro ex wz ⟨rfl, vz, hpz, hwz⟩
              have Hpz := Lib.hid hpz
              have Hwz := Lib.hid (Hwj.out.trans (hcb.trans hwz))
              clear hpz hwz hcb
              go_wp2_with fail
              go_roundw
              case rel =>
                have hcj : compsTo true (X k) (j + 1) = compsTo true (X k) j ++ piece true true y := by
                  simp only [compsTo, Hby.out]
                  rw [show (j == 0) = true from beq_iff_eq.2 Hzj.out]
                exact ⟨j + 1, by omega, by go_num, vz, by rw [hcj, ← List.append_assoc]; exact Hpz.out, Hwz.out⟩
              case measure => simp [intOf]; omega
            · have ej : ((j : Int) == 0) = false := beq_eq_false_iff_ne.2 (by omega)
              have Hzj := Lib.hid hzj
              clear hzj
              go_wp2_with fail
              have hcb : Wrote b vj vj wr (wr.alloc (.cells #[.pointer none, .slice none 0 0, .slice (some ⟨gy, 0, none⟩) 1 1, .int .i32 0, .int .u8 (y : Int), .bool false] 42)) := (Wrote.refl b vj wr).alloc _
              refine (comp18 B b gy y false true hy ind (out ++ selsTo [44] true X k ++ compsTo true (X k) j) _ vj (Hpj.out.wrote ((Chg.refl Nowhere wr).alloc _)) (by simp only [List.length_append, List.length_cons, List.length_nil, spaces_length]; omega) ((Hwj.out.trans hcb).heap (Hgy.out ▸ (Hs.out.o3 k hlt j hlj).1) (Hgy.out ▸ (Hs.out.o3 k hlt j hlj).2) (Hgy.out ▸ Hs.out.nest k hlt j hlj)) (Hgy.out ▸ (Hs.out.o3 k hlt j hlj).1) (Hwj.out.out (Hgy.out ▸ (Hs.out.o3 k hlt j hlj).2) (heap_lt (Hgy.out ▸ Hs.out.nest k hlt j hlj)))).mono ?_
              rintro ex wz ⟨rfl, vz, hpz, hwz⟩
              have Hpz := Lib.hid hpz
              have Hwz := Lib.hid (Hwj.out.trans (hcb.trans hwz))
              clear hpz hwz hcb
              go_wp2_with fail
              go_roundw
              case rel =>
                have hcj : compsTo true (X k) (j + 1) = compsTo true (X k) j ++ piece true false y := by
                  simp only [compsTo, Hby.out]
                  rw [show (j == 0) = false from beq_eq_false_iff_ne.2 (by have := Hzj.out; omega)]
                exact ⟨j + 1, by omega, by go_num, vz, by rw [hcj, ← List.append_assoc]; exact Hpz.out, Hwz.out⟩
              case measure => simp [intOf]; omega
          · have hje : j = (X k).length := by omega
            have Hpj := Lib.hid hpj
            have Hwj := Lib.hid hwj
            have Hje := Lib.hid hje
            clear hpj hwj hje
            have hj1 : ¬ (j : Int) < ((X k).length : Int) := by omega
            go_wp2_with fail
            go_roundw
            case rel =>
              have hcj : selsTo [44] true X (k + 1) = selsTo [44] true X k ++ [] ++ compsTo true (X k) (X k).length := by
                simp only [selsTo]
                rw [if_pos Hzk.out]
              have hpe := Hpj.out
              rw [Hje.out] at hpe
              exact ⟨k + 1, by omega, by go_num, vj, by rw [hcj]; simpa only [List.append_assoc, List.nil_append, List.append_nil] using hpe, Hwj.out⟩
            case measure => simp [intOf]; omega
      · have Hzk := Lib.hid hz
        have hx2 : (0 : Int) < (k : Int) := by omega
        clear hz
        go_wp2_with fail
        have Hp1 : Hid (Pr B b true false vr (out ++ selsTo [44] true X k) (wr.alloc (.cells #[.slice (some ⟨gc k, 0, none⟩) (X k).length (X k).length] 44))) := Lib.hid (Hpr.out.wrote ((Chg.refl Nowhere wr).alloc _))
        have Hw1 : Hid (Wrote b vo vr w (wr.alloc (.cells #[.slice (some ⟨gc k, 0, none⟩) (X k).length (X k).length] 44))) := Lib.hid (Hwr.out.alloc _)
        have Hv1 : Hid (Wrote b vr vr (wr.alloc (.cells #[.slice (some ⟨gc k, 0, none⟩) (X k).length (X k).length] 44)) (wr.alloc (.cells #[.slice (some ⟨gc k, 0, none⟩) (X k).length (X k).length] 44))) := Lib.hid (Wrote.refl b vr _)
        refine (print_w B b true false vr (out ++ selsTo [44] true X k) ⟨#[44]⟩ (wr.alloc (.cells #[.slice (some ⟨gc k, 0, none⟩) (X k).length (X k).length] 44)) Hp1.out (by simp only [List.length_append]; omega) (by decide)).mono ?_
        rintro ex w2 ⟨rfl, v2, hp, hw⟩
        have Hp2 : Hid (Pr B b true false v2 (out ++ selsTo [44] true X k ++ [44]) w2) := Lib.hid hp
        have Hw2 : Hid (Wrote b vo v2 w w2) := Lib.hid (Hw1.out.trans hw)
        have Hv2 : Hid (Wrote b vr v2 (wr.alloc (.cells #[.slice (some ⟨gc k, 0, none⟩) (X k).length (X k).length] 44)) w2) := Lib.hid hw
        clear hp hw
        have hb2 : w2.heap[wr.heap.size]? = some (.cells #[.slice (some ⟨gc k, 0, none⟩) (X k).length (X k).length] 44) := Hv2.out.heap (by omega) (fun hh => by have := (Hpr.out.addr _ hh).2; omega) (heap_alloc_at wr _ _ rfl)
        have x2 := cell_of_heap hb2 0
        have z2 := heap_lt hb2
        simp at x2
        clear hb2
        have l2 := Hp2.out.cell 3 (by decide)
        simp [pc] at l2
        have s2 := Hp2.out.lt_size
        go_wp2_with fail
        have Hpi := Hp2
        have Hwi := Hw2
        go_loopw [49] (fun i wq => ∃ j : Nat, j ≤ (X k).length ∧ i = .int .i64 j ∧ At B b true vo (out ++ selsTo [44] true X k ++ [44] ++ compsTo true (X k) j) w wq) (fun i _ => (X k).length - (intOf i).toNat)
        case atStart => exact ⟨0, by omega, rfl, v2, by simpa only [compsTo, List.append_nil] using Hpi.out, Hwi.out⟩
        case round =>
          obtain ⟨j, hj, rfl, vj, hpj, hwj⟩ := hrel
          by_cases hlj : j < (X k).length
          · have c0 := hwj.cell (a := ⟨gc k, j * 6 + 0, none⟩) (Hs.out.o2 k hlt) (Hs.out.comp k hlt j hlj 0 (by decide))
            have c1 := hwj.cell (a := ⟨gc k, j * 6 + 1, none⟩) (Hs.out.o2 k hlt) (Hs.out.comp k hlt j hlj 1 (by decide))
            have c2 := hwj.cell (a := ⟨gc k, j * 6 + 2, none⟩) (Hs.out.o2 k hlt) (Hs.out.comp k hlt j hlj 2 (by decide))
            have c3 := hwj.cell (a := ⟨gc k, j * 6 + 3, none⟩) (Hs.out.o2 k hlt) (Hs.out.comp k hlt j hlj 3 (by decide))
            have c4 := hwj.cell (a := ⟨gc k, j * 6 + 4, none⟩) (Hs.out.o2 k hlt) (Hs.out.comp k hlt j hlj 4 (by decide))
            have c5 := hwj.cell (a := ⟨gc k, j * 6 + 5, none⟩) (Hs.out.o2 k hlt) (Hs.out.comp k hlt j hlj 5 (by decide))
            simp only [Nat.add_zero] at c0
            have hcl := compsTo_length true (X k) j
            have hjb := heap_lt (hwj.heap (Hs.out.o3 k hlt j hlj).1 (Hs.out.o3 k hlt j hlj).2 (Hs.out.nest k hlt j hlj))
            have hj1 : (j : Int) < ((X k).length : Int) := by omega
            have hj0 : (0 : Int) ≤ (j : Int) := by omega
            have hjs := hpj.lt_size
            have Hpj := Lib.hid hpj
            have Hwj := Lib.hid hwj
            clear hpj hwj
            generalize hby : byteOf (X k) j = y at c0 c1 c2 c3 c4 c5
            have Hby := Lib.hid hby
            clear hby
            have hy : y < 256 := by rw [← Hby.out]; exact byteOf_lt _ _
            generalize hgy : gn k j = gy at c0 c1 c2 c3 c4 c5
            have Hgy := Lib.hid hgy
            clear hgy
            simp only [compCells, List.getElem?_toArray, List.getElem?_cons_succ, List.getElem?_cons_zero] at c0 c1 c2 c3 c4 c5
            rcases Nat.eq_zero_or_pos j with hzj | hzj
            · have ej : ((j : Int) == 0) = true := beq_iff_eq.2 (by omega)
              have Hzj := Lib.hid hzj
              clear hzj
              go_wp2_with fail
              have hcb : Wrote b vj vj wr (wr.alloc (.cells #[.pointer none, .slice none 0 0, .slice (some ⟨gy, 0, none⟩) 1 1, .int .i32 0, .int .u8 (y : Int), .bool false] 42)) := (Wrote.refl b vj wr).alloc _
              refine (comp18 B b gy y true true hy ind (out ++ selsTo [44] true X k ++ [44] ++ compsTo true (X k) j) _ vj (Hpj.out.wrote ((Chg.refl Nowhere wr).alloc _)) (by simp only [List.length_append, List.length_cons, List.length_nil, spaces_length]; omega) ((Hwj.out.trans hcb).heap (Hgy.out ▸ (Hs.out.o3 k hlt j hlj).1) (Hgy.out ▸ (Hs.out.o3 k hlt j hlj).2) (Hgy.out ▸ Hs.out.nest k hlt j hlj)) (Hgy.out ▸ (Hs.out.o3 k hlt j hlj).1) (Hwj.out.out (Hgy.out ▸ (Hs.out.o3 k hlt j hlj).2) (heap_lt (Hgy.out ▸ Hs.out.nest k hlt j hlj)))).mono ?_
              rintro ex wz ⟨rfl, vz, hpz, hwz⟩
              have Hpz := Lib.hid hpz
              have Hwz := Lib.hid (Hwj.out.trans (hcb.trans hwz))
              clear hpz hwz hcb
              go_wp2_with fail
              go_roundw
              case rel =>
                have hcj : compsTo true (X k) (j + 1) = compsTo true (X k) j ++ piece true true y := by
                  simp only [compsTo, Hby.out]
                  rw [show (j == 0) = true from beq_iff_eq.2 Hzj.out]
                exact ⟨j + 1, by omega, by go_num, vz, by rw [hcj, ← List.append_assoc]; exact Hpz.out, Hwz.out⟩
              case measure => simp [intOf]; omega
            · have ej : ((j : Int) == 0) = false := beq_eq_false_iff_ne.2 (by omega)
              have Hzj := Lib.hid hzj
              clear hzj
              go_wp2_with fail
              have hcb : Wrote b vj vj wr (wr.alloc (.cells #[.pointer none, .slice none 0 0, .slice (some ⟨gy, 0, none⟩) 1 1, .int .i32 0, .int .u8 (y : Int), .bool false] 42)) := (Wrote.refl b vj wr).alloc _
              refine (comp18 B b gy y false true hy ind (out ++ selsTo [44] true X k ++ [44] ++ compsTo true (X k) j) _ vj (Hpj.out.wrote ((Chg.refl Nowhere wr).alloc _)) (by simp only [List.length_append, List.length_cons, List.length_nil, spaces_length]; omega) ((Hwj.out.trans hcb).heap (Hgy.out ▸ (Hs.out.o3 k hlt j hlj).1) (Hgy.out ▸ (Hs.out.o3 k hlt j hlj).2) (Hgy.out ▸ Hs.out.nest k hlt j hlj)) (Hgy.out ▸ (Hs.out.o3 k hlt j hlj).1) (Hwj.out.out (Hgy.out ▸ (Hs.out.o3 k hlt j hlj).2) (heap_lt (Hgy.out ▸ Hs.out.nest k hlt j hlj)))).mono ?_
              rintro ex wz ⟨rfl, vz, hpz, hwz⟩
              have Hpz := Lib.hid hpz
              have Hwz := Lib.hid (Hwj.out.trans (hcb.trans hwz))
              clear hpz hwz hcb
              go_wp2_with fail
              go_roundw
              case rel =>
                have hcj : compsTo true (X k) (j + 1) = compsTo true (X k) j ++ piece true false y := by
                  simp only [compsTo, Hby.out]
                  rw [show (j == 0) = false from beq_eq_false_iff_ne.2 (by have := Hzj.out; omega)]
                exact ⟨j + 1, by omega, by go_num, vz, by rw [hcj, ← List.append_assoc]; exact Hpz.out, Hwz.out⟩
              case measure => simp [intOf]; omega
          · have hje : j = (X k).length := by omega
            have Hpj := Lib.hid hpj
            have Hwj := Lib.hid hwj
            have Hje := Lib.hid hje
            clear hpj hwj hje
            have hj1 : ¬ (j : Int) < ((X k).length : Int) := by omega
            go_wp2_with fail
            go_roundw
            case rel =>
              have hcj : selsTo [44] true X (k + 1) = selsTo [44] true X k ++ [44] ++ compsTo true (X k) (X k).length := by
                simp only [selsTo]
                rw [if_neg (by have := Hzk.out; omega)]
              have hpe := Hpj.out
              rw [Hje.out] at hpe
              exact ⟨k + 1, by omega, by go_num, vj, by rw [hcj]; simpa only [List.append_assoc, List.nil_append, List.append_nil] using hpe, Hwj.out⟩
            case measure => simp [intOf]; omega
    · have hke : k = n := by omega
      have Hpr := Lib.hid hpr
      have Hwr := Lib.hid hwr
      have Hke := Lib.hid hke
      clear hpr hwr hke
      have hx1 : ¬ (k : Int) < (n : Int) := by omega
      go_wp2_with fail
      go_end0
      exact ⟨rfl, vr, by rw [← Hke.out]; exact Hpr.out, Hwr.out⟩
set_option maxHeartbeats 8000000 in
theorem sels_l (B b n gs : Nat) (X : Nat → List UInt8) (gc : Nat → Nat) (gn : Nat → Nat → Nat) (ind : Int) (out : List UInt8) (w : World) (vo : Option Addr) (h : Pr B b false false vo out w) (hs : SelsAt b vo n gs X gc gn w)
    (ho : out.length ≤ 1000000) (hn : n ≤ 1048576) (hx : ∀ i, i < n → (X i).length ≤ 1048576) (hb : ∀ k, k ≤ n → (selsTo ([44, 10] ++ spaces ind.toNat) false X k).length ≤ 1000000000) (hi1 : ind ≤ 65536) (hi0 : -2147483648 ≤ ind) :
    Calls Tryz.prog 13 #[.pointer (some ⟨b, 0, none⟩), .slice (some ⟨gs, 0, none⟩) n n, .int .i32 ind, .int .u8 0] w (Wrt B b false false vo (out ++ selsTo ([44, 10] ++ spaces ind.toNat) false X n) w) := by
  have hbs := h.lt_size
  have Hp := Lib.hid h
  have Hs := Lib.hid hs
  have Hb := Lib.hid hb
  have Hx := Lib.hid hx
  clear h hs hb hx
  go_enter Tryz.func13, Tryz.ntmps13
  go_wp2_with fail
  go_loopw [14] (fun i wr => ∃ k : Nat, k ≤ n ∧ i = .int .i64 k ∧ At B b false vo (out ++ selsTo ([44, 10] ++ spaces ind.toNat) false X k) w wr) (fun i _ => n - (intOf i).toNat)
  case atStart => exact ⟨0, by omega, rfl, vo, by simpa only [selsTo, List.append_nil] using Hp.out, Wrote.refl b vo w⟩
  case round =>
    obtain ⟨k, hk, rfl, vr, hpr, hwr⟩ := hrel
    by_cases hlt : k < n
    · have hbk := Hb.out k hk
      have hxk := Hx.out k hlt
      have hrow := hwr.cell (a := ⟨gs, k, none⟩) Hs.out.o1 (Hs.out.row k hlt)
      have p3 := hpr.cell 3 (by decide)
      have p6 := hpr.cell 6 (by decide)
      simp [pc] at p3 p6
      have hrb := hpr.lt_size
      have Hpr := Lib.hid hpr
      have Hwr := Lib.hid hwr
      clear hpr hwr
      have hx1 : (k : Int) < (n : Int) := by omega
      have hx0 : (0 : Int) ≤ (k : Int) := by omega
      rcases Nat.eq_zero_or_pos k with hz | hz
      · have Hzk := Lib.hid hz
        have hx2 : ¬ (0 : Int) < (k : Int) := by omega
        clear hz
        go_wp2_with fail
        have Hp1 : Hid (Pr B b false false vr (out ++ selsTo ([44, 10] ++ spaces ind.toNat) false X k) (wr.alloc (.cells #[.slice (some ⟨gc k, 0, none⟩) (X k).length (X k).length] 44))) := Lib.hid (Hpr.out.wrote ((Chg.refl Nowhere wr).alloc _))
        have Hw1 : Hid (Wrote b vo vr w (wr.alloc (.cells #[.slice (some ⟨gc k, 0, none⟩) (X k).length (X k).length] 44))) := Lib.hid (Hwr.out.alloc _)
        have Hv1 : Hid (Wrote b vr vr (wr.alloc (.cells #[.slice (some ⟨gc k, 0, none⟩) (X k).length (X k).length] 44)) (wr.alloc (.cells #[.slice (some ⟨gc k, 0, none⟩) (X k).length (X k).length] 44))) := Lib.hid (Wrote.refl b vr _)
        have Hpi := Hp1
        have Hwi := Hw1
        go_loopw [49] (fun i wq => ∃ j : Nat, j ≤ (X k).length ∧ i = .int .i64 j ∧ At B b false vo (out ++ selsTo ([44, 10] ++ spaces ind.toNat) false X k ++ compsTo false (X k) j) w wq) (fun i _ => (X k).length - (intOf i).toNat)
        case atStart => exact ⟨0, by omega, rfl, vr, by simpa only [compsTo, List.append_nil] using Hpi.out, Hwi.out⟩
        case round =>
          obtain ⟨j, hj, rfl, vj, hpj, hwj⟩ := hrel
          by_cases hlj : j < (X k).length
          · have c0 := hwj.cell (a := ⟨gc k, j * 6 + 0, none⟩) (Hs.out.o2 k hlt) (Hs.out.comp k hlt j hlj 0 (by decide))
            have c1 := hwj.cell (a := ⟨gc k, j * 6 + 1, none⟩) (Hs.out.o2 k hlt) (Hs.out.comp k hlt j hlj 1 (by decide))
            have c2 := hwj.cell (a := ⟨gc k, j * 6 + 2, none⟩) (Hs.out.o2 k hlt) (Hs.out.comp k hlt j hlj 2 (by decide))
            have c3 := hwj.cell (a := ⟨gc k, j * 6 + 3, none⟩) (Hs.out.o2 k hlt) (Hs.out.comp k hlt j hlj 3 (by decide))
            have c4 := hwj.cell (a := ⟨gc k, j * 6 + 4, none⟩) (Hs.out.o2 k hlt) (Hs.out.comp k hlt j hlj 4 (by decide))
            have c5 := hwj.cell (a := ⟨gc k, j * 6 + 5, none⟩) (Hs.out.o2 k hlt) (Hs.out.comp k hlt j hlj 5 (by decide))
            simp only [Nat.add_zero] at c0
            have hcl := compsTo_length false (X k) j
            have hjb := heap_lt (hwj.heap (Hs.out.o3 k hlt j hlj).1 (Hs.out.o3 k hlt j hlj).2 (Hs.out.nest k hlt j hlj))
            have hj1 : (j : Int) < ((X k).length : Int) := by omega
            have hj0 : (0 : Int) ≤ (j : Int) := by omega
            have hjs := hpj.lt_size
            have Hpj := Lib.hid hpj
            have Hwj := Lib.hid hwj
            clear hpj hwj
            generalize hby : byteOf (X k) j = y at c0 c1 c2 c3 c4 c5
            have Hby := Lib.hid hby
            clear hby
            have hy : y < 256 := by rw [← Hby.out]; exact byteOf_lt _ _
            generalize hgy : gn k j = gy at c0 c1 c2 c3 c4 c5
            have Hgy := Lib.hid hgy
            clear hgy
            simp only [compCells, List.getElem?_toArray, List.getElem?_cons_succ, List.getElem?_cons_zero] at c0 c1 c2 c3 c4 c5
            rcases Nat.eq_zero_or_pos j with hzj | hzj
            · have ej : ((j : Int) == 0) = true := beq_iff_eq.2 (by omega)
              have Hzj := Lib.hid hzj
              clear hzj
              go_wp2_with fail
              have hcb : Wrote b vj vj wr (wr.alloc (.cells #[.pointer none, .slice none 0 0, .slice (some ⟨gy, 0, none⟩) 1 1, .int .i32 0, .int .u8 (y : Int), .bool false] 42)) := (Wrote.refl b vj wr).alloc _
              refine (comp18 B b gy y true false hy ind (out ++ selsTo ([44, 10] ++ spaces ind.toNat) false X k ++ compsTo false (X k) j) _ vj (Hpj.out.wrote ((Chg.refl Nowhere wr).alloc _)) (by simp only [List.length_append, List.length_cons, List.length_nil, spaces_length]; omega) ((Hwj.out.trans hcb).heap (Hgy.out ▸ (Hs.out.o3 k hlt j hlj).1) (Hgy.out ▸ (Hs.out.o3 k hlt j hlj).2) (Hgy.out ▸ Hs.out.nest k hlt j hlj)) (Hgy.out ▸ (Hs.out.o3 k hlt j hlj).1) (Hwj.out.out (Hgy.out ▸ (Hs.out.o3 k hlt j hlj).2) (heap_lt (Hgy.out ▸ Hs.out.nest k hlt j hlj)))).mono ?_
              rintro ex wz ⟨rfl, vz, hpz, hwz⟩
              have Hpz := Lib.hid hpz
              have Hwz := Lib.hid (Hwj.out.trans (hcb.trans hwz))
              clear hpz hwz hcb
              go_wp2_with fail
              go_roundw
              case rel =>
                have hcj : compsTo false (X k) (j + 1) = compsTo false (X k) j ++ piece false true y := by
                  simp only [compsTo, Hby.out]
                  rw [show (j == 0) = true from beq_iff_eq.2 Hzj.out]
                exact ⟨j + 1, by omega, by go_num, vz, by rw [hcj, ← List.append_assoc]; exact Hpz.out, Hwz.out⟩
              case measure => simp [intOf]; omega
            · have ej : ((j : Int) == 0) = false := beq_eq_false_iff_ne.2 (by omega)
              have Hzj := Lib.hid hzj
              clear hzj
              go_wp2_with fail
              have hcb : Wrote b vj vj wr (wr.alloc (.cells #[.pointer none, .slice none 0 0, .slice (some ⟨gy, 0, none⟩) 1 1, .int .i32 0, .int .u8 (y : Int), .bool false] 42)) := (Wrote.refl b vj wr).alloc _
              refine (comp18 B b gy y false false hy ind (out ++ selsTo ([44, 10] ++ spaces ind.toNat) false X k ++ compsTo false (X k) j) _ vj (Hpj.out.wrote ((Chg.refl Nowhere wr).alloc _)) (by simp only [List.length_append, List.length_cons, List.length_nil, spaces_length]; omega) ((Hwj.out.trans hcb).heap (Hgy.out ▸ (Hs.out.o3 k hlt j hlj).1) (Hgy.out ▸ (Hs.out.o3 k hlt j hlj).2) (Hgy.out ▸ Hs.out.nest k hlt j hlj)) (Hgy.out ▸ (Hs.out.o3 k hlt j hlj).1) (Hwj.out.out (Hgy.out ▸ (Hs.out.o3 k hlt j hlj).2) (heap_lt (Hgy.out ▸ Hs.out.nest k hlt j hlj)))).mono ?_
              rintro ex wz ⟨rfl, vz, hpz, hwz⟩
              have Hpz := Lib.hid hpz
              have Hwz := Lib.hid (Hwj.out.trans (hcb.trans hwz))
              clear hpz hwz hcb
              go_wp2_with fail
              go_roundw
              case rel =>
                have hcj : compsTo false (X k) (j + 1) = compsTo false (X k) j ++ piece false false y := by
                  simp only [compsTo, Hby.out]
                  rw [show (j == 0) = false from beq_eq_false_iff_ne.2 (by have := Hzj.out; omega)]
                exact ⟨j + 1, by omega, by go_num, vz, by rw [hcj, ← List.append_assoc]; exact Hpz.out, Hwz.out⟩
              case measure => simp [intOf]; omega
          · have hje : j = (X k).length := by omega
            have Hpj := Lib.hid hpj
            have Hwj := Lib.hid hwj
            have Hje := Lib.hid hje
            clear hpj hwj hje
            have hj1 : ¬ (j : Int) < ((X k).length : Int) := by omega
            go_wp2_with fail
            go_roundw
            case rel =>
              have hcj : selsTo ([44, 10] ++ spaces ind.toNat) false X (k + 1) = selsTo ([44, 10] ++ spaces ind.toNat) false X k ++ [] ++ compsTo false (X k) (X k).length := by
                simp only [selsTo]
                rw [if_pos Hzk.out]
              have hpe := Hpj.out
              rw [Hje.out] at hpe
              exact ⟨k + 1, by omega, by go_num, vj, by rw [hcj]; simpa only [List.append_assoc, List.nil_append, List.append_nil] using hpe, Hwj.out⟩
            case measure => simp [intOf]; omega
      · have Hzk := Lib.hid hz
        have hx2 : (0 : Int) < (k : Int) := by omega
        clear hz
        go_wp2_with fail
        have Hp1 : Hid (Pr B b false false vr (out ++ selsTo ([44, 10] ++ spaces ind.toNat) false X k) (wr.alloc (.cells #[.slice (some ⟨gc k, 0, none⟩) (X k).length (X k).length] 44))) := Lib.hid (Hpr.out.wrote ((Chg.refl Nowhere wr).alloc _))
        have Hw1 : Hid (Wrote b vo vr w (wr.alloc (.cells #[.slice (some ⟨gc k, 0, none⟩) (X k).length (X k).length] 44))) := Lib.hid (Hwr.out.alloc _)
        have Hv1 : Hid (Wrote b vr vr (wr.alloc (.cells #[.slice (some ⟨gc k, 0, none⟩) (X k).length (X k).length] 44)) (wr.alloc (.cells #[.slice (some ⟨gc k, 0, none⟩) (X k).length (X k).length] 44))) := Lib.hid (Wrote.refl b vr _)
        refine (print_w B b false false vr (out ++ selsTo ([44, 10] ++ spaces ind.toNat) false X k) ⟨#[44, 10]⟩ (wr.alloc (.cells #[.slice (some ⟨gc k, 0, none⟩) (X k).length (X k).length] 44)) Hp1.out (by simp only [List.length_append]; omega) (by decide)).mono ?_
        rintro ex w2 ⟨rfl, v2, hp, hw⟩
        have Hp2 : Hid (Pr B b false false v2 (out ++ selsTo ([44, 10] ++ spaces ind.toNat) false X k ++ [44, 10]) w2) := Lib.hid hp
        have Hw2 : Hid (Wrote b vo v2 w w2) := Lib.hid (Hw1.out.trans hw)
        have Hv2 : Hid (Wrote b vr v2 (wr.alloc (.cells #[.slice (some ⟨gc k, 0, none⟩) (X k).length (X k).length] 44)) w2) := Lib.hid hw
        clear hp hw
        have hb2 : w2.heap[wr.heap.size]? = some (.cells #[.slice (some ⟨gc k, 0, none⟩) (X k).length (X k).length] 44) := Hv2.out.heap (by omega) (fun hh => by have := (Hpr.out.addr _ hh).2; omega) (heap_alloc_at wr _ _ rfl)
        have x2 := cell_of_heap hb2 0
        have z2 := heap_lt hb2
        simp at x2
        clear hb2
        have l2 := Hp2.out.cell 3 (by decide)
        simp [pc] at l2
        have s2 := Hp2.out.lt_size
        go_wp2_with fail
        refine (indent17 B b false ind (out ++ selsTo ([44, 10] ++ spaces ind.toNat) false X k ++ [44, 10]) w2 v2 Hp2.out (by simp only [List.length_append, List.length_cons, List.length_nil]; omega) hi1 hi0).mono ?_
        rintro ex w3 ⟨rfl, v3, hp, hw⟩
        have Hp3 : Hid (Pr B b false false v3 (out ++ selsTo ([44, 10] ++ spaces ind.toNat) false X k ++ [44, 10] ++ spaces ind.toNat) w3) := Lib.hid hp
        have Hw3 : Hid (Wrote b vo v3 w w3) := Lib.hid (Hw2.out.trans hw)
        have Hv3 : Hid (Wrote b vr v3 (wr.alloc (.cells #[.slice (some ⟨gc k, 0, none⟩) (X k).length (X k).length] 44)) w3) := Lib.hid (Hv2.out.trans hw)
        clear hp hw
        have hb3 : w3.heap[wr.heap.size]? = some (.cells #[.slice (some ⟨gc k, 0, none⟩) (X k).length (X k).length] 44) := Hv3.out.heap (by omega) (fun hh => by have := (Hpr.out.addr _ hh).2; omega) (heap_alloc_at wr _ _ rfl)
        have x3 := cell_of_heap hb3 0
        have z3 := heap_lt hb3
        simp at x3
        clear hb3
        have l3 := Hp3.out.cell 3 (by decide)
        simp [pc] at l3
        have s3 := Hp3.out.lt_size
        go_wp2_with fail
        have Hpi : Hid (Pr B b false false v3 (out ++ selsTo ([44, 10] ++ spaces ind.toNat) false X k ++ ([44, 10] ++ spaces ind.toNat)) w3) := Lib.hid (by have := Hp3.out; rwa [List.append_assoc] at this)
        have Hwi := Hw3
        have hsl := spaces_length ind.toNat
        go_loopw [49] (fun i wq => ∃ j : Nat, j ≤ (X k).length ∧ i = .int .i64 j ∧ At B b false vo (out ++ selsTo ([44, 10] ++ spaces ind.toNat) false X k ++ ([44, 10] ++ spaces ind.toNat) ++ compsTo false (X k) j) w wq) (fun i _ => (X k).length - (intOf i).toNat)
        case atStart => exact ⟨0, by omega, rfl, v3, by simpa only [compsTo, List.append_nil] using Hpi.out, Hwi.out⟩
        case round =>
          obtain ⟨j, hj, rfl, vj, hpj, hwj⟩ := hrel
          by_cases hlj : j < (X k).length
          · have c0 := hwj.cell (a := ⟨gc k, j * 6 + 0, none⟩) (Hs.out.o2 k hlt) (Hs.out.comp k hlt j hlj 0 (by decide))
            have c1 := hwj.cell (a := ⟨gc k, j * 6 + 1, none⟩) (Hs.out.o2 k hlt) (Hs.out.comp k hlt j hlj 1 (by decide))
            have c2 := hwj.cell (a := ⟨gc k, j * 6 + 2, none⟩) (Hs.out.o2 k hlt) (Hs.out.comp k hlt j hlj 2 (by decide))
            have c3 := hwj.cell (a := ⟨gc k, j * 6 + 3, none⟩) (Hs.out.o2 k hlt) (Hs.out.comp k hlt j hlj 3 (by decide))
            have c4 := hwj.cell (a := ⟨gc k, j * 6 + 4, none⟩) (Hs.out.o2 k hlt) (Hs.out.comp k hlt j hlj 4 (by decide))
            have c5 := hwj.cell (a := ⟨gc k, j * 6 + 5, none⟩) (Hs.out.o2 k hlt) (Hs.out.comp k hlt j hlj 5 (by decide))
            simp only [Nat.add_zero] at c0
            have hcl := compsTo_length false (X k) j
            have hjb := heap_lt (hwj.heap (Hs.out.o3 k hlt j hlj).1 (Hs.out.o3 k hlt j hlj).2 (Hs.out.nest k hlt j hlj))
            have hj1 : (j : Int) < ((X k).length : Int) := by omega
            have hj0 : (0 : Int) ≤ (j : Int) := by omega
            have hjs := hpj.lt_size
            have Hpj := Lib.hid hpj
            have Hwj := Lib.hid hwj
            clear hpj hwj
            generalize hby : byteOf (X k) j = y at c0 c1 c2 c3 c4 c5
            have Hby := Lib.hid hby
            clear hby
            have hy : y < 256 := by rw [← Hby.out]; exact byteOf_lt _ _
            generalize hgy : gn k j = gy at c0 c1 c2 c3 c4 c5
            have Hgy := Lib.hid hgy
            clear hgy
            simp only [compCells, List.getElem?_toArray, List.getElem?_cons_succ, List.getElem?_cons_zero] at c0 c1 c2 c3 c4 c5
            rcases Nat.eq_zero_or_pos j with hzj | hzj
            · have ej : ((j : Int) == 0) = true := beq_iff_eq.2 (by omega)
              have Hzj := Lib.hid hzj
              clear hzj
              go_wp2_with fail
              have hcb : Wrote b vj vj wr (wr.alloc (.cells #[.pointer none, .slice none 0 0, .slice (some ⟨gy, 0, none⟩) 1 1, .int .i32 0, .int .u8 (y : Int), .bool false] 42)) := (Wrote.refl b vj wr).alloc _
              refine (comp18 B b gy y true false hy ind (out ++ selsTo ([44, 10] ++ spaces ind.toNat) false X k ++ ([44, 10] ++ spaces ind.toNat) ++ compsTo false (X k) j) _ vj (Hpj.out.wrote ((Chg.refl Nowhere wr).alloc _)) (by simp only [List.length_append, List.length_cons, List.length_nil, spaces_length]; omega) ((Hwj.out.trans hcb).heap (Hgy.out ▸ (Hs.out.o3 k hlt j hlj).1) (Hgy.out ▸ (Hs.out.o3 k hlt j hlj).2) (Hgy.out ▸ Hs.out.nest k hlt j hlj)) (Hgy.out ▸ (Hs.out.o3 k hlt j hlj).1) (Hwj.out.out (Hgy.out ▸ (Hs.out.o3 k hlt j hlj).2) (heap_lt (Hgy.out ▸ Hs.out.nest k hlt j hlj)))).mono ?_
              rintro ex wz ⟨rfl, vz, hpz, hwz⟩
              have Hpz := Lib.hid hpz
              have Hwz := Lib.hid (Hwj.out.trans (hcb.trans hwz))
              clear hpz hwz hcb
              go_wp2_with fail
              go_roundw
              case rel =>
                have hcj : compsTo false (X k) (j + 1) = compsTo false (X k) j ++ piece false true y := by
                  simp only [compsTo, Hby.out]
                  rw [show (j == 0) = true from beq_iff_eq.2 Hzj.out]
                exact ⟨j + 1, by omega, by go_num, vz, by rw [hcj, ← List.append_assoc]; exact Hpz.out, Hwz.out⟩
              case measure => simp [intOf]; omega
            · have ej : ((j : Int) == 0) = false := beq_eq_false_iff_ne.2 (by omega)
              have Hzj := Lib.hid hzj
              clear hzj
              go_wp2_with fail
              have hcb : Wrote b vj vj wr (wr.alloc (.cells #[.pointer none, .slice none 0 0, .slice (some ⟨gy, 0, none⟩) 1 1, .int .i32 0, .int .u8 (y : Int), .bool false] 42)) := (Wrote.refl b vj wr).alloc _
              refine (comp18 B b gy y false false hy ind (out ++ selsTo ([44, 10] ++ spaces ind.toNat) false X k ++ ([44, 10] ++ spaces ind.toNat) ++ compsTo false (X k) j) _ vj (Hpj.out.wrote ((Chg.refl Nowhere wr).alloc _)) (by simp only [List.length_append, List.length_cons, List.length_nil, spaces_length]; omega) ((Hwj.out.trans hcb).heap (Hgy.out ▸ (Hs.out.o3 k hlt j hlj).1) (Hgy.out ▸ (Hs.out.o3 k hlt j hlj).2) (Hgy.out ▸ Hs.out.nest k hlt j hlj)) (Hgy.out ▸ (Hs.out.o3 k hlt j hlj).1) (Hwj.out.out (Hgy.out ▸ (Hs.out.o3 k hlt j hlj).2) (heap_lt (Hgy.out ▸ Hs.out.nest k hlt j hlj)))).mono ?_
              rintro ex wz ⟨rfl, vz, hpz, hwz⟩
              have Hpz := Lib.hid hpz
              have Hwz := Lib.hid (Hwj.out.trans (hcb.trans hwz))
              clear hpz hwz hcb
              go_wp2_with fail
              go_roundw
              case rel =>
                have hcj : compsTo false (X k) (j + 1) = compsTo false (X k) j ++ piece false false y := by
                  simp only [compsTo, Hby.out]
                  rw [show (j == 0) = false from beq_eq_false_iff_ne.2 (by have := Hzj.out; omega)]
                exact ⟨j + 1, by omega, by go_num, vz, by rw [hcj, ← List.append_assoc]; exact Hpz.out, Hwz.out⟩
              case measure => simp [intOf]; omega
          · have hje : j = (X k).length := by omega
            have Hpj := Lib.hid hpj
            have Hwj := Lib.hid hwj
            have Hje := Lib.hid hje
            clear hpj hwj hje
            have hj1 : ¬ (j : Int) < ((X k).length : Int) := by omega
            go_wp2_with fail
            go_roundw
            case rel =>
              have hcj : selsTo ([44, 10] ++ spaces ind.toNat) false X (k + 1) = selsTo ([44, 10] ++ spaces ind.toNat) false X k ++ ([44, 10] ++ spaces ind.toNat) ++ compsTo false (X k) (X k).length := by
                simp only [selsTo]
                rw [if_neg (by have := Hzk.out; omega)]
              have hpe := Hpj.out
              rw [Hje.out] at hpe
              exact ⟨k + 1, by omega, by go_num, vj, by rw [hcj]; simpa only [List.append_assoc, List.nil_append, List.append_nil] using hpe, Hwj.out⟩
            case measure => simp [intOf]; omega
    · have hke : k = n := by omega
      have Hpr := Lib.hid hpr
      have Hwr := Lib.hid hwr
      have Hke := Lib.hid hke
      clear hpr hwr hke
      have hx1 : ¬ (k : Int) < (n : Int) := by omega
      go_wp2_with fail
      go_end0
      exact ⟨rfl, vr, by rw [← Hke.out]; exact Hpr.out, Hwr.out⟩
set_option maxHeartbeats 8000000 in
theorem sels_s (B b n gs : Nat) (X : Nat → List UInt8) (gc : Nat → Nat) (gn : Nat → Nat → Nat) (lay : Int) (hlay : lay ≠ 0) (ind : Int) (out : List UInt8) (w : World) (vo : Option Addr) (h : Pr B b false false vo out w) (hs : SelsAt b vo n gs X gc gn w)
    (ho : out.length ≤ 1000000) (hn : n ≤ 1048576) (hx : ∀ i, i < n → (X i).length ≤ 1048576) (hb : ∀ k, k ≤ n → (selsTo [44, 32] false X k).length ≤ 1000000000) (hi1 : ind ≤ 65536) (hi0 : -2147483648 ≤ ind) :
    Calls Tryz.prog 13 #[.pointer (some ⟨b, 0, none⟩), .slice (some ⟨gs, 0, none⟩) n n, .int .i32 ind, .int .u8 lay] w (Wrt B b false false vo (out ++ selsTo [44, 32] false X n) w) := by
  have hbs := h.lt_size
  have Hp := Lib.hid h
  have Hs := Lib.hid hs
  have Hb := Lib.hid hb
  have Hx := Lib.hid hx
  clear h hs hb hx
  have el : (lay == 0) = false := beq_eq_false_iff_ne.2 hlay
  clear hlay
  go_enter Tryz.func13, Tryz.ntmps13
  go_wp2_with fail
  go_loopw [14] (fun i wr => ∃ k : Nat, k ≤ n ∧ i = .int .i64 k ∧ At B b false vo (out ++ selsTo [44, 32] false X k) w wr) (fun i _ => n - (intOf i).toNat)
  case atStart => exact ⟨0, by omega, rfl, vo, by simpa only [selsTo, List.append_nil] using Hp.out, Wrote.refl b vo w⟩
  case round =>
    obtain ⟨k, hk, rfl, vr, hpr, hwr⟩ := hrel
    by_cases hlt : k < n
    · have hbk := Hb.out k hk
      have hxk := Hx.out k hlt
      have hrow := hwr.cell (a := ⟨gs, k, none⟩) Hs.out.o1 (Hs.out.row k hlt)
      have p3 := hpr.cell 3 (by decide)
      have p6 := hpr.cell 6 (by decide)
      simp [pc] at p3 p6
      have hrb := hpr.lt_size
      have Hpr := Lib.hid hpr
      have Hwr := Lib.hid hwr
      clear hpr hwr
      have hx1 : (k : Int) < (n : Int) := by omega
      have hx0 : (0 : Int) ≤ (k : Int) := by omega
      rcases Nat.eq_zero_or_pos k with hz | hz
      · have Hzk := Lib.hid hz
        have hx2 : ¬ (0 : Int) < (k : Int) := by omega
        clear hz
        go_wp2_with fail
        have Hp1 : Hid (Pr B b false false vr (out ++ selsTo [44, 32] false X k) (wr.alloc (.cells #[.slice (some ⟨gc k, 0, none⟩) (X k).length (X k).length] 44))) := Lib.hid (Hpr.out.wrote ((Chg.refl Nowhere wr).alloc _))
        have Hw1 : Hid (Wrote b vo vr w (wr.alloc (.cells #[.slice (some ⟨gc k, 0, none⟩) (X k).length (X k).length] 44))) := Lib.hid (Hwr.out.alloc _)
        have Hv1 : Hid (Wrote b vr vr (wr.alloc (.cells #[.slice (some ⟨gc k, 0, none⟩) (X k).length (X k).length] 44)) (wr.alloc (.cells #[.slice (some ⟨gc k, 0, none⟩) (X k).length (X k).length] 44))) := Lib.hid (Wrote.refl b vr _)
        have Hpi := Hp1
        have Hwi := Hw1
        go_loopw [49] (fun i wq => ∃ j : Nat, j ≤ (X k).length ∧ i = .int .i64 j ∧ At B b false vo (out ++ selsTo [44, 32] false X k ++ compsTo false (X k) j) w wq) (fun i _ => (X k).length - (intOf i).toNat)
        case atStart => exact ⟨0, by omega, rfl, vr, by simpa only [compsTo, List.append_nil] using Hpi.out, Hwi.out⟩
        case round =>
          obtain ⟨j, hj, rfl, vj, hpj, hwj⟩ := hrel
          by_cases hlj : j < (X k).length
          · have c0 := hwj.cell (a := ⟨gc k, j * 6 + 0, none⟩) (Hs.out.o2 k hlt) (Hs.out.comp k hlt j hlj 0 (by decide))
            have c1 := hwj.cell (a := ⟨gc k, j * 6 + 1, none⟩) (Hs.out.o2 k hlt) (Hs.out.comp k hlt j hlj 1 (by decide))
            have c2 := hwj.cell (a := ⟨gc k, j * 6 + 2, none⟩) (Hs.out.o2 k hlt) (Hs.out.comp k hlt j hlj 2 (by decide))
            have c3 := hwj.cell (a := ⟨gc k, j * 6 + 3, none⟩) (Hs.out.o2 k hlt) (Hs.out.comp k hlt j hlj 3 (by decide))
            have c4 := hwj.cell (a := ⟨gc k, j * 6 + 4, none⟩) (Hs.out.o2 k hlt) (Hs.out.comp k hlt j hlj 4 (by decide))
            have c5 := hwj.cell (a := ⟨gc k, j * 6 + 5, none⟩) (Hs.out.o2 k hlt) (Hs.out.comp k hlt j hlj 5 (by decide))
            simp only [Nat.add_zero] at c0
            have hcl := compsTo_length false (X k) j
            have hjb := heap_lt (hwj.heap (Hs.out.o3 k hlt j hlj).1 (Hs.out.o3 k hlt j hlj).2 (Hs.out.nest k hlt j hlj))
            have hj1 : (j : Int) < ((X k).length : Int) := by omega
            have hj0 : (0 : Int) ≤ (j : Int) := by omega
            have hjs := hpj.lt_size
            have Hpj := Lib.hid hpj
            have Hwj := Lib.hid hwj
            clear hpj hwj
            generalize hby : byteOf (X k) j = y at c0 c1 c2 c3 c4 c5
            have Hby := Lib.hid hby
            clear hby
            have hy : y < 256 := by rw [← Hby.out]; exact byteOf_lt _ _
            generalize hgy : gn k j = gy at c0 c1 c2 c3 c4 c5
            have Hgy := Lib.hid hgy
            clear hgy
            simp only [compCells, List.getElem?_toArray, List.getElem?_cons_succ, List.getElem?_cons_zero] at c0 c1 c2 c3 c4 c5
            rcases Nat.eq_zero_or_pos j with hzj | hzj
            · have ej : ((j : Int) == 0) = true := beq_iff_eq.2 (by omega)
              have Hzj := Lib.hid hzj
              clear hzj
              go_wp2_with fail
              have hcb : Wrote b vj vj wr (wr.alloc (.cells #[.pointer none, .slice none 0 0, .slice (some ⟨gy, 0, none⟩) 1 1, .int .i32 0, .int .u8 (y : Int), .bool false] 42)) := (Wrote.refl b vj wr).alloc _
              refine (comp18 B b gy y true false hy ind (out ++ selsTo [44, 32] false X k ++ compsTo false (X k) j) _ vj (Hpj.out.wrote ((Chg.refl Nowhere wr).alloc _)) (by simp only [List.length_append, List.length_cons, List.length_nil, spaces_length]; omega) ((Hwj.out.trans hcb).heap (Hgy.out ▸ (Hs.out.o3 k hlt j hlj).1) (Hgy.out ▸ (Hs.out.o3 k hlt j hlj).2) (Hgy.out ▸ Hs.out.nest k hlt j hlj)) (Hgy.out ▸ (Hs.out.o3 k hlt j hlj).1) (Hwj.out.out (Hgy.out ▸ (Hs.out.o3 k hlt j hlj).2) (heap_lt (Hgy.out ▸ Hs.out.nest k hlt j hlj)))).mono ?_
              rintro ex wz ⟨rfl, vz, hpz, hwz⟩
              have Hpz := Lib.hid hpz
              have Hwz := Lib.hid (Hwj.out.trans (hcb.trans hwz))
              clear hpz hwz hcb
              go_wp2_with fail
              go_roundw
              case rel =>
                have hcj : compsTo false (X k) (j + 1) = compsTo false (X k) j ++ piece false true y := by
                  simp only [compsTo, Hby.out]
                  rw [show (j == 0) = true from beq_iff_eq.2 Hzj.out]
                exact ⟨j + 1, by omega, by go_num, vz, by rw [hcj, ← List.append_assoc]; exact Hpz.out, Hwz.out⟩
              case measure => simp [intOf]; omega
            · have ej : ((j : Int) == 0) = false := beq_eq_false_iff_ne.2 (by omega)
              have Hzj := Lib.hid hzj
              clear hzj
              go_wp2_with fail
              have hcb : Wrote b vj vj wr (wr.alloc (.cells #[.pointer none, .slice none 0 0, .slice (some ⟨gy, 0, none⟩) 1 1, .int .i32 0, .int .u8 (y : Int), .bool false] 42)) := (Wrote.refl b vj wr).alloc _
              refine (comp18 B b gy y false false hy ind (out ++ selsTo [44, 32] false X k ++ compsTo false (X k) j) _ vj (Hpj.out.wrote ((Chg.refl Nowhere wr).alloc _)) (by simp only [List.length_append, List.length_cons, List.length_nil, spaces_length]; omega) ((Hwj.out.trans hcb).heap (Hgy.out ▸ (Hs.out.o3 k hlt j hlj).1) (Hgy.out ▸ (Hs.out.o3 k hlt j hlj).2) (Hgy.out ▸ Hs.out.nest k hlt j hlj)) (Hgy.out ▸ (Hs.out.o3 k hlt j hlj).1) (Hwj.out.out (Hgy.out ▸ (Hs.out.o3 k hlt j hlj).2) (heap_lt (Hgy.out ▸ Hs.out.nest k hlt j hlj)))).mono ?_
              rintro ex wz ⟨rfl, vz, hpz, hwz⟩
              have Hpz := Lib.hid hpz
              have Hwz := Lib.hid (Hwj.out.trans (hcb.trans hwz))
              clear hpz hwz hcb
              go_wp2_with fail
              go_roundw
              case rel =>
                have hcj : compsTo false (X k) (j + 1) = compsTo false (X k) j ++ piece false false y := by
                  simp only [compsTo, Hby.out]
                  rw [show (j == 0) = false from beq_eq_false_iff_ne.2 (by have := Hzj.out; omega)]
                exact ⟨j + 1, by omega, by go_num, vz, by rw [hcj, ← List.append_assoc]; exact Hpz.out, Hwz.out⟩
              case measure => simp [intOf]; omega
          · have hje : j = (X k).length := by omega
            have Hpj := Lib.hid hpj
            have Hwj := Lib.hid hwj
            have Hje := Lib.hid hje
            clear hpj hwj hje
            have hj1 : ¬ (j : Int) < ((X k).length : Int) := by omega
            go_wp2_with fail
            go_roundw
            case rel =>
              have hcj : selsTo [44, 32] false X (k + 1) = selsTo [44, 32] false X k ++ [] ++ compsTo false (X k) (X k).length := by
                simp only [selsTo]
                rw [if_pos Hzk.out]
              have hpe := Hpj.out
              rw [Hje.out] at hpe
              exact ⟨k + 1, by omega, by go_num, vj, by rw [hcj]; simpa only [List.append_assoc, List.nil_append, List.append_nil] using hpe, Hwj.out⟩
            case measure => simp [intOf]; omega
      · have Hzk := Lib.hid hz
        have hx2 : (0 : Int) < (k : Int) := by omega
        clear hz
        go_wp2_with fail
        have Hp1 : Hid (Pr B b false false vr (out ++ selsTo [44, 32] false X k) (wr.alloc (.cells #[.slice (some ⟨gc k, 0, none⟩) (X k).length (X k).length] 44))) := Lib.hid (Hpr.out.wrote ((Chg.refl Nowhere wr).alloc _))
        have Hw1 : Hid (Wrote b vo vr w (wr.alloc (.cells #[.slice (some ⟨gc k, 0, none⟩) (X k).length (X k).length] 44))) := Lib.hid (Hwr.out.alloc _)
        have Hv1 : Hid (Wrote b vr vr (wr.alloc (.cells #[.slice (some ⟨gc k, 0, none⟩) (X k).length (X k).length] 44)) (wr.alloc (.cells #[.slice (some ⟨gc k, 0, none⟩) (X k).length (X k).length] 44))) := Lib.hid (Wrote.refl b vr _)
        refine (print_w B b false false vr (out ++ selsTo [44, 32] false X k) ⟨#[44, 32]⟩ (wr.alloc (.cells #[.slice (some ⟨gc k, 0, none⟩) (X k).length (X k).length] 44)) Hp1.out (by simp only [List.length_append]; omega) (by decide)).mono ?_
        rintro ex w2 ⟨rfl, v2, hp, hw⟩
        have Hp2 : Hid (Pr B b false false v2 (out ++ selsTo [44, 32] false X k ++ [44, 32]) w2) := Lib.hid hp
        have Hw2 : Hid (Wrote b vo v2 w w2) := Lib.hid (Hw1.out.trans hw)
        have Hv2 : Hid (Wrote b vr v2 (wr.alloc (.cells #[.slice (some ⟨gc k, 0, none⟩) (X k).length (X k).length] 44)) w2) := Lib.hid hw
        clear hp hw
        have hb2 : w2.heap[wr.heap.size]? = some (.cells #[.slice (some ⟨gc k, 0, none⟩) (X k).length (X k).length] 44) := Hv2.out.heap (by omega) (fun hh => by have := (Hpr.out.addr _ hh).2; omega) (heap_alloc_at wr _ _ rfl)
        have x2 := cell_of_heap hb2 0
        have z2 := heap_lt hb2
        simp at x2
        clear hb2
        have l2 := Hp2.out.cell 3 (by decide)
        simp [pc] at l2
        have s2 := Hp2.out.lt_size
        go_wp2_with fail
        have Hpi := Hp2
        have Hwi := Hw2
        go_loopw [49] (fun i wq => ∃ j : Nat, j ≤ (X k).length ∧ i = .int .i64 j ∧ At B b false vo (out ++ selsTo [44, 32] false X k ++ [44, 32] ++ compsTo false (X k) j) w wq) (fun i _ => (X k).length - (intOf i).toNat)
        case atStart => exact ⟨0, by omega, rfl, v2, by simpa only [compsTo, List.append_nil] using Hpi.out, Hwi.out⟩
        case round =>
          obtain ⟨j, hj, rfl, vj, hpj, hwj⟩ := hrel
          by_cases hlj : j < (X k).length
          · have c0 := hwj.cell (a := ⟨gc k, j * 6 + 0, none⟩) (Hs.out.o2 k hlt) (Hs.out.comp k hlt j hlj 0 (by decide))
            have c1 := hwj.cell (a := ⟨gc k, j * 6 + 1, none⟩) (Hs.out.o2 k hlt) (Hs.out.comp k hlt j hlj 1 (by decide))
            have c2 := hwj.cell (a := ⟨gc k, j * 6 + 2, none⟩) (Hs.out.o2 k hlt) (Hs.out.comp k hlt j hlj 2 (by decide))
            have c3 := hwj.cell (a := ⟨gc k, j * 6 + 3, none⟩) (Hs.out.o2 k hlt) (Hs.out.comp k hlt j hlj 3 (by decide))
            have c4 := hwj.cell (a := ⟨gc k, j * 6 + 4, none⟩) (Hs.out.o2 k hlt) (Hs.out.comp k hlt j hlj 4 (by decide))
            have c5 := hwj.cell (a := ⟨gc k, j * 6 + 5, none⟩) (Hs.out.o2 k hlt) (Hs.out.comp k hlt j hlj 5 (by decide))
            simp only [Nat.add_zero] at c0
            have hcl := compsTo_length false (X k) j
            have hjb := heap_lt (hwj.heap (Hs.out.o3 k hlt j hlj).1 (Hs.out.o3 k hlt j hlj).2 (Hs.out.nest k hlt j hlj))
            have hj1 : (j : Int) < ((X k).length : Int) := by omega
            have hj0 : (0 : Int) ≤ (j : Int) := by omega
            have hjs := hpj.lt_size
            have Hpj := Lib.hid hpj
            have Hwj := Lib.hid hwj
            clear hpj hwj
            generalize hby : byteOf (X k) j = y at c0 c1 c2 c3 c4 c5
            have Hby := Lib.hid hby
            clear hby
            have hy : y < 256 := by rw [← Hby.out]; exact byteOf_lt _ _
            generalize hgy : gn k j = gy at c0 c1 c2 c3 c4 c5
            have Hgy := Lib.hid hgy
            clear hgy
            simp only [compCells, List.getElem?_toArray, List.getElem?_cons_succ, List.getElem?_cons_zero] at c0 c1 c2 c3 c4 c5
            rcases Nat.eq_zero_or_pos j with hzj | hzj
            · have ej : ((j : Int) == 0) = true := beq_iff_eq.2 (by omega)
              have Hzj := Lib.hid hzj
              clear hzj
              go_wp2_with fail
              have hcb : Wrote b vj vj wr (wr.alloc (.cells #[.pointer none, .slice none 0 0, .slice (some ⟨gy, 0, none⟩) 1 1, .int .i32 0, .int .u8 (y : Int), .bool false] 42)) := (Wrote.refl b vj wr).alloc _
              refine (comp18 B b gy y true false hy ind (out ++ selsTo [44, 32] false X k ++ [44, 32] ++ compsTo false (X k) j) _ vj (Hpj.out.wrote ((Chg.refl Nowhere wr).alloc _)) (by simp only [List.length_append, List.length_cons, List.length_nil, spaces_length]; omega) ((Hwj.out.trans hcb).heap (Hgy.out ▸ (Hs.out.o3 k hlt j hlj).1) (Hgy.out ▸ (Hs.out.o3 k hlt j hlj).2) (Hgy.out ▸ Hs.out.nest k hlt j hlj)) (Hgy.out ▸ (Hs.out.o3 k hlt j hlj).1) (Hwj.out.out (Hgy.out ▸ (Hs.out.o3 k hlt j hlj).2) (heap_lt (Hgy.out ▸ Hs.out.nest k hlt j hlj)))).mono ?_
              rintro ex wz ⟨rfl, vz, hpz, hwz⟩
              have Hpz := Lib.hid hpz
              have Hwz := Lib.hid (Hwj.out.trans (hcb.trans hwz))
              clear hpz hwz hcb
              go_wp2_with fail
              go_roundw
              case rel =>
                have hcj : compsTo false (X k) (j + 1) = compsTo false (X k) j ++ piece false true y := by
                  simp only [compsTo, Hby.out]
                  rw [show (j == 0) = true from beq_iff_eq.2 Hzj.out]
                exact ⟨j + 1, by omega, by go_num, vz, by rw [hcj, ← List.append_assoc]; exact Hpz.out, Hwz.out⟩
              case measure => simp [intOf]; omega
            · have ej : ((j : Int) == 0) = false := beq_eq_false_iff_ne.2 (by omega)
              have Hzj := Lib.hid hzj
              clear hzj
              go_wp2_with fail
              have hcb : Wrote b vj vj wr (wr.alloc (.cells #[.pointer none, .slice none 0 0, .slice (some ⟨gy, 0, none⟩) 1 1, .int .i32 0, .int .u8 (y : Int), .bool false] 42)) := (Wrote.refl b vj wr).alloc _
              refine (comp18 B b gy y false false hy ind (out ++ selsTo [44, 32] false X k ++ [44, 32] ++ compsTo false (X k) j) _ vj (Hpj.out.wrote ((Chg.refl Nowhere wr).alloc _)) (by simp only [List.length_append, List.length_cons, List.length_nil, spaces_length]; omega) ((Hwj.out.trans hcb).heap (Hgy.out ▸ (Hs.out.o3 k hlt j hlj).1) (Hgy.out ▸ (Hs.out.o3 k hlt j hlj).2) (Hgy.out ▸ Hs.out.nest k hlt j hlj)) (Hgy.out ▸ (Hs.out.o3 k hlt j hlj).1) (Hwj.out.out (Hgy.out ▸ (Hs.out.o3 k hlt j hlj).2) (heap_lt (Hgy.out ▸ Hs.out.nest k hlt j hlj)))).mono ?_
              rintro ex wz ⟨rfl, vz, hpz, hwz⟩
              have Hpz := Lib.hid hpz
              have Hwz := Lib.hid (Hwj.out.trans (hcb.trans hwz))
              clear hpz hwz hcb
              go_wp2_with fail
              go_roundw
              case rel =>
                have hcj : compsTo false (X k) (j + 1) = compsTo false (X k) j ++ piece false false y := by
                  simp only [compsTo, Hby.out]
                  rw [show (j == 0) = false from beq_eq_false_iff_ne.2 (by have := Hzj.out; omega)]
                exact ⟨j + 1, by omega, by go_num, vz, by rw [hcj, ← List.append_assoc]; exact Hpz.out, Hwz.out⟩
              case measure => simp [intOf]; omega
          · have hje : j = (X k).length := by omega
            have Hpj := Lib.hid hpj
            have Hwj := Lib.hid hwj
            have Hje := Lib.hid hje
            clear hpj hwj hje
            have hj1 : ¬ (j : Int) < ((X k).length : Int) := by omega
            go_wp2_with fail
            go_roundw
            case rel =>
              have hcj : selsTo [44, 32] false X (k + 1) = selsTo [44, 32] false X k ++ [44, 32] ++ compsTo false (X k) (X k).length := by
                simp only [selsTo]
                rw [if_neg (by have := Hzk.out; omega)]
              have hpe := Hpj.out
              rw [Hje.out] at hpe
              exact ⟨k + 1, by omega, by go_num, vj, by rw [hcj]; simpa only [List.append_assoc, List.nil_append, List.append_nil] using hpe, Hwj.out⟩
            case measure => simp [intOf]; omega
    · have hke : k = n := by omega
      have Hpr := Lib.hid hpr
      have Hwr := Lib.hid hwr
      have Hke := Lib.hid hke
      clear hpr hwr hke
      have hx1 : ¬ (k : Int) < (n : Int) := by omega
      go_wp2_with fail
      go_end0
      exact ⟨rfl, vr, by rw [← Hke.out]; exact Hpr.out, Hwr.out⟩
end Go.Proofs.YtadmncfemgmioaaGreatFmt
