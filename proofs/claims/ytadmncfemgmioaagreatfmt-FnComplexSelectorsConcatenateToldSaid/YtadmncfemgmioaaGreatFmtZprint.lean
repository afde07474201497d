/-
  Proved: contracts of zzNewPrinterB2 and ZZprintComplexSelectors. No statement of the seat stands here.
-/
import Derived.Test.YtadmncfemgmioaaGreatFmtBuild
namespace Go.Proofs.YtadmncfemgmioaaGreatFmt
open Go.RowKit Go.ChangeAt
set_option linter.unusedSimpArgs false
set_option linter.unusedVariables false
set_option maxRecDepth 100000
def byteAt (l : List UInt8) (i : Nat) : Value := .int .u8 (byteOf l i : Int)
/-- A slice of n slices of bytes. -/
structure Nested (w : World) (a : Option Addr) (n : Nat) (X : Nat → List UInt8) (ca : Nat → Option Addr) (cc : Nat → Nat) : Prop where
  row : Reads w a n fun i => .slice (ca i) (X i).length (cc i)
  each : ∀ i, i < n → Reads w (ca i) (X i).length (byteAt (X i))
theorem Nested.kept {w w' : World} {a : Option Addr} {n : Nat} {X : Nat → List UInt8} {ca : Nat → Option Addr} {cc : Nat → Nat} (h : Nested w a n X ca cc) (hc : Chg Nowhere w w') : Nested w' a n X ca cc :=
  ⟨h.row.kept hc (fun _ _ _ h => h), fun i hi => (h.each i hi).kept hc (fun _ _ _ h => h)⟩
/-- A fresh row of bytes. -/
def RowOut (T : List UInt8) (w : World) (e : Ending) (w' : World) : Prop :=
  ∃ vo vc, e = .returned (.slice vo T.length vc) ∧ w'.ownsRow w.heap.size 5 1 (.slice vo T.length vc) T.length (Lib.byteCells T) ∧ Chg Nowhere w w'
def NewP (m : Bool) (w : World) (e : Ending) (w' : World) : Prop := e = .returned (.pointer (some ⟨w.heap.size, 0, none⟩)) ∧ w' = w.alloc (.cells (pc m false (.slice none 0 0)) 74)
theorem new12 (m : Bool) (w : World) : Calls Tryz.prog 12 #[.bool m, .int .i64 0, .bool true, .slice none 0 0] w (NewP m w) := by
  go_enter Tryz.func12, Tryz.ntmps12
  go_wp2
  go_ret
  exact ⟨rfl, rfl⟩
theorem sels13 (m : Bool) (B b n gs : Nat) (X : Nat → List UInt8) (gc : Nat → Nat) (gn : Nat → Nat → Nat) (lay ind : Int) (out : List UInt8) (w : World) (vo : Option Addr) (h : Pr B b m false vo out w) (hs : SelsAt b vo n gs X gc gn w)
    (ho : out.length ≤ 1000000) (hn : n ≤ 1048576) (hx : ∀ i, i < n → (X i).length ≤ 1048576) (hb : ∀ k, k ≤ n → (selsTo (sepT m lay ind) m X k).length ≤ 1000000000) (hi1 : ind ≤ 65536) (hi0 : -2147483648 ≤ ind) :
    Calls Tryz.prog 13 #[.pointer (some ⟨b, 0, none⟩), .slice (some ⟨gs, 0, none⟩) n n, .int .i32 ind, .int .u8 lay] w (Wrt B b m false vo (out ++ selsTo (sepT m lay ind) m X n) w) := by
  cases m
  · by_cases hl : lay = 0
    · subst hl
      exact sels_l B b n gs X gc gn ind out w vo h hs ho hn hx hb hi1 hi0
    · have e : sepT false lay ind = [44, 32] := by simp [sepT, hl]
      rw [e] at hb ⊢
      exact sels_s B b n gs X gc gn lay hl ind out w vo h hs ho hn hx hb hi1 hi0
  · exact sels_m B b n gs X gc gn lay ind out w vo h hs ho hn hx hb hi1 hi0
set_option maxHeartbeats 8000000 in
theorem zprint9 (m : Bool) (a : Option Addr) (n c : Nat) (X : Nat → List UInt8) (ca : Nat → Option Addr) (cc : Nat → Nat) (lay ind : Int) (w : World) (hN : Nested w a n X ca cc) (hn : n ≤ 1048576) (hx : ∀ i, i < n → (X i).length ≤ 1048576)
    (hb : ∀ k, k ≤ n → (selsTo (sepT m lay ind) m X k).length ≤ 1000000000) (hi1 : ind ≤ 65536) (hi0 : -2147483648 ≤ ind) :
    Calls Tryz.prog 9 #[.bool m, .slice none 0 0, .slice a n c, .int .i32 ind, .int .u8 lay] w (RowOut (selsTo (sepT m lay ind) m X n) w) := by
  have hmk := make32 n hn w
  have HN := Lib.hid hN
  have Hx := Lib.hid hx
  have Hb := Lib.hid hb
  clear hN hx hb
  go_enter Tryz.func9, Tryz.ntmps9
  go_wp2_with fail
  clear hmk
  go_loopw [23] (fun i wr => ∃ k : Nat, k ≤ n ∧ i = .int .i64 k ∧ SelMade w wr w.heap.size n k X) (fun i _ => n - (intOf i).toNat)
  case atStart => exact ⟨0, by omega, rfl, SelMade.start w n X⟩
  case round =>
    obtain ⟨k, hk, rfl, hsm⟩ := hrel
    rename World => wo
    by_cases hlt : k < n
    · rcases HN.out.row with h0 | ⟨g, o, rfl, hR1⟩
      · omega
      have hc := hsm.chg.cell (hR1 k hlt) (fun h => h)
      clear hR1
      have hxk := Hx.out k hlt
      obtain ⟨cur, hcur, hcs, _⟩ := hsm.blk
      have hgs := heap_lt hcur
      have Hcur := Lib.hid hcur
      have hge := hsm.ge
      have hso := hsm.chg.size
      have Hsm := Lib.hid hsm
      clear hsm hcur
      have hx1 : (k : Int) < (n : Int) := by omega
      have hx0 : (0 : Int) ≤ (k : Int) := by omega
      have hmk := make33 (X k).length hxk wo
      go_wp2_with fail
      clear hmk
      go_loopw [33] (fun i wq => ∃ j : Nat, j ≤ (X k).length ∧ i = .int .i64 j ∧ CompMade (wo.alloc (.cells (madeCells zero42 ((X k).length * 6)) 42)) wq wo.heap.size (X k).length j (X k)) (fun i _ => (X k).length - (intOf i).toNat)
      case atStart => exact ⟨0, by omega, rfl, CompMade.start wo _ _⟩
      case round =>
        obtain ⟨j, hj, rfl, hcm⟩ := hrel
        have h0i : Chg (fun q => q = wo.heap.size) wo wr := ((Chg.refl _ wo).alloc _).trans hcm.chg (fun _ _ h => h)
        by_cases hlj : j < (X k).length
        · rcases HN.out.each k hlt with h0 | ⟨g2, o2, hca, hR2⟩
          · omega
          have hgl := World.block_lt_of_cell? w _ (hR2 j hlj)
          have hcb := h0i.cell (Hsm.out.chg.cell (hR2 j hlj) (fun h => h)) (by simp at hgl ⊢; omega)
          obtain ⟨cc2, b1, b2, _, b4⟩ := hcm.blk
          have f0 := frozen_of_heap b1
          have c4 := (cell_of_heap b1 (j * 6 + 4)).trans (b4 j (Nat.le_refl _) hlj 4 (by decide))
          have c2 := (cell_of_heap b1 (j * 6 + 2)).trans (b4 j (Nat.le_refl _) hlj 2 (by decide))
          simp [zero42] at c4 c2
          unfold byteAt at hcb
          have hwl := heap_lt b1
          have Hcm := Lib.hid hcm
          clear hcm b1 b2 b4 hR2 h0i
          rw [hca] at *
          have hj1 : (j : Int) < ((X k).length : Int) := by omega
          have hj0 : (0 : Int) ≤ (j : Int) := by omega
          have hmk := make40
          go_wp2
          go_roundw
          case rel =>
            have hst := Hcm.out.step hlj
            rw [World.setCell_alloc_past _ _ _ _ (by simpa [World.setCell] using hwl)] at hst
            exact ⟨j + 1, by omega, by go_num, hst⟩
          case measure => simp [intOf]; omega
        · have hje : j = (X k).length := by omega
          subst hje
          have hcur2 := h0i.heap Hcur.out (by omega)
          have hck := cell_of_heap hcur2 k
          have fk := frozen_of_heap hcur2 k
          rw [Array.getElem?_eq_getElem (by omega)] at hck
          have hwl := heap_lt hcur2
          generalize cur[k]'(by omega) = old at hck
          have Hcm := Lib.hid hcm
          clear hcm hcur2 h0i
          have hj1 : ¬ ((X k).length : Int) < ((X k).length : Int) := by omega
          go_wp2
          go_roundw
          case rel => exact ⟨k + 1, by omega, by go_num, Hsm.out.step hlt Hcm.out⟩
          case measure => simp [intOf]; omega
    · have hke : k = n := by omega
      subst hke
      have Hsm := Lib.hid hsm
      have hso := hsm.chg.size
      clear hsm
      have hx1 : ¬ (k : Int) < (k : Int) := by omega
      go_wp2_with fail
      refine (new12 m wo).mono ?_
      rintro ex w4 ⟨rfl, hw4⟩
      obtain ⟨gc, gn, hsel⟩ := Hsm.out.sels (.cells (pc m false (.slice none 0 0)) 74)
      rw [← hw4] at hsel
      have hc4 : Chg Nowhere wo w4 := by rw [hw4]; exact (Chg.refl _ _).alloc _
      have hno : ∀ q, ¬ InRow none q := by rintro q ⟨x, hx, _⟩; cases hx
      have hp : Pr wo.heap.size wo.heap.size m false none [] w4 := by
        rw [hw4]
        exact ⟨by simp, hno _, 0, heap_alloc_at wo _ _ rfl, ⟨by simp [Lib.byteCells], .inl ⟨rfl, rfl⟩⟩⟩
      clear hw4
      go_wp2_with fail
      refine (sels13 m wo.heap.size wo.heap.size k w.heap.size X gc gn lay ind [] w4 none hp hsel (by simp) hn (fun i hi => Hx.out i hi) (fun i hi => Hb.out i hi) hi1 hi0).mono ?_
      rintro ex w5 ⟨rfl, vo, hp5, hw5⟩
      simp only [List.nil_append] at hp5
      obtain ⟨vc, hrow, hown⟩ := hp5.row
      have hc15 := cell_of_heap hrow 15
      simp only [pc, List.getElem?_toArray, List.getElem?_cons_succ, List.getElem?_cons_zero] at hc15
      have hbl := heap_lt hrow
      have hch : Chg Nowhere w w5 := (Hsm.out.chg.trans hc4 (fun _ _ h => h)).trans hw5.chg (by
        intro q hq hs
        rcases hs with rfl | hs
        · omega
        · exact (hno _ hs).elim)
      have Hown := Lib.hid hown
      have Hch := Lib.hid hch
      clear hp hsel hc4 hp5 hw5 hrow hown hch
      go_wp2_with fail
      go_ret
      refine ⟨vo, vc, rfl, ?_, Hch.out⟩
      obtain ⟨h1, h2⟩ := Hown.out
      refine ⟨h1, h2.imp id ?_⟩
      rintro ⟨g, cap, cur, e1, e2, e3⟩
      exact ⟨g, cap, cur, e1, Nat.le_trans hso e2, e3⟩
end Go.Proofs.YtadmncfemgmioaaGreatFmt
