/-
  Proved: contracts of the js printer's small functions (new printer, smallIntToBytes, printBytes). No statement of the seat stands here.
-/
import Derived.Test.YtmlgfhdjdmfdbaaDoorNa
namespace Go.Proofs.YtmlgfhdjdmfdbaaDoor
open Go.RowKit Go.ChangeAt
set_option linter.unusedSimpArgs false
set_option linter.unusedVariables false
set_option maxRecDepth 100000
def intOf : Value → Int | .int _ q => q | _ => 0
/-- A printer in block b that has printed nothing. -/
structure Pn (b : Nat) (mn : Bool) (w : World) : Prop where
  blk : ∃ cs, w.heap[b]? = some (.cells cs 77 (0, 0)) ∧ 135 ≤ cs.size ∧ cs[9]? = some (.slice none 0 0) ∧ cs[28]? = some (.bool mn)
theorem Pn.lt {b : Nat} {mn : Bool} {w : World} (h : Pn b mn w) : b < w.heap.size := by
  obtain ⟨cs, h1, _⟩ := h.blk
  exact heap_lt h1
theorem Pn.kept {S : Nat → Prop} {b : Nat} {mn : Bool} {w w' : World} (h : Pn b mn w) (hc : Chg S w w') (hn : ¬ S b) : Pn b mn w' := by
  obtain ⟨cs, h1, h2⟩ := h.blk
  exact ⟨cs, hc.heap h1 hn, h2⟩
theorem Pn.set {b : Nat} {mn : Bool} {w : World} (h : Pn b mn w) (j : Nat) (h9 : j ≠ 9) (h28 : j ≠ 28) (u : Value) : Pn b mn (w.setCell ⟨b, j, none⟩ u) := by
  obtain ⟨cs, h1, h2, h3, h4⟩ := h.blk
  refine ⟨_, heap_setCell h1 j u, by simpa using h2, ?_, ?_⟩
  · rw [Array.getElem?_setIfInBounds_ne h9]; exact h3
  · rw [Array.getElem?_setIfInBounds_ne h28]; exact h4
theorem Pn.has {b : Nat} {mn : Bool} {w : World} (h : Pn b mn w) (j : Nat) (hj : j < 135) : ∃ v, w.cell? ⟨b, j, none⟩ = some v := by
  obtain ⟨cs, h1, h2, _⟩ := h.blk
  exact ⟨cs[j], by rw [cell_of_heap h1, Array.getElem?_eq_getElem (by omega)]⟩
theorem Pn.frozen {b : Nat} {mn : Bool} {w : World} (h : Pn b mn w) (j : Nat) : w.frozen? ⟨b, j, none⟩ = false := by
  obtain ⟨cs, h1, _⟩ := h.blk
  exact frozen_of_heap h1 j
theorem Pn.js {b : Nat} {mn : Bool} {w : World} (h : Pn b mn w) : w.cell? ⟨b, 9, none⟩ = Option.some (.slice none 0 0) := by
  obtain ⟨cs, h1, h2, h3, h4⟩ := h.blk
  rw [cell_of_heap h1]; exact h3
theorem Pn.min {b : Nat} {mn : Bool} {w : World} (h : Pn b mn w) : w.cell? ⟨b, 28, none⟩ = Option.some (.bool mn) := by
  obtain ⟨cs, h1, h2, h3, h4⟩ := h.blk
  rw [cell_of_heap h1]; exact h4
def NewOut (mn : Bool) (w : World) (e : Ending) (w' : World) : Prop := e = .returned (.pointer (some ⟨w.heap.size, 0, none⟩)) ∧ Pn w.heap.size mn w' ∧ Chg Nowhere w w'
set_option maxHeartbeats 8000000 in
theorem new4 (m : Bool) (w : World) : Calls Tryd.prog 4 #[.bool m, .int .i64 0, .int .i64 0, .slice none 0 0] w (NewOut m w) := by
  have key : ∀ cs, (135 ≤ cs.size ∧ cs[9]? = some (.slice none 0 0) ∧ cs[28]? = some (.bool m)) → NewOut m w (.returned (.pointer (some ⟨w.heap.size, 0, none⟩))) (w.alloc (.cells cs 77)) := fun cs h =>
    ⟨rfl, ⟨cs, heap_alloc_new w _, h⟩, (Chg.refl _ _).alloc _⟩
  cases m
  · go_enter Tryd.func4, Tryd.ntmps4
    go_wp2
    go_ret
    refine key _ ?_
    exact ⟨by decide +kernel, by kernel_rfl, by kernel_rfl⟩
  · go_enter Tryd.func4, Tryd.ntmps4
    go_wp2
    go_ret
    refine key _ ?_
    exact ⟨by decide +kernel, by kernel_rfl, by kernel_rfl⟩
def dl (n : Nat) : Nat := if n < 10 then 1 else if n < 100 then 2 else if n < 1000 then 3 else 4
theorem dl_bd (n : Nat) : 1 ≤ dl n ∧ dl n ≤ 4 := by
  unfold dl
  by_cases h : n < 10
  · rw [if_pos h]; decide
  · rw [if_neg h]
    by_cases h2 : n < 100
    · rw [if_pos h2]; decide
    · rw [if_neg h2]
      by_cases h3 : n < 1000
      · rw [if_pos h3]; decide
      · rw [if_neg h3]; decide
def sLen (n : Int) : Nat := dl n.natAbs + (if n < 0 then 1 else 0)
theorem dl_step (n : Nat) (h : 10 ≤ n) (h2 : n < 10000) : dl n = dl (n / 10) + 1 := by
  unfold dl
  rw [if_neg (show ¬ n < 10 by omega)]
  by_cases h3 : n < 100
  · rw [if_pos h3, if_pos (show n / 10 < 10 by omega)]
  · rw [if_neg h3, if_neg (show ¬ n / 10 < 10 by omega)]
    by_cases h4 : n < 1000
    · rw [if_pos h4, if_pos (show n / 10 < 100 by omega)]
    · rw [if_neg h4, if_neg (show ¬ n / 10 < 100 by omega), if_pos (show n / 10 < 1000 by omega)]
/-- Bytes in the printer's buffer from place s on. -/
def InBuf (b s : Nat) (l : List UInt8) (w : World) : Prop := ∀ j u, (Lib.byteCells l)[j]? = some u → w.cell? ⟨b, 71 + s + j, none⟩ = some u
def SmallOut (b : Nat) (mn : Bool) (n : Int) (w : World) (e : Ending) (w' : World) : Prop :=
  ∃ s l, e = .returned (.slice (some ⟨b, 71 + s, none⟩) (sLen n) (sLen n)) ∧ l.length = sLen n ∧ InBuf b s l w' ∧ Pn b mn w' ∧ Chg (fun i => i = b) w w'
/-- Where the loop stands: i digits are laid, m is left. -/
structure Dig (b : Nat) (mn : Bool) (N : Nat) (w : World) (s m : Nat) (wr : World) : Prop where
  lt : m < 10000
  sum : (64 - s) + dl m = dl N
  sb : 60 ≤ s ∧ s ≤ 64
  buf : ∃ l, l.length = 64 - s ∧ InBuf b s l wr
  pn : Pn b mn wr
  chg : Chg (fun i => i = b) w wr
theorem inBuf_cons {b s : Nat} {mn : Bool} {l : List UInt8} {w : World} {d : Nat} (h : InBuf b (s + 1) l w) (hp : Pn b mn w) (hd : d < 256) (hs : 71 + s < 135) : InBuf b s (UInt8.ofNat d :: l) (w.setCell ⟨b, 71 + s, none⟩ (.int .u8 (d : Int))) := by
  obtain ⟨cs, h1, h2, _⟩ := hp.blk
  intro j u hj
  have hb := heap_setCell h1 (71 + s) (Value.int .u8 (d : Int))
  rw [cell_of_heap hb]
  cases j with
  | zero =>
    simp only [Lib.byteCells, List.map_cons, List.getElem?_cons_zero, Option.some.injEq] at hj
    rw [Nat.add_zero, Array.getElem?_setIfInBounds, if_pos rfl, if_pos (by omega), ← hj]
    have h256 : ((UInt8.ofNat d).toNat : Int) = (d : Int) := by rw [UInt8.toNat_ofNat', Nat.mod_eq_of_lt hd]
    rw [← h256]
  | succ j =>
    rw [Array.getElem?_setIfInBounds_ne (by omega)]
    have h3 := h j u (by simpa [Lib.byteCells] using hj)
    rw [cell_of_heap h1] at h3
    rw [← h3]
    congr 1
    omega
set_option maxHeartbeats 8000000 in
theorem small_pos (b N : Nat) (mn : Bool) (hN : N < 10000) (w : World) (h : Pn b mn w) : Calls Tryd.prog 11 #[.pointer (some ⟨b, 0, none⟩), .int .i64 (N : Int)] w (SmallOut b mn (N : Int) w) := by
  have hlt := h.lt
  have hneg : ((N : Int) < 0) = False := eq_false (by omega)
  have H := Lib.hid h
  clear h
  go_enter Tryd.func11, Tryd.ntmps11
  go_wp2_with fail
  go_loopw [7, 1] (fun c7 c1 wr => ∃ s m : Nat, c7 = .int .i64 s ∧ c1 = .int .i64 m ∧ Dig b mn N w s m wr) (fun c7 c1 wr => (intOf c7).toNat)
  case atStart => exact ⟨64, N, rfl, rfl, ⟨hN, by simp, by omega, ⟨[], rfl, fun j u hj => by simp [Lib.byteCells] at hj⟩, H.out, Chg.refl _ _⟩⟩
  case round =>
    obtain ⟨s, m, rfl, rfl, hd⟩ := hrel
    have hd1 := (dl_bd m).1
    have hd4 := (dl_bd N).2
    have hsum := hd.sum
    have hsb := hd.sb
    obtain ⟨s', rfl⟩ : ∃ s', s = s' + 1 := ⟨s - 1, by omega⟩
    have hs1 : 60 ≤ s' ∧ s' < 64 := by omega
    obtain ⟨v, hv⟩ := hd.pn.has (71 + s') (by omega)
    have hf := hd.pn.frozen (71 + s')
    have hbl := hd.pn.lt
    have hx0 : (0 : Int) ≤ (s' : Int) := by omega
    have hx1 : (s' : Int) < 64 := by omega
    have hx2 : (s' : Int) ≤ 64 := by omega
    have Hd := Lib.hid hd
    have hm := hd.lt
    clear hd
    by_cases h10 : m < 10
    · have hq : ((m : Int) / 10 == 0) = true := by simp; omega
      go_wp2_with fail
      go_ret
      obtain ⟨l, hl, hb⟩ := Hd.out.buf
      have hcast : (48 : Int) + (m : Int) % 10 = ((48 + m % 10 : Nat) : Int) := by omega
      have h1 : dl m = 1 := by unfold dl; rw [if_pos h10]
      have hk : sLen (N : Int) = 64 - s' := by
        have : sLen (N : Int) = dl N := by unfold sLen; simp
        omega
      rw [hcast]
      exact ⟨s', UInt8.ofNat (48 + m % 10) :: l, by rw [hk]; rfl, by rw [hk, List.length_cons, hl]; omega, inBuf_cons hb Hd.out.pn (by omega) (by omega), Hd.out.pn.set _ (by omega) (by omega) _, Hd.out.chg.setCell (fun _ => rfl) _⟩
    · have hq : ((m : Int) / 10 == 0) = false := by simp; omega
      go_wp2_with fail
      obtain ⟨l, hl, hb⟩ := Hd.out.buf
      have hcast : (48 : Int) + (m : Int) % 10 = ((48 + m % 10 : Nat) : Int) := by omega
      have hcm : (m : Int) / 10 = ((m / 10 : Nat) : Int) := by omega
      have h1 := dl_step m (by omega) hm
      rw [hcast, hcm]
      exact ⟨⟨s', m / 10, rfl, rfl, ⟨by omega, by omega, by omega, ⟨UInt8.ofNat (48 + m % 10) :: l, by rw [List.length_cons, hl]; omega, inBuf_cons hb Hd.out.pn (by omega) (by omega)⟩, Hd.out.pn.set _ (by omega) (by omega) _, Hd.out.chg.setCell (fun _ => rfl) _⟩⟩, by simp [intOf]⟩
set_option maxHeartbeats 8000000 in
theorem small_neg (b N : Nat) (mn : Bool) (hN : N < 10000) (hN1 : 1 ≤ N) (w : World) (h : Pn b mn w) : Calls Tryd.prog 11 #[.pointer (some ⟨b, 0, none⟩), .int .i64 (-(N : Int))] w (SmallOut b mn (-(N : Int)) w) := by
  have hlt := h.lt
  have hneg : (-(N : Int) < 0) = True := eq_true (by omega)
  have hnn : -(-(N : Int)) = (N : Int) := by omega
  have H := Lib.hid h
  clear h
  go_enter Tryd.func11, Tryd.ntmps11
  go_wp2_with fail
  go_loopw [7, 1] (fun c7 c1 wr => ∃ s m : Nat, c7 = .int .i64 s ∧ c1 = .int .i64 m ∧ Dig b mn N w s m wr) (fun c7 c1 wr => (intOf c7).toNat)
  case atStart => exact ⟨64, N, rfl, rfl, ⟨hN, by simp, by omega, ⟨[], rfl, fun j u hj => by simp [Lib.byteCells] at hj⟩, H.out, Chg.refl _ _⟩⟩
  case round =>
    obtain ⟨s, m, rfl, rfl, hd⟩ := hrel
    have hd1 := (dl_bd m).1
    have hd4 := (dl_bd N).2
    have hsum := hd.sum
    have hsb := hd.sb
    obtain ⟨s', rfl⟩ : ∃ s', s = s' + 1 := ⟨s - 1, by omega⟩
    have hs1 : 60 ≤ s' ∧ s' < 64 := by omega
    obtain ⟨v, hv⟩ := hd.pn.has (71 + s') (by omega)
    have hf := hd.pn.frozen (71 + s')
    have hbl := hd.pn.lt
    have hx0 : (0 : Int) ≤ (s' : Int) := by omega
    have hx1 : (s' : Int) < 64 := by omega
    have hx2 : (s' : Int) ≤ 64 := by omega
    have Hd := Lib.hid hd
    have hm := hd.lt
    clear hd
    by_cases h10 : m < 10
    · have hq : ((m : Int) / 10 == 0) = true := by simp; omega
      obtain ⟨s2, rfl⟩ : ∃ s2, s' = s2 + 1 := ⟨s' - 1, by omega⟩
      have hp2 := Hd.out.pn.set (71 + (s2 + 1)) (by omega) (by omega) (.int .u8 (48 + (m : Int) % 10))
      obtain ⟨v2, hv2⟩ := hp2.has (71 + s2) (by omega)
      have hf2 := hp2.frozen (71 + s2)
      have hy0 : (0 : Int) ≤ (s2 : Int) := by omega
      have hy1 : (s2 : Int) < 64 := by omega
      have hy2 : (s2 : Int) ≤ 64 := by omega
      go_wp2_with fail
      go_ret
      obtain ⟨l, hl, hb⟩ := Hd.out.buf
      have hcast : (48 : Int) + (m : Int) % 10 = ((48 + m % 10 : Nat) : Int) := by omega
      have h1 : dl m = 1 := by unfold dl; rw [if_pos h10]
      have hk : sLen (-(N : Int)) = 64 - s2 := by
        have : sLen (-(N : Int)) = dl N + 1 := by unfold sLen; rw [if_pos (by omega)]; congr 1; congr 1; omega
        omega
      have hb2 := inBuf_cons hb Hd.out.pn (d := 48 + m % 10) (by omega) (by omega)
      rw [← hcast] at hb2
      exact ⟨s2, UInt8.ofNat 45 :: UInt8.ofNat (48 + m % 10) :: l, by rw [hk]; rfl, by rw [hk, List.length_cons, List.length_cons, hl]; omega, inBuf_cons (d := 45) hb2 hp2 (by omega) (by omega), hp2.set _ (by omega) (by omega) _, (Hd.out.chg.setCell (fun _ => rfl) _).setCell (fun _ => rfl) _⟩
    · have hq : ((m : Int) / 10 == 0) = false := by simp; omega
      go_wp2_with fail
      obtain ⟨l, hl, hb⟩ := Hd.out.buf
      have hcast : (48 : Int) + (m : Int) % 10 = ((48 + m % 10 : Nat) : Int) := by omega
      have hcm : (m : Int) / 10 = ((m / 10 : Nat) : Int) := by omega
      have h1 := dl_step m (by omega) hm
      rw [hcast, hcm]
      exact ⟨⟨s', m / 10, rfl, rfl, ⟨by omega, by omega, by omega, ⟨UInt8.ofNat (48 + m % 10) :: l, by rw [List.length_cons, hl]; omega, inBuf_cons hb Hd.out.pn (by omega) (by omega)⟩, Hd.out.pn.set _ (by omega) (by omega) _, Hd.out.chg.setCell (fun _ => rfl) _⟩⟩, by simp [intOf]⟩
theorem small11 (b : Nat) (mn : Bool) (n : Int) (h1 : -10000 < n) (h2 : n < 10000) (w : World) (h : Pn b mn w) : Calls Tryd.prog 11 #[.pointer (some ⟨b, 0, none⟩), .int .i64 n] w (SmallOut b mn n w) := by
  by_cases hn : n < 0
  · obtain ⟨N, rfl⟩ : ∃ N : Nat, n = -(N : Int) := ⟨(-n).toNat, by omega⟩
    exact small_neg b N mn (by omega) (by omega) w h
  · obtain ⟨N, rfl⟩ : ∃ N : Nat, n = (N : Int) := ⟨n.toNat, by omega⟩
    exact small_pos b N mn (by omega) w h
end Go.Proofs.YtmlgfhdjdmfdbaaDoor
