/-
  Proved: contract of the css printer's printWithEscape with a hexadecimal escape (a digit). No statement of the seat stands here.
-/
import Derived.Test.YtgfiigonjleeeaaFmtHexA
namespace Go.Proofs.YtgfiigonjleeeaaFmt
open Go.RowKit Go.ChangeAt
open Go.Extern.Stop Go.Stop Go.Extern
set_option linter.unusedSimpArgs false
set_option linter.unusedVariables false
set_option maxRecDepth 100000
set_option maxHeartbeats 8000000 in
theorem put_hex_dig (F : Interp) (B b c : Nat) (m a : Bool) (vo : Option Addr) (out : List UInt8) (rem : ByteArray) (w : World) (hc : c ≤ 1114111) (hv : ¬ (55296 ≤ c ∧ c ≤ 57343)) (hx : HexCmp c True True False True False True) (hF : F.answers w.tape) (hS : (hexS F c).size ≤ 100) (h : Pr B b m a vo out w) (ho : out.length ≤ 140000000000) :
    Calls Tryf.prog 27 #[.pointer (some ⟨b, 0, none⟩), .int .i32 c, .int .u8 1, .string rem, .bool false] w (Wrt B b m a vo (out ++ hexT F c rem) w) := by
  obtain ⟨i0, hi, hz0, hz1, hz2⟩ := info_parts info5
  have hbs := h.lt_size
  have hadr := h.addr
  have hrl := len26 c hc hv
  obtain ⟨vc, hblk, hown⟩ := h.row
  obtain ⟨L, hL⟩ : ∃ L, L = out.length := ⟨_, rfl⟩
  rw [← hL] at hblk hown ho
  have HL := Lib.hid hL
  clear hL
  have hc15 := cell_of_heap hblk 15
  simp only [pc, List.getElem?_toArray, List.getElem?_cons_succ, List.getElem?_cons_zero] at hc15
  have hle := h.le
  have hwb : w.heap.size + 1 = (w.alloc (.cells #[.int .u8 0, .int .u8 0, .int .u8 0, .int .u8 0] 117)).heap.size := by simp
  have hsp : (callFunc 45 #[.string ⟨#[92, 37, 120]⟩, .slice (some ⟨w.heap.size + 1, 0, none⟩) 1 1]).run Tryf.prog ((w.alloc (.cells #[.int .u8 0, .int .u8 0, .int .u8 0, .int .u8 0] 117)).alloc (.cells #[.iface 21 (.int .i32 (c : Int))] 20)) =
      .ok (.value (.string (hexS F c))) ((w.alloc (.cells #[.int .u8 0, .int .u8 0, .int .u8 0, .int .u8 0] 117)).alloc (.cells #[.iface 21 (.int .i32 (c : Int))] 20)).drew := spr45 F c hc _ _ hF (cells_iface _ _ _ _ hwb)
  have hres : ∀ T, hexS F c = T → hexT F c rem = T.data.toList ++ (if T.size < 7 ∧ nextHex rem c = true then [32] else []) := by rintro _ rfl; rfl
  generalize hT : hexS F c = T at hS hsp
  have Hres := Lib.hid (hres T hT)
  generalize hR : runeLen c = R at hrl
  have HR := Lib.hid hR
  have Hadr := Lib.hid hadr
  have Hp := Lib.hid h
  have Hchg : Hid (∀ o1 o2, Chg Nowhere w ((w.alloc o1).alloc o2).drew) := Lib.hid fun o1 o2 => (((Chg.refl Nowhere w).alloc _).alloc _).drew
  have Hblk := Lib.hid hblk; have Hown := Lib.hid hown
  clear hblk hown hadr h hwb hres hT hR hF
  obtain ⟨h1, h2, h3, h4, h5, h6⟩ := hx
  by_cases h7 : T.size < 7
  · have e7 : ((T.size : Int) < 7) = True := eq_true (by omega)
    go_enter Tryf.func27, Tryf.ntmps27
    go_wp2_with (at_builtin; go_loud (refine wpList_append_str_fresh _ rfl (.tmp 91) (.tmp 92) 28 9 rfl B 5 i0 Tryf.underlying28 Tryf.underlying9 hi hz0 hz1 hz2 vo L vc (Lib.byteCells out) rfl ((Hchg.out _ _).owns Hown.out fun _ _ h => h) T rfl (by unfold maxLen; omega) (by omega) (Nat.le_trans hle (Hchg.out _ _).size) ?_; intro vb vcb wb hown1 hg1 hf1; have hb1 := hg1.heap ((Hchg.out _ _).heap Hblk.out (fun h => h)) Hp.out.ne; have cb := cell_of_heap hb1 15; have fb := frozen_of_heap hb1 15; have sb := heap_lt hb1; simp only [pc, List.getElem?_toArray, List.getElem?_cons_succ, List.getElem?_cons_zero] at cb; have Hb1 := Lib.hid hb1; have Hown1 := Lib.hid hown1; have Hg1 := Lib.hid hg1; have Hf1 := Lib.hid hf1; clear hb1 hown1 hg1 hf1))
    obtain ⟨hp, hw⟩ := list_mk (t := T.data.toList) HL.out (by rw [Array.length_toList]; rfl) Hp.out Hblk.out (((Hchg.out _ _).mono (fun _ _ h => h.elim)).trans Hg1.out (fun _ _ h => h)) Hown1.out (Hf1.out.imp id fun h => ⟨_, h, (Hchg.out _ _).size⟩)
    generalize hww : World.setCell wb _ _ = w2 at hp hw ⊢
    have Hp2 := Lib.hid hp
    have Hw2 := Lib.hid hw
    clear hp hw hww Hb1 Hown1 Hg1 Hf1 cb fb sb hc15 hsp
    refine (hrl w2).mono ?_
    rintro ex w3 ⟨rfl, rfl⟩
    by_cases hlt : R < rem.size
    · have hb := bt_eq rem R hlt
      have hx1 : (R : Int) < (rem.size : Int) := by omega
      have hx0 : (0 : Int) ≤ (R : Int) := by omega
      obtain ⟨x, hx⟩ : ∃ x, bt rem R = x := ⟨_, rfl⟩
      have hx256 : x < 256 := by rw [← hx]; exact bt_lt _ _
      rw [hx] at hb
      have hw : IntKind.i32.wrap (x : Int) = (x : Int) := by rw [IntKind.wrap_i32]; omega
      have Hx := Lib.hid hx
      clear hx
      by_cases hyes : x = 32 ∨ x = 9 ∨ isHex x = true
      · have hnx : nextHex rem c = true := by
          unfold nextHex
          rw [HR.out, Hx.out]
          exact decide_eq_true ⟨hlt, hyes⟩
        have hfin : T.data.toList ++ [32] = hexT F c rem := by rw [Hres.out, if_pos ⟨h7, hnx⟩]
        have Hfin := Lib.hid hfin
        have hcs := next_yes x hyes
        obtain ⟨vc2, hblk, hown⟩ := Hp2.out.row
        obtain ⟨L2, hL2⟩ : ∃ L2, L2 = (out ++ T.data.toList).length := ⟨_, rfl⟩
        rw [← hL2] at hblk hown
        have ho2 : L2 ≤ 140000000100 := by rw [hL2, List.length_append, ← HL.out, Array.length_toList]; show L + T.size ≤ _; omega
        have HL2 := Lib.hid hL2
        clear hL2
        have hc15 := cell_of_heap hblk 15
        simp only [pc, List.getElem?_toArray, List.getElem?_cons_succ, List.getElem?_cons_zero] at hc15
        have hle2 := Hp2.out.le
        have hs2 := heap_lt hblk
        have Hblk2 := Lib.hid hblk; have Hown2 := Lib.hid hown
        clear hblk hown hyes hnx hfin
        rcases hcs with g1 | ⟨g1, g2⟩ | ⟨g1, g2, j1, j2, j3, j4, j5, j6⟩ | ⟨g1, g2, j1, j2, j3, j4, j5, j6⟩ | ⟨g1, g2, j1, j2, j3, j4, j5, j6⟩
        all_goals
          go_wp2_with (at_builtin; go_loud (refine wpList_append_fresh _ rfl (.tmp 143) (.tmp 144) 28 rfl B 5 i0 _ 1 1 Tryf.underlying28 hi hz0 hz1 hz2 rfl (by decide) vb L2 vc2 _ rfl (Hown2.out.alloc _) (some ⟨w3.heap.size, 0, none⟩) 1 1 [.int .u8 32] rfl rfl (by simp) (byte_new _ _ _ rfl) (by intro u hu; simp at hu; subst hu; rfl) (by unfold maxLen; omega) (by omega) (by simp; omega) ?_; intro ve vce we hown1 hg1 hf1; have hb1 := hg1.heap (heap_alloc_keep Hblk2.out _) Hp2.out.ne; have cb := cell_of_heap hb1 15; have fb := frozen_of_heap hb1 15; have sb := heap_lt hb1; simp only [pc, List.getElem?_toArray, List.getElem?_cons_succ, List.getElem?_cons_zero] at cb; have Hb1 := Lib.hid hb1; have Hown1 := Lib.hid hown1; have Hg1 := Lib.hid hg1; have Hf1 := Lib.hid hf1; clear hb1 hown1 hg1 hf1))
          obtain ⟨hp, hw⟩ := list_mk (t := [32]) HL2.out rfl Hp2.out Hblk2.out (((Chg.refl _ _).alloc _).trans Hg1.out (fun _ _ h => h)) Hown1.out (Hf1.out.imp id fun h => ⟨_, h, by simp⟩)
          rw [List.append_assoc, Hfin.out] at hp
          have Hp4 := Lib.hid hp
          have Hw4 := Lib.hid (Hw2.out.trans hw)
          clear hp hw
          go_end0
          exact ⟨rfl, _, Hp4.out, Hw4.out⟩
      · have hnx : nextHex rem c = false := by
          unfold nextHex
          rw [HR.out, Hx.out]
          exact decide_eq_false (fun hh => hyes hh.2)
        have hfin : T.data.toList = hexT F c rem := by rw [Hres.out, if_neg (by rw [hnx]; simp)]; simp
        have Hfin := Lib.hid hfin
        have g1 : ((x : Int) == 32) = false := by simp; omega
        have g2 : ((x : Int) == 9) = false := by simp; omega
        have g3 : isHex x = false := by cases hq : isHex x; rfl; exact absurd (.inr (.inr hq)) hyes
        clear hyes hnx hfin
        rcases notHex_cases x g3 with ⟨j1, j2, j3, j4, j5, j6⟩ | ⟨j1, j2, j3, j4, j5, j6⟩ | ⟨j1, j2, j3, j4, j5, j6⟩ | ⟨j1, j2, j3, j4, j5, j6⟩
        all_goals
          clear g3
          go_wp2_with fail
          go_end0
          exact ⟨rfl, _, Hfin.out ▸ Hp2.out, Hw2.out⟩
    · have hx1 : ¬ (R : Int) < (rem.size : Int) := by omega
      have hnx : nextHex rem c = false := by
        unfold nextHex
        rw [HR.out]
        exact decide_eq_false (fun hh => hlt hh.1)
      have hfin : T.data.toList = hexT F c rem := by rw [Hres.out, if_neg (by rw [hnx]; simp)]; simp
      have Hfin := Lib.hid hfin
      clear hnx hfin
      go_wp2_with fail
      go_end0
      exact ⟨rfl, _, Hfin.out ▸ Hp2.out, Hw2.out⟩
  · have e7 : ((T.size : Int) < 7) = False := eq_false (by omega)
    have hfin : T.data.toList = hexT F c rem := by rw [Hres.out, if_neg (fun hh => h7 hh.1)]; simp
    have Hfin := Lib.hid hfin
    clear hfin
    go_enter Tryf.func27, Tryf.ntmps27
    go_wp2_with (at_builtin; go_loud (refine wpList_append_str_fresh _ rfl (.tmp 91) (.tmp 92) 28 9 rfl B 5 i0 Tryf.underlying28 Tryf.underlying9 hi hz0 hz1 hz2 vo L vc (Lib.byteCells out) rfl ((Hchg.out _ _).owns Hown.out fun _ _ h => h) T rfl (by unfold maxLen; omega) (by omega) (Nat.le_trans hle (Hchg.out _ _).size) ?_; intro vb vcb wb hown1 hg1 hf1; have hb1 := hg1.heap ((Hchg.out _ _).heap Hblk.out (fun h => h)) Hp.out.ne; have cb := cell_of_heap hb1 15; have fb := frozen_of_heap hb1 15; have sb := heap_lt hb1; simp only [pc, List.getElem?_toArray, List.getElem?_cons_succ, List.getElem?_cons_zero] at cb; have Hb1 := Lib.hid hb1; have Hown1 := Lib.hid hown1; have Hg1 := Lib.hid hg1; have Hf1 := Lib.hid hf1; clear hb1 hown1 hg1 hf1))
    obtain ⟨hp, hw⟩ := list_mk (t := T.data.toList) HL.out (by rw [Array.length_toList]; rfl) Hp.out Hblk.out (((Hchg.out _ _).mono (fun _ _ h => h.elim)).trans Hg1.out (fun _ _ h => h)) Hown1.out (Hf1.out.imp id fun h => ⟨_, h, (Hchg.out _ _).size⟩)
    rw [Hfin.out] at hp
    have Hp2 := Lib.hid hp
    have Hw2 := Lib.hid hw
    clear hp hw
    go_end0
    exact ⟨rfl, _, Hp2.out, Hw2.out⟩
end Go.Proofs.YtgfiigonjleeeaaFmt
