/-
  Proved: contract of printTokens at a flat list of identifiers and commas. No statement of the seat stands here.
-/
import Derived.Test.YtbbanpfkicdnmaaFmtLoop2
import Derived.Deep.LoopGhost
namespace Go.Proofs.YtbbanpfkicdnmaaFmt
open Go.RowKit Go.ChangeAt
set_option linter.unusedSimpArgs false
set_option linter.unusedVariables false
set_option maxRecDepth 1000000
set_option maxHeartbeats 32000000 in
theorem listDecl (B b tb n N cap : Nat) (T : Nat → ByteArray) (lead : Bool) (ind : Int) (out : List UInt8) (w : World) (vo : Option Addr) (HN : Hid (N = 2 * n + 1)) (h : Pr B b false false vo out w) (hl : ListAt b vo tb N T lead w) (hn2 : n ≤ 65536)
    (hi1 : ind ≤ 65536) (hi0 : -65536 ≤ ind) (HT : Hid (∀ i, Plain (T i))) (Hs : Hid (∀ i, (T i).size ≤ 8)) (ho : out.length ≤ 1000000) (hb : ∀ k, k ≤ N → (textTo (sepOf (decide (2 ≤ n)) ind) T lead k).length ≤ 100000000) :
    Calls Tryf.prog 13 #[.pointer (some ⟨b, 0, none⟩), .slice (some ⟨tb, 0, none⟩) N cap, .agg #[.int .i32 ind, .int .u8 0, .bool true]] w (WrtF B b false false vo (out ++ textTo (sepOf (decide (2 ≤ n)) ind) T lead N) w) := by
  have hN2 : N = 2 * n + 1 := HN.out
  have p6 := h.cell 6 (by decide)
  have p3 := h.cell 3 (by decide)
  have p9 := h.cell 9 (by decide)
  simp [pc] at p6 p3 p9
  have hbs := h.lt_size
  have l0 := hl.tok 0 (by omega) 6 (by decide)
  simp [tokAt, tokCells] at l0
  have hgs : tb < w.heap.size := World.block_lt_of_cell? w _ (hl.tok 0 (by omega) 0 (by decide))
  obtain ⟨wv, hwv⟩ : ∃ wv : Int, wv = if lead = true then 1 else 0 := ⟨_, rfl⟩
  rw [← hwv] at l0
  have f1 : (bits .and .u8 wv 1 != 0) = lead := by rw [hwv]; cases lead <;> decide
  have Hwv := Lib.hid hwv
  have H0 : Hid (Wrote b vo vo w (w.alloc (.cells #[.int .i32 ind, .int .u8 0, .bool true] 69))) := Lib.hid ((Wrote.refl b vo w).alloc _)
  have Hbx : Hid ((w.alloc (.cells #[.int .i32 ind, .int .u8 0, .bool true] 69)).heap[w.heap.size]? = some (.cells #[.int .i32 ind, .int .u8 0, .bool true] 69)) := Lib.hid (heap_alloc_at w _ _ rfl)
  have hrow := h.addr
  have Hrow := Lib.hid hrow
  have HL0 : Hid (ListAt b vo tb N T lead (w.alloc (.cells #[.int .i32 ind, .int .u8 0, .bool true] 69))) := Lib.hid (hl.after H0.out hgs)
  have Hp0 : Hid (Pr B b false false vo out (w.alloc (.cells #[.int .i32 ind, .int .u8 0, .bool true] 69))) := Lib.hid (h.wrote ((Chg.refl Nowhere w).alloc _))
  have Hb := Lib.hid hb
  have hNp : (0 : Int) < (N : Int) := by omega
  have hNs : N ≤ 131073 := by omega
  have Hodd : Hid (N % 2 = 1) := Lib.hid (by omega)
  have hg0 : tb < (w.alloc (.cells #[.int .i32 ind, .int .u8 0, .bool true] 69)).heap.size := by simp; omega
  have Hg0 := Lib.hid hg0
  clear h hl hb hwv hrow hN2 hg0
  go_enter Tryf.func13, Tryf.ntmps13
  go_wp2_with fail
  go_loopg [8, 9, 50] N (fun gk c8 c9 i wr => ∃ k : Nat, gk = N - k ∧ k ≤ N ∧ k ≤ 3 ∧ i = .int .i64 k ∧ c9 = .int .i64 ((k / 2 : Nat) : Int) ∧ c8 = .int .i64 0 ∧ Pr B b false false vo out wr ∧ Wrote b vo vo (w.alloc (.cells #[.int .i32 ind, .int .u8 0, .bool true] 69)) wr)
  case atStart => exact ⟨0, by omega, by omega, by omega, rfl, rfl, rfl, Hp0.out, Wrote.refl b vo _⟩
  case round =>
    obtain ⟨k, hgk, hk, hk3, rfl, rfl, rfl, hpr, hwr⟩ := hrel
    by_cases hlt : k < N
    · have hlr := HL0.out.after hwr Hg0.out
      have tk2 := hlr.tok
      have Hpr := Lib.hid hpr
      have Hwr := Lib.hid hwr
      have Hgk := Lib.hid hgk
      clear hpr hwr hlr hgk
      have hx1 : (k : Int) < (N : Int) := by omega
      have hx0 : (0 : Int) ≤ (k : Int) := by omega
      have c0 := tk2 k hlt 0 (by decide)
      have c1 := tk2 k hlt 1 (by decide)
      have c2 := tk2 k hlt 2 (by decide)
      have c3 := tk2 k hlt 3 (by decide)
      have c4 := tk2 k hlt 4 (by decide)
      have c5 := tk2 k hlt 5 (by decide)
      have c6 := tk2 k hlt 6 (by decide)
      by_cases hm : k % 2 = 1
      · rw [tok_odd hm] at c0 c1 c2 c3 c4 c5 c6
        simp only [tokCells, List.getElem?_toArray, List.getElem?_cons_succ, List.getElem?_cons_zero, Nat.add_zero] at c0 c1 c2 c3 c4 c5 c6
        clear tk2
        have hk13 : k = 1 ∨ k = 3 := by omega
        rcases hk13 with rfl | rfl
        · clear hm hk hk3
          go_wp2_with fail
          go_roundg (N - 2)
          case measure => have := Hgk.out; omega
          case rel => exact ⟨2, rfl, by omega, by omega, by go_num, by go_num, rfl, Hpr.out.wrote ((Chg.refl _ _).alloc _), Hwr.out.alloc _⟩
        · clear hm hk hk3
          have hn : 2 ≤ n := by have := HN.out; omega
          have emu : decide (2 ≤ n) = true := decide_eq_true hn
          have Hb := Hb.out; rw [emu] at Hb; have Hb := Lib.hid Hb; have Hemu := Lib.hid emu
          clear hn emu
          go_wp2_with fail
          refine loop2 B b tb N cap w.heap.size T lead false true 1 ind out (w.alloc (.cells #[.int .i32 ind, .int .u8 0, .bool true] 69)) vo (.inr ⟨rfl, rfl⟩) Hodd hNs hi1 hi0 HL0 HT Hs ho Hb.out (Lib.hid ⟨_, Hbx.out⟩) (by omega) (Lib.hid fun hh => by have := (Hrow.out _ hh).2; omega) Hg0.out _ _ ⟨0, rfl, rfl, rfl, rfl, rfl, rfl, rfl, rfl, rfl, rfl, rfl, by omega, vo, by simpa only [textTo, List.append_nil] using (Hpr.out.wrote ((Chg.refl _ _).alloc _)), Hwr.out.alloc _⟩ _ ?_
          rintro ay wy ⟨hd, hsz, h7, vy, hpy, hwy⟩
          obtain ⟨x, rfl⟩ := lit7 ay hd hsz h7
          have Hpy := Lib.hid hpy
          have Hwy := Lib.hid hwy
          clear hpy hwy hd hsz h7
          go_wp2_with fail
          go_ret
          exact ⟨rfl, vy, by rw [Hemu.out]; exact Hpy.out, H0.out.trans Hwy.out⟩
      · rw [tok_even (by omega)] at c0 c1 c2 c3 c4 c5 c6
        simp only [tokCells, List.getElem?_toArray, List.getElem?_cons_succ, List.getElem?_cons_zero, Nat.add_zero] at c0 c1 c2 c3 c4 c5 c6
        clear tk2
        have Hm := Lib.hid hm
        have Hk3 := Lib.hid hk3
        clear hm hk3
        generalize T (k / 2) = tx at c1
        generalize (if k = 0 ∧ lead = true then (1 : Int) else 0) = wq at c6
        go_wp2_with fail
        go_roundg (N - (k + 1))
        case measure => have := Hgk.out; omega
        case rel => exact ⟨k + 1, rfl, by omega, by have := Hm.out; have := Hk3.out; omega, by go_num, by rw [show (k + 1) / 2 = k / 2 by have := Hm.out; omega], rfl, Hpr.out.wrote ((Chg.refl _ _).alloc _), Hwr.out.alloc _⟩
    · have hx1 : ¬ (k : Int) < (N : Int) := by omega
      have hn : ¬ 2 ≤ n := by have := HN.out; omega
      have emu : decide (2 ≤ n) = false := decide_eq_false hn
      have Hb := Hb.out; rw [emu] at Hb; have Hb := Lib.hid Hb; have Hemu := Lib.hid emu
      have Hpr := Lib.hid hpr
      have Hwr := Lib.hid hwr
      clear hpr hwr hgk hk3 hn emu
      go_wp2_with fail
      refine loop2 B b tb N cap w.heap.size T lead false false 0 ind out (w.alloc (.cells #[.int .i32 ind, .int .u8 0, .bool true] 69)) vo (.inl ⟨rfl, rfl⟩) Hodd hNs hi1 hi0 HL0 HT Hs ho Hb.out (Lib.hid ⟨_, Hbx.out⟩) (by omega) (Lib.hid fun hh => by have := (Hrow.out _ hh).2; omega) Hg0.out _ _ ⟨0, rfl, rfl, rfl, rfl, rfl, rfl, rfl, rfl, rfl, rfl, rfl, by omega, vo, by simpa only [textTo, List.append_nil] using Hpr.out, Hwr.out⟩ _ ?_
      rintro ay wy ⟨hd, hsz, h7, vy, hpy, hwy⟩
      obtain ⟨x, rfl⟩ := lit7 ay hd hsz h7
      have Hpy := Lib.hid hpy
      have Hwy := Lib.hid hwy
      clear hpy hwy hd hsz h7
      go_wp2_with fail
      go_ret
      exact ⟨rfl, vy, by rw [Hemu.out]; exact Hpy.out, H0.out.trans Hwy.out⟩
end Go.Proofs.YtbbanpfkicdnmaaFmt
