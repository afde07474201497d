/-
  Proved: contract of the css printer's printMediaQuery at a binary query over queries of one number token. No statement of the seat stands here.
-/
import Derived.Test.YtogkpfdnfjlflaaGreatFmtSums
import Derived.Deep.LoopGhost
namespace Go.Proofs.YtogkpfdnfjlflaaGreatFmt
open Go.RowKit Go.ChangeAt
set_option linter.unusedSimpArgs false
set_option linter.unusedVariables false
theorem as78_30 (v : Value) (w : World) : (Instr.typeAssert (.iface 78 v) 44 30 true).run Tryz.prog w = .ok (.tuple #[.pointer none, .bool false]) w := by kernel_rfl
theorem as78_87 (v : Value) (w : World) : (Instr.typeAssert (.iface 78 v) 44 87 true).run Tryz.prog w = .ok (.tuple #[.pointer none, .bool false]) w := by kernel_rfl
theorem as78_72 (v : Value) (w : World) : (Instr.typeAssert (.iface 78 v) 44 72 true).run Tryz.prog w = .ok (.tuple #[.pointer none, .bool false]) w := by kernel_rfl
theorem as78_78 (v : Value) (w : World) : (Instr.typeAssert (.iface 78 v) 44 78 true).run Tryz.prog w = .ok (.tuple #[v, .bool true]) w := by kernel_rfl
/-- n queries of one number token each, in a row of block gt. -/
structure TermsAt (B b gt n : Nat) (g : Nat → Nat × Nat) (f : Nat → ByteArray) (w : World) : Prop where
  c0 : ∀ i, i < n → w.cell? ⟨gt, i * 2, none⟩ = some (.int .i32 0)
  c1 : ∀ i, i < n → w.cell? ⟨gt, i * 2 + 1, none⟩ = some (.iface 30 (.pointer (some ⟨(g i).1, 0, none⟩)))
  tok : ∀ i, i < n → TokAt B b (g i).1 (g i).2 (f i) w
  lt : gt < B
  ne : gt ≠ b
def joined (sep : List UInt8) (f : Nat → ByteArray) : Nat → List UInt8
  | 0 => []
  | k + 1 => joined sep f k ++ (if k = 0 then [] else sep) ++ (f k).data.toList
def binQ (g8 : Nat) : Value := .agg #[.int .i32 0, .iface 78 (.pointer (some ⟨g8, 0, none⟩))]
/-- What a round of the loop starts from. -/
def At (B b : Nat) (m : Bool) (vo : Option Addr) (out : List UInt8) (w wr : World) : Prop := ∃ vo', Pr B b m vo' out wr ∧ Wrote b vo vo' w wr
theorem joined_length (sep : List UInt8) (f : Nat → ByteArray) (k : Nat) : (joined sep f k).length ≤ sep.length * k + sumTo f k := by
  induction k with
  | zero => simp [joined]
  | succ k ih =>
    have e : (f k).data.toList.length = (f k).size := by rw [Array.length_toList]; rfl
    have e2 : (if k = 0 then [] else sep).length ≤ sep.length := by split <;> simp
    simp only [joined, sumTo, List.length_append, Nat.mul_add, Nat.mul_one, e]
    omega
set_option maxRecDepth 100000 in
set_option maxHeartbeats 4000000 in
theorem mq_bin000 (B b g8 gt n cap : Nat) (g : Nat → Nat × Nat) (f : Nat → ByteArray) (out : List UInt8) (w : World) (vo : Option Addr) (h : Pr B b false vo out w) (hq : TermsAt B b gt n g f w)
    (hn : w.heap[g8]? = some (.cells #[.int .u8 0, .slice (some ⟨gt, 0, none⟩) n cap] 80 (0, 0))) (hn1 : g8 < B) (hn2 : g8 ≠ b) (ho : out.length ≤ 100000000) (hb : n + sumTo f n ≤ 1048576) :
    Calls Tryz.prog 11 #[.pointer (some ⟨b, 0, none⟩), binQ g8, .int .u8 0] w (Wrt B b false vo (out ++ joined [32, 97, 110, 100, 32] f n) w) := by
  have n0 := cell_of_heap hn 0
  have n1 := cell_of_heap hn 1
  simp at n0 n1
  have hB := h.le
  have hg := heap_lt hn
  have hbs := h.lt_size
  have Hp := Lib.hid h
  have Hq := Lib.hid hq
  have Hn := Lib.hid hn
  clear h hq hn
  have as1 := as78_30
  have as2 := as78_87
  have as3 := as78_72
  have as4 := as78_78
  have hbit : bits .and .u8 0 1 = 0 := by decide
  unfold binQ
  go_enter Tryz.func11, Tryz.ntmps11
  go_wp2_with fail
  have Hw0 : Hid (Wrote b vo vo w (w.alloc (.cells #[.int .i32 0, .iface 78 (.pointer (some ⟨g8, 0, none⟩))] 46))) := Lib.hid ((Wrote.refl b vo w).alloc _)
  have Hp0 : Hid (Pr B b false vo out (w.alloc (.cells #[.int .i32 0, .iface 78 (.pointer (some ⟨g8, 0, none⟩))] 46))) := Lib.hid (Hp.out.wrote ((Chg.refl Nowhere w).alloc _))
  go_loopw [169] (fun i wr => ∃ k : Nat, k ≤ n ∧ i = .int .i64 k ∧ At B b false vo (out ++ joined [32, 97, 110, 100, 32] f k) w wr) (fun i _ => n - (intOf i).toNat)
  case atStart => exact ⟨0, by omega, rfl, ⟨vo, by simpa only [joined, List.append_nil] using Hp0.out, Hw0.out⟩⟩
  case round =>
    obtain ⟨k, hk, rfl, vr, hpr, hwr⟩ := hrel
    have hm := sumTo_mono f hk
    have hl := joined_length [32, 97, 110, 100, 32] f k
    have hnr := hwr.heap Hp.out hn1 hn2 Hn.out
    have r0 := cell_of_heap hnr 0
    have r1 := cell_of_heap hnr 1
    have r2 := heap_lt hnr
    have r6 : wr.cell? ⟨b, 6, none⟩ = some (.bool false) := (hpr.cell 6 (by decide)).trans (by simp [pc])
    have r7 := hpr.lt_size
    have r8 := hpr.le
    simp at r0 r1 hl
    by_cases hlt : k < n
    · have hm2 := sumTo_mono f (show k + 1 ≤ n by omega)
      have hms : sumTo f (k + 1) = sumTo f k + (f k).size := rfl
      have tk := Hq.out.tok k hlt
      have tc : ∀ j v, w.cell? ⟨gt, j, none⟩ = some v → wr.cell? ⟨gt, j, none⟩ = some v := fun j v hv => hwr.chg.cell hv (by
        rintro (h1 | h1)
        · exact Hq.out.ne h1
        · exact absurd (Hp.out.addr gt h1).1 (by have := Hq.out.lt; omega))
      have c0 := tc _ _ (Hq.out.c0 k hlt)
      have c1 := tc _ _ (Hq.out.c1 k hlt)
      have Hpr := Lib.hid hpr
      have Hwr := Lib.hid hwr
      have Htk := Lib.hid tk
      clear tc hnr hpr hwr tk
      have hx1 : (k : Int) < (n : Int) := by omega
      have hx0 : (0 : Int) ≤ (k : Int) := by omega
      rcases Nat.eq_zero_or_pos k with hz | hz
      · have hx2 : ¬ (0 : Int) < (k : Int) := by omega
        have Hz := Lib.hid hz
        clear hz
        go_wp2_with fail
        have Hw1 : Hid (Wrote b vr vr wr (wr.alloc (.cells #[.int .i32 0, .iface 30 (.pointer (some ⟨(g k).1, 0, none⟩))] 46))) := Lib.hid ((Wrote.refl b vr wr).alloc _)
        have Hp1 : Hid (Pr B b false vr (out ++ joined [32, 97, 110, 100, 32] f k) (wr.alloc (.cells #[.int .i32 0, .iface 30 (.pointer (some ⟨(g k).1, 0, none⟩))] 46))) := Lib.hid (Hpr.out.wrote ((Chg.refl Nowhere wr).alloc _))
        have hbx : (wr.alloc (.cells #[.int .i32 0, .iface 30 (.pointer (some ⟨(g k).1, 0, none⟩))] 46)).heap[wr.heap.size]? = some (.cells #[.int .i32 0, .iface 30 (.pointer (some ⟨(g k).1, 0, none⟩))] 46) := heap_alloc_at wr _ _ rfl
        have Hbx := Lib.hid hbx
        clear hbx
        refine (mq_tok B b (g k).1 (g k).2 false (out ++ joined [32, 97, 110, 100, 32] f k) (f k) (wr.alloc (.cells #[.int .i32 0, .iface 30 (.pointer (some ⟨(g k).1, 0, none⟩))] 46)) vr Hp1.out (Htk.out.kept (Hwr.out.trans Hw1.out) Hp.out) (by first | omega | (simp; omega)) (by omega)).mono ?_
        rintro e2 w2 ⟨rfl, vo2, hp, hw⟩
        have Hp2 : Hid (Pr B b false vo2 (out ++ joined [32, 97, 110, 100, 32] f k ++ (f k).data.toList) w2) := Lib.hid hp
        have Hw2 : Hid (Wrote b vr vo2 wr w2) := Lib.hid (Hw1.out.trans hw)
        clear hp hw
        go_wp2_with fail
        go_roundw
        case rel =>
          have hz2 := Hp2.out
          have hj : out ++ joined [32, 97, 110, 100, 32] f (k + 1) = out ++ joined [32, 97, 110, 100, 32] f k ++ (f k).data.toList := by simp [joined, Hz.out]
          exact ⟨k + 1, by omega, by go_num, vo2, hj ▸ hz2, Hwr.out.trans Hw2.out⟩
        case measure => simp [intOf]; omega
      · have hx2 : (0 : Int) < (k : Int) := by omega
        go_wp2_with fail
        have Hw1 : Hid (Wrote b vr vr wr (wr.alloc (.cells #[.int .i32 0, .iface 30 (.pointer (some ⟨(g k).1, 0, none⟩))] 46))) := Lib.hid ((Wrote.refl b vr wr).alloc _)
        have Hp1 : Hid (Pr B b false vr (out ++ joined [32, 97, 110, 100, 32] f k) (wr.alloc (.cells #[.int .i32 0, .iface 30 (.pointer (some ⟨(g k).1, 0, none⟩))] 46))) := Lib.hid (Hpr.out.wrote ((Chg.refl Nowhere wr).alloc _))
        have hbx : (wr.alloc (.cells #[.int .i32 0, .iface 30 (.pointer (some ⟨(g k).1, 0, none⟩))] 46)).heap[wr.heap.size]? = some (.cells #[.int .i32 0, .iface 30 (.pointer (some ⟨(g k).1, 0, none⟩))] 46) := heap_alloc_at wr _ _ rfl
        have Hbx := Lib.hid hbx
        clear hbx
        refine (print_w B b false vr (out ++ joined [32, 97, 110, 100, 32] f k) ⟨#[32]⟩ (wr.alloc (.cells #[.int .i32 0, .iface 30 (.pointer (some ⟨(g k).1, 0, none⟩))] 46)) Hp1.out (by first | omega | (simp; omega)) (by decide)).mono ?_
        rintro e2 w2 ⟨rfl, vo2, hp, hw⟩
        have Hp2 : Hid (Pr B b false vo2 (out ++ joined [32, 97, 110, 100, 32] f k ++ [32]) w2) := Lib.hid hp
        have Hw2 : Hid (Wrote b vr vo2 wr w2) := Lib.hid (Hw1.out.trans hw)
        have Hv2 : Hid (Wrote b vr vo2 (wr.alloc (.cells #[.int .i32 0, .iface 30 (.pointer (some ⟨(g k).1, 0, none⟩))] 46)) w2) := Lib.hid (hw)
        clear hp hw
        have hn2 := (Hwr.out.trans Hw2.out).heap Hp.out hn1 hn2 Hn.out
        have a2 := cell_of_heap hn2 0
        have b2 := heap_lt hn2
        have hb2 : w2.heap[wr.heap.size]? = some (.cells #[.int .i32 0, .iface 30 (.pointer (some ⟨(g k).1, 0, none⟩))] 46) := Hv2.out.chg.heap Hbx.out (by rintro (h1 | h1); omega; exact absurd (Hpr.out.addr _ h1).2 (by omega))
        have x2 := cell_of_heap hb2 0
        have y2 := cell_of_heap hb2 1
        have z2 := heap_lt hb2
        simp at a2 x2 y2
        clear hn2 hb2
        go_wp2_with fail
        refine (print_w B b false vo2 (out ++ joined [32, 97, 110, 100, 32] f k ++ [32]) ⟨#[97, 110, 100, 32]⟩ w2 Hp2.out (by first | omega | (simp; omega)) (by decide)).mono ?_
        rintro e3 w3 ⟨rfl, vo3, hp, hw⟩
        have Hp3 : Hid (Pr B b false vo3 (out ++ joined [32, 97, 110, 100, 32] f k ++ [32] ++ [97, 110, 100, 32]) w3) := Lib.hid hp
        have Hw3 : Hid (Wrote b vr vo3 wr w3) := Lib.hid (Hw2.out.trans hw)
        have Hv3 : Hid (Wrote b vr vo3 (wr.alloc (.cells #[.int .i32 0, .iface 30 (.pointer (some ⟨(g k).1, 0, none⟩))] 46)) w3) := Lib.hid (Hv2.out.trans hw)
        clear hp hw
        have hn3 := (Hwr.out.trans Hw3.out).heap Hp.out hn1 hn2 Hn.out
        have a3 := cell_of_heap hn3 0
        have b3 := heap_lt hn3
        have hb3 : w3.heap[wr.heap.size]? = some (.cells #[.int .i32 0, .iface 30 (.pointer (some ⟨(g k).1, 0, none⟩))] 46) := Hv3.out.chg.heap Hbx.out (by rintro (h1 | h1); omega; exact absurd (Hpr.out.addr _ h1).2 (by omega))
        have x3 := cell_of_heap hb3 0
        have y3 := cell_of_heap hb3 1
        have z3 := heap_lt hb3
        simp at a3 x3 y3
        clear hn3 hb3
        go_wp2_with fail
        refine (mq_tok B b (g k).1 (g k).2 false (out ++ joined [32, 97, 110, 100, 32] f k ++ [32] ++ [97, 110, 100, 32]) (f k) w3 vo3 Hp3.out (Htk.out.kept (Hwr.out.trans Hw3.out) Hp.out) (by first | omega | (simp; omega)) (by omega)).mono ?_
        rintro e4 w4 ⟨rfl, vo4, hp, hw⟩
        have Hp4 : Hid (Pr B b false vo4 (out ++ joined [32, 97, 110, 100, 32] f k ++ [32] ++ [97, 110, 100, 32] ++ (f k).data.toList) w4) := Lib.hid hp
        have Hw4 : Hid (Wrote b vr vo4 wr w4) := Lib.hid (Hw3.out.trans hw)
        clear hp hw
        go_wp2_with fail
        go_roundw
        case rel =>
          have hz2 := Hp4.out
          have hj : out ++ joined [32, 97, 110, 100, 32] f (k + 1) = out ++ joined [32, 97, 110, 100, 32] f k ++ [32] ++ [97, 110, 100, 32] ++ (f k).data.toList := by simp [joined, show ¬ k = 0 by omega]
          exact ⟨k + 1, by omega, by go_num, vo4, hj ▸ hz2, Hwr.out.trans Hw4.out⟩
        case measure => simp [intOf]; omega
    · obtain rfl : k = n := by omega
      have Hpr := Lib.hid hpr
      have Hwr := Lib.hid hwr
      clear hnr hpr hwr
      go_wp2_with fail
      go_end0
      exact ⟨rfl, vr, Hpr.out, Hwr.out⟩
set_option maxRecDepth 100000 in
set_option maxHeartbeats 4000000 in
theorem mq_bin001 (B b g8 gt n cap : Nat) (g : Nat → Nat × Nat) (f : Nat → ByteArray) (out : List UInt8) (w : World) (vo : Option Addr) (h : Pr B b false vo out w) (hq : TermsAt B b gt n g f w)
    (hn : w.heap[g8]? = some (.cells #[.int .u8 0, .slice (some ⟨gt, 0, none⟩) n cap] 80 (0, 0))) (hn1 : g8 < B) (hn2 : g8 ≠ b) (ho : out.length ≤ 100000000) (hb : n + sumTo f n ≤ 1048576) :
    Calls Tryz.prog 11 #[.pointer (some ⟨b, 0, none⟩), binQ g8, .int .u8 1] w (Wrt B b false vo (out ++ ([40] ++ joined [32, 97, 110, 100, 32] f n ++ [41])) w) := by
  have n0 := cell_of_heap hn 0
  have n1 := cell_of_heap hn 1
  simp at n0 n1
  have hB := h.le
  have hg := heap_lt hn
  have hbs := h.lt_size
  have Hp := Lib.hid h
  have Hq := Lib.hid hq
  have Hn := Lib.hid hn
  clear h hq hn
  have as1 := as78_30
  have as2 := as78_87
  have as3 := as78_72
  have as4 := as78_78
  have hbit : bits .and .u8 1 1 = 1 := by decide
  unfold binQ
  go_enter Tryz.func11, Tryz.ntmps11
  go_wp2_with fail
  have Hw0 : Hid (Wrote b vo vo w (w.alloc (.cells #[.int .i32 0, .iface 78 (.pointer (some ⟨g8, 0, none⟩))] 46))) := Lib.hid ((Wrote.refl b vo w).alloc _)
  have Hp0 : Hid (Pr B b false vo out (w.alloc (.cells #[.int .i32 0, .iface 78 (.pointer (some ⟨g8, 0, none⟩))] 46))) := Lib.hid (Hp.out.wrote ((Chg.refl Nowhere w).alloc _))
  refine (print_w B b false vo out ⟨#[40]⟩ (w.alloc (.cells #[.int .i32 0, .iface 78 (.pointer (some ⟨g8, 0, none⟩))] 46)) Hp0.out (by omega) (by decide)).mono ?_
  rintro e1 wl ⟨rfl, vl, hp, hw⟩
  have Hpl : Hid (Pr B b false vl (out ++ [40]) wl) := Lib.hid hp
  have Hwl : Hid (Wrote b vo vl w wl) := Lib.hid (Hw0.out.trans hw)
  clear hp hw
  have hnl := Hwl.out.heap Hp.out hn1 hn2 Hn.out
  have m0 := cell_of_heap hnl 0
  have m1 := cell_of_heap hnl 1
  have m2 := heap_lt hnl
  simp at m0 m1
  clear hnl
  go_wp2_with fail
  go_loopw [169] (fun i wr => ∃ k : Nat, k ≤ n ∧ i = .int .i64 k ∧ At B b false vo (out ++ [40] ++ joined [32, 97, 110, 100, 32] f k) w wr) (fun i _ => n - (intOf i).toNat)
  case atStart => exact ⟨0, by omega, rfl, ⟨vl, by simpa only [joined, List.append_nil] using Hpl.out, Hwl.out⟩⟩
  case round =>
    obtain ⟨k, hk, rfl, vr, hpr, hwr⟩ := hrel
    have hm := sumTo_mono f hk
    have hl := joined_length [32, 97, 110, 100, 32] f k
    have hnr := hwr.heap Hp.out hn1 hn2 Hn.out
    have r0 := cell_of_heap hnr 0
    have r1 := cell_of_heap hnr 1
    have r2 := heap_lt hnr
    have r6 : wr.cell? ⟨b, 6, none⟩ = some (.bool false) := (hpr.cell 6 (by decide)).trans (by simp [pc])
    have r7 := hpr.lt_size
    have r8 := hpr.le
    simp at r0 r1 hl
    by_cases hlt : k < n
    · have hm2 := sumTo_mono f (show k + 1 ≤ n by omega)
      have hms : sumTo f (k + 1) = sumTo f k + (f k).size := rfl
      have tk := Hq.out.tok k hlt
      have tc : ∀ j v, w.cell? ⟨gt, j, none⟩ = some v → wr.cell? ⟨gt, j, none⟩ = some v := fun j v hv => hwr.chg.cell hv (by
        rintro (h1 | h1)
        · exact Hq.out.ne h1
        · exact absurd (Hp.out.addr gt h1).1 (by have := Hq.out.lt; omega))
      have c0 := tc _ _ (Hq.out.c0 k hlt)
      have c1 := tc _ _ (Hq.out.c1 k hlt)
      have Hpr := Lib.hid hpr
      have Hwr := Lib.hid hwr
      have Htk := Lib.hid tk
      clear tc hnr hpr hwr tk
      have hx1 : (k : Int) < (n : Int) := by omega
      have hx0 : (0 : Int) ≤ (k : Int) := by omega
      rcases Nat.eq_zero_or_pos k with hz | hz
      · have hx2 : ¬ (0 : Int) < (k : Int) := by omega
        have Hz := Lib.hid hz
        clear hz
        go_wp2_with fail
        have Hw1 : Hid (Wrote b vr vr wr (wr.alloc (.cells #[.int .i32 0, .iface 30 (.pointer (some ⟨(g k).1, 0, none⟩))] 46))) := Lib.hid ((Wrote.refl b vr wr).alloc _)
        have Hp1 : Hid (Pr B b false vr (out ++ [40] ++ joined [32, 97, 110, 100, 32] f k) (wr.alloc (.cells #[.int .i32 0, .iface 30 (.pointer (some ⟨(g k).1, 0, none⟩))] 46))) := Lib.hid (Hpr.out.wrote ((Chg.refl Nowhere wr).alloc _))
        have hbx : (wr.alloc (.cells #[.int .i32 0, .iface 30 (.pointer (some ⟨(g k).1, 0, none⟩))] 46)).heap[wr.heap.size]? = some (.cells #[.int .i32 0, .iface 30 (.pointer (some ⟨(g k).1, 0, none⟩))] 46) := heap_alloc_at wr _ _ rfl
        have Hbx := Lib.hid hbx
        clear hbx
        refine (mq_tok B b (g k).1 (g k).2 false (out ++ [40] ++ joined [32, 97, 110, 100, 32] f k) (f k) (wr.alloc (.cells #[.int .i32 0, .iface 30 (.pointer (some ⟨(g k).1, 0, none⟩))] 46)) vr Hp1.out (Htk.out.kept (Hwr.out.trans Hw1.out) Hp.out) (by first | omega | (simp; omega)) (by omega)).mono ?_
        rintro e2 w2 ⟨rfl, vo2, hp, hw⟩
        have Hp2 : Hid (Pr B b false vo2 (out ++ [40] ++ joined [32, 97, 110, 100, 32] f k ++ (f k).data.toList) w2) := Lib.hid hp
        have Hw2 : Hid (Wrote b vr vo2 wr w2) := Lib.hid (Hw1.out.trans hw)
        clear hp hw
        go_wp2_with fail
        go_roundw
        case rel =>
          have hz2 := Hp2.out
          have hj : out ++ [40] ++ joined [32, 97, 110, 100, 32] f (k + 1) = out ++ [40] ++ joined [32, 97, 110, 100, 32] f k ++ (f k).data.toList := by simp [joined, Hz.out]
          exact ⟨k + 1, by omega, by go_num, vo2, hj ▸ hz2, Hwr.out.trans Hw2.out⟩
        case measure => simp [intOf]; omega
      · have hx2 : (0 : Int) < (k : Int) := by omega
        go_wp2_with fail
        have Hw1 : Hid (Wrote b vr vr wr (wr.alloc (.cells #[.int .i32 0, .iface 30 (.pointer (some ⟨(g k).1, 0, none⟩))] 46))) := Lib.hid ((Wrote.refl b vr wr).alloc _)
        have Hp1 : Hid (Pr B b false vr (out ++ [40] ++ joined [32, 97, 110, 100, 32] f k) (wr.alloc (.cells #[.int .i32 0, .iface 30 (.pointer (some ⟨(g k).1, 0, none⟩))] 46))) := Lib.hid (Hpr.out.wrote ((Chg.refl Nowhere wr).alloc _))
        have hbx : (wr.alloc (.cells #[.int .i32 0, .iface 30 (.pointer (some ⟨(g k).1, 0, none⟩))] 46)).heap[wr.heap.size]? = some (.cells #[.int .i32 0, .iface 30 (.pointer (some ⟨(g k).1, 0, none⟩))] 46) := heap_alloc_at wr _ _ rfl
        have Hbx := Lib.hid hbx
        clear hbx
        refine (print_w B b false vr (out ++ [40] ++ joined [32, 97, 110, 100, 32] f k) ⟨#[32]⟩ (wr.alloc (.cells #[.int .i32 0, .iface 30 (.pointer (some ⟨(g k).1, 0, none⟩))] 46)) Hp1.out (by first | omega | (simp; omega)) (by decide)).mono ?_
        rintro e2 w2 ⟨rfl, vo2, hp, hw⟩
        have Hp2 : Hid (Pr B b false vo2 (out ++ [40] ++ joined [32, 97, 110, 100, 32] f k ++ [32]) w2) := Lib.hid hp
        have Hw2 : Hid (Wrote b vr vo2 wr w2) := Lib.hid (Hw1.out.trans hw)
        have Hv2 : Hid (Wrote b vr vo2 (wr.alloc (.cells #[.int .i32 0, .iface 30 (.pointer (some ⟨(g k).1, 0, none⟩))] 46)) w2) := Lib.hid (hw)
        clear hp hw
        have hn2 := (Hwr.out.trans Hw2.out).heap Hp.out hn1 hn2 Hn.out
        have a2 := cell_of_heap hn2 0
        have b2 := heap_lt hn2
        have hb2 : w2.heap[wr.heap.size]? = some (.cells #[.int .i32 0, .iface 30 (.pointer (some ⟨(g k).1, 0, none⟩))] 46) := Hv2.out.chg.heap Hbx.out (by rintro (h1 | h1); omega; exact absurd (Hpr.out.addr _ h1).2 (by omega))
        have x2 := cell_of_heap hb2 0
        have y2 := cell_of_heap hb2 1
        have z2 := heap_lt hb2
        simp at a2 x2 y2
        clear hn2 hb2
        go_wp2_with fail
        refine (print_w B b false vo2 (out ++ [40] ++ joined [32, 97, 110, 100, 32] f k ++ [32]) ⟨#[97, 110, 100, 32]⟩ w2 Hp2.out (by first | omega | (simp; omega)) (by decide)).mono ?_
        rintro e3 w3 ⟨rfl, vo3, hp, hw⟩
        have Hp3 : Hid (Pr B b false vo3 (out ++ [40] ++ joined [32, 97, 110, 100, 32] f k ++ [32] ++ [97, 110, 100, 32]) w3) := Lib.hid hp
        have Hw3 : Hid (Wrote b vr vo3 wr w3) := Lib.hid (Hw2.out.trans hw)
        have Hv3 : Hid (Wrote b vr vo3 (wr.alloc (.cells #[.int .i32 0, .iface 30 (.pointer (some ⟨(g k).1, 0, none⟩))] 46)) w3) := Lib.hid (Hv2.out.trans hw)
        clear hp hw
        have hn3 := (Hwr.out.trans Hw3.out).heap Hp.out hn1 hn2 Hn.out
        have a3 := cell_of_heap hn3 0
        have b3 := heap_lt hn3
        have hb3 : w3.heap[wr.heap.size]? = some (.cells #[.int .i32 0, .iface 30 (.pointer (some ⟨(g k).1, 0, none⟩))] 46) := Hv3.out.chg.heap Hbx.out (by rintro (h1 | h1); omega; exact absurd (Hpr.out.addr _ h1).2 (by omega))
        have x3 := cell_of_heap hb3 0
        have y3 := cell_of_heap hb3 1
        have z3 := heap_lt hb3
        simp at a3 x3 y3
        clear hn3 hb3
        go_wp2_with fail
        refine (mq_tok B b (g k).1 (g k).2 false (out ++ [40] ++ joined [32, 97, 110, 100, 32] f k ++ [32] ++ [97, 110, 100, 32]) (f k) w3 vo3 Hp3.out (Htk.out.kept (Hwr.out.trans Hw3.out) Hp.out) (by first | omega | (simp; omega)) (by omega)).mono ?_
        rintro e4 w4 ⟨rfl, vo4, hp, hw⟩
        have Hp4 : Hid (Pr B b false vo4 (out ++ [40] ++ joined [32, 97, 110, 100, 32] f k ++ [32] ++ [97, 110, 100, 32] ++ (f k).data.toList) w4) := Lib.hid hp
        have Hw4 : Hid (Wrote b vr vo4 wr w4) := Lib.hid (Hw3.out.trans hw)
        clear hp hw
        go_wp2_with fail
        go_roundw
        case rel =>
          have hz2 := Hp4.out
          have hj : out ++ [40] ++ joined [32, 97, 110, 100, 32] f (k + 1) = out ++ [40] ++ joined [32, 97, 110, 100, 32] f k ++ [32] ++ [97, 110, 100, 32] ++ (f k).data.toList := by simp [joined, show ¬ k = 0 by omega]
          exact ⟨k + 1, by omega, by go_num, vo4, hj ▸ hz2, Hwr.out.trans Hw4.out⟩
        case measure => simp [intOf]; omega
    · obtain rfl : k = n := by omega
      have Hpr := Lib.hid hpr
      have Hwr := Lib.hid hwr
      clear hnr hpr hwr
      go_wp2_with fail
      refine (print_w B b false vr (out ++ [40] ++ joined [32, 97, 110, 100, 32] f k) ⟨#[41]⟩ wr Hpr.out (by first | omega | (simp; omega)) (by decide)).mono ?_
      rintro e9 w9 ⟨rfl, v9, hp, hw⟩
      have Hp9 : Hid (Pr B b false v9 (out ++ [40] ++ joined [32, 97, 110, 100, 32] f k ++ [41]) w9) := Lib.hid hp
      have Hw9 : Hid (Wrote b vo v9 w w9) := Lib.hid (Hwr.out.trans hw)
      clear hp hw
      go_wp2_with fail
      go_end0
      exact ⟨rfl, v9, by simpa only [List.append_assoc, List.cons_append, List.nil_append] using Hp9.out, Hw9.out⟩
set_option maxRecDepth 100000 in
set_option maxHeartbeats 4000000 in
theorem mq_bin010 (B b g8 gt n cap : Nat) (g : Nat → Nat × Nat) (f : Nat → ByteArray) (out : List UInt8) (w : World) (vo : Option Addr) (h : Pr B b true vo out w) (hq : TermsAt B b gt n g f w)
    (hn : w.heap[g8]? = some (.cells #[.int .u8 0, .slice (some ⟨gt, 0, none⟩) n cap] 80 (0, 0))) (hn1 : g8 < B) (hn2 : g8 ≠ b) (ho : out.length ≤ 100000000) (hb : n + sumTo f n ≤ 1048576) :
    Calls Tryz.prog 11 #[.pointer (some ⟨b, 0, none⟩), binQ g8, .int .u8 0] w (Wrt B b true vo (out ++ joined [97, 110, 100, 32] f n) w) := by
  have n0 := cell_of_heap hn 0
  have n1 := cell_of_heap hn 1
  simp at n0 n1
  have hB := h.le
  have hg := heap_lt hn
  have hbs := h.lt_size
  have Hp := Lib.hid h
  have Hq := Lib.hid hq
  have Hn := Lib.hid hn
  clear h hq hn
  have as1 := as78_30
  have as2 := as78_87
  have as3 := as78_72
  have as4 := as78_78
  have hbit : bits .and .u8 0 1 = 0 := by decide
  unfold binQ
  go_enter Tryz.func11, Tryz.ntmps11
  go_wp2_with fail
  have Hw0 : Hid (Wrote b vo vo w (w.alloc (.cells #[.int .i32 0, .iface 78 (.pointer (some ⟨g8, 0, none⟩))] 46))) := Lib.hid ((Wrote.refl b vo w).alloc _)
  have Hp0 : Hid (Pr B b true vo out (w.alloc (.cells #[.int .i32 0, .iface 78 (.pointer (some ⟨g8, 0, none⟩))] 46))) := Lib.hid (Hp.out.wrote ((Chg.refl Nowhere w).alloc _))
  go_loopw [169] (fun i wr => ∃ k : Nat, k ≤ n ∧ i = .int .i64 k ∧ At B b true vo (out ++ joined [97, 110, 100, 32] f k) w wr) (fun i _ => n - (intOf i).toNat)
  case atStart => exact ⟨0, by omega, rfl, ⟨vo, by simpa only [joined, List.append_nil] using Hp0.out, Hw0.out⟩⟩
  case round =>
    obtain ⟨k, hk, rfl, vr, hpr, hwr⟩ := hrel
    have hm := sumTo_mono f hk
    have hl := joined_length [97, 110, 100, 32] f k
    have hnr := hwr.heap Hp.out hn1 hn2 Hn.out
    have r0 := cell_of_heap hnr 0
    have r1 := cell_of_heap hnr 1
    have r2 := heap_lt hnr
    have r6 : wr.cell? ⟨b, 6, none⟩ = some (.bool true) := (hpr.cell 6 (by decide)).trans (by simp [pc])
    have r7 := hpr.lt_size
    have r8 := hpr.le
    simp at r0 r1 hl
    by_cases hlt : k < n
    · have hm2 := sumTo_mono f (show k + 1 ≤ n by omega)
      have hms : sumTo f (k + 1) = sumTo f k + (f k).size := rfl
      have tk := Hq.out.tok k hlt
      have tc : ∀ j v, w.cell? ⟨gt, j, none⟩ = some v → wr.cell? ⟨gt, j, none⟩ = some v := fun j v hv => hwr.chg.cell hv (by
        rintro (h1 | h1)
        · exact Hq.out.ne h1
        · exact absurd (Hp.out.addr gt h1).1 (by have := Hq.out.lt; omega))
      have c0 := tc _ _ (Hq.out.c0 k hlt)
      have c1 := tc _ _ (Hq.out.c1 k hlt)
      have Hpr := Lib.hid hpr
      have Hwr := Lib.hid hwr
      have Htk := Lib.hid tk
      clear tc hnr hpr hwr tk
      have hx1 : (k : Int) < (n : Int) := by omega
      have hx0 : (0 : Int) ≤ (k : Int) := by omega
      rcases Nat.eq_zero_or_pos k with hz | hz
      · have hx2 : ¬ (0 : Int) < (k : Int) := by omega
        have Hz := Lib.hid hz
        clear hz
        go_wp2_with fail
        have Hw1 : Hid (Wrote b vr vr wr (wr.alloc (.cells #[.int .i32 0, .iface 30 (.pointer (some ⟨(g k).1, 0, none⟩))] 46))) := Lib.hid ((Wrote.refl b vr wr).alloc _)
        have Hp1 : Hid (Pr B b true vr (out ++ joined [97, 110, 100, 32] f k) (wr.alloc (.cells #[.int .i32 0, .iface 30 (.pointer (some ⟨(g k).1, 0, none⟩))] 46))) := Lib.hid (Hpr.out.wrote ((Chg.refl Nowhere wr).alloc _))
        have hbx : (wr.alloc (.cells #[.int .i32 0, .iface 30 (.pointer (some ⟨(g k).1, 0, none⟩))] 46)).heap[wr.heap.size]? = some (.cells #[.int .i32 0, .iface 30 (.pointer (some ⟨(g k).1, 0, none⟩))] 46) := heap_alloc_at wr _ _ rfl
        have Hbx := Lib.hid hbx
        clear hbx
        refine (mq_tok B b (g k).1 (g k).2 true (out ++ joined [97, 110, 100, 32] f k) (f k) (wr.alloc (.cells #[.int .i32 0, .iface 30 (.pointer (some ⟨(g k).1, 0, none⟩))] 46)) vr Hp1.out (Htk.out.kept (Hwr.out.trans Hw1.out) Hp.out) (by first | omega | (simp; omega)) (by omega)).mono ?_
        rintro e2 w2 ⟨rfl, vo2, hp, hw⟩
        have Hp2 : Hid (Pr B b true vo2 (out ++ joined [97, 110, 100, 32] f k ++ (f k).data.toList) w2) := Lib.hid hp
        have Hw2 : Hid (Wrote b vr vo2 wr w2) := Lib.hid (Hw1.out.trans hw)
        clear hp hw
        go_wp2_with fail
        go_roundw
        case rel =>
          have hz2 := Hp2.out
          have hj : out ++ joined [97, 110, 100, 32] f (k + 1) = out ++ joined [97, 110, 100, 32] f k ++ (f k).data.toList := by simp [joined, Hz.out]
          exact ⟨k + 1, by omega, by go_num, vo2, hj ▸ hz2, Hwr.out.trans Hw2.out⟩
        case measure => simp [intOf]; omega
      · have hx2 : (0 : Int) < (k : Int) := by omega
        go_wp2_with fail
        have Hw1 : Hid (Wrote b vr vr wr (wr.alloc (.cells #[.int .i32 0, .iface 30 (.pointer (some ⟨(g k).1, 0, none⟩))] 46))) := Lib.hid ((Wrote.refl b vr wr).alloc _)
        have Hp1 : Hid (Pr B b true vr (out ++ joined [97, 110, 100, 32] f k) (wr.alloc (.cells #[.int .i32 0, .iface 30 (.pointer (some ⟨(g k).1, 0, none⟩))] 46))) := Lib.hid (Hpr.out.wrote ((Chg.refl Nowhere wr).alloc _))
        have hbx : (wr.alloc (.cells #[.int .i32 0, .iface 30 (.pointer (some ⟨(g k).1, 0, none⟩))] 46)).heap[wr.heap.size]? = some (.cells #[.int .i32 0, .iface 30 (.pointer (some ⟨(g k).1, 0, none⟩))] 46) := heap_alloc_at wr _ _ rfl
        have Hbx := Lib.hid hbx
        clear hbx
        refine (print_w B b true vr (out ++ joined [97, 110, 100, 32] f k) ⟨#[97, 110, 100, 32]⟩ (wr.alloc (.cells #[.int .i32 0, .iface 30 (.pointer (some ⟨(g k).1, 0, none⟩))] 46)) Hp1.out (by first | omega | (simp; omega)) (by decide)).mono ?_
        rintro e2 w2 ⟨rfl, vo2, hp, hw⟩
        have Hp2 : Hid (Pr B b true vo2 (out ++ joined [97, 110, 100, 32] f k ++ [97, 110, 100, 32]) w2) := Lib.hid hp
        have Hw2 : Hid (Wrote b vr vo2 wr w2) := Lib.hid (Hw1.out.trans hw)
        have Hv2 : Hid (Wrote b vr vo2 (wr.alloc (.cells #[.int .i32 0, .iface 30 (.pointer (some ⟨(g k).1, 0, none⟩))] 46)) w2) := Lib.hid (hw)
        clear hp hw
        have hn2 := (Hwr.out.trans Hw2.out).heap Hp.out hn1 hn2 Hn.out
        have a2 := cell_of_heap hn2 0
        have b2 := heap_lt hn2
        have hb2 : w2.heap[wr.heap.size]? = some (.cells #[.int .i32 0, .iface 30 (.pointer (some ⟨(g k).1, 0, none⟩))] 46) := Hv2.out.chg.heap Hbx.out (by rintro (h1 | h1); omega; exact absurd (Hpr.out.addr _ h1).2 (by omega))
        have x2 := cell_of_heap hb2 0
        have y2 := cell_of_heap hb2 1
        have z2 := heap_lt hb2
        simp at a2 x2 y2
        clear hn2 hb2
        go_wp2_with fail
        refine (mq_tok B b (g k).1 (g k).2 true (out ++ joined [97, 110, 100, 32] f k ++ [97, 110, 100, 32]) (f k) w2 vo2 Hp2.out (Htk.out.kept (Hwr.out.trans Hw2.out) Hp.out) (by first | omega | (simp; omega)) (by omega)).mono ?_
        rintro e3 w3 ⟨rfl, vo3, hp, hw⟩
        have Hp3 : Hid (Pr B b true vo3 (out ++ joined [97, 110, 100, 32] f k ++ [97, 110, 100, 32] ++ (f k).data.toList) w3) := Lib.hid hp
        have Hw3 : Hid (Wrote b vr vo3 wr w3) := Lib.hid (Hw2.out.trans hw)
        clear hp hw
        go_wp2_with fail
        go_roundw
        case rel =>
          have hz2 := Hp3.out
          have hj : out ++ joined [97, 110, 100, 32] f (k + 1) = out ++ joined [97, 110, 100, 32] f k ++ [97, 110, 100, 32] ++ (f k).data.toList := by simp [joined, show ¬ k = 0 by omega]
          exact ⟨k + 1, by omega, by go_num, vo3, hj ▸ hz2, Hwr.out.trans Hw3.out⟩
        case measure => simp [intOf]; omega
    · obtain rfl : k = n := by omega
      have Hpr := Lib.hid hpr
      have Hwr := Lib.hid hwr
      clear hnr hpr hwr
      go_wp2_with fail
      go_end0
      exact ⟨rfl, vr, Hpr.out, Hwr.out⟩
set_option maxRecDepth 100000 in
set_option maxHeartbeats 4000000 in
theorem mq_bin011 (B b g8 gt n cap : Nat) (g : Nat → Nat × Nat) (f : Nat → ByteArray) (out : List UInt8) (w : World) (vo : Option Addr) (h : Pr B b true vo out w) (hq : TermsAt B b gt n g f w)
    (hn : w.heap[g8]? = some (.cells #[.int .u8 0, .slice (some ⟨gt, 0, none⟩) n cap] 80 (0, 0))) (hn1 : g8 < B) (hn2 : g8 ≠ b) (ho : out.length ≤ 100000000) (hb : n + sumTo f n ≤ 1048576) :
    Calls Tryz.prog 11 #[.pointer (some ⟨b, 0, none⟩), binQ g8, .int .u8 1] w (Wrt B b true vo (out ++ ([40] ++ joined [97, 110, 100, 32] f n ++ [41])) w) := by
  have n0 := cell_of_heap hn 0
  have n1 := cell_of_heap hn 1
  simp at n0 n1
  have hB := h.le
  have hg := heap_lt hn
  have hbs := h.lt_size
  have Hp := Lib.hid h
  have Hq := Lib.hid hq
  have Hn := Lib.hid hn
  clear h hq hn
  have as1 := as78_30
  have as2 := as78_87
  have as3 := as78_72
  have as4 := as78_78
  have hbit : bits .and .u8 1 1 = 1 := by decide
  unfold binQ
  go_enter Tryz.func11, Tryz.ntmps11
  go_wp2_with fail
  have Hw0 : Hid (Wrote b vo vo w (w.alloc (.cells #[.int .i32 0, .iface 78 (.pointer (some ⟨g8, 0, none⟩))] 46))) := Lib.hid ((Wrote.refl b vo w).alloc _)
  have Hp0 : Hid (Pr B b true vo out (w.alloc (.cells #[.int .i32 0, .iface 78 (.pointer (some ⟨g8, 0, none⟩))] 46))) := Lib.hid (Hp.out.wrote ((Chg.refl Nowhere w).alloc _))
  refine (print_w B b true vo out ⟨#[40]⟩ (w.alloc (.cells #[.int .i32 0, .iface 78 (.pointer (some ⟨g8, 0, none⟩))] 46)) Hp0.out (by omega) (by decide)).mono ?_
  rintro e1 wl ⟨rfl, vl, hp, hw⟩
  have Hpl : Hid (Pr B b true vl (out ++ [40]) wl) := Lib.hid hp
  have Hwl : Hid (Wrote b vo vl w wl) := Lib.hid (Hw0.out.trans hw)
  clear hp hw
  have hnl := Hwl.out.heap Hp.out hn1 hn2 Hn.out
  have m0 := cell_of_heap hnl 0
  have m1 := cell_of_heap hnl 1
  have m2 := heap_lt hnl
  simp at m0 m1
  clear hnl
  go_wp2_with fail
  go_loopw [169] (fun i wr => ∃ k : Nat, k ≤ n ∧ i = .int .i64 k ∧ At B b true vo (out ++ [40] ++ joined [97, 110, 100, 32] f k) w wr) (fun i _ => n - (intOf i).toNat)
  case atStart => exact ⟨0, by omega, rfl, ⟨vl, by simpa only [joined, List.append_nil] using Hpl.out, Hwl.out⟩⟩
  case round =>
    obtain ⟨k, hk, rfl, vr, hpr, hwr⟩ := hrel
    have hm := sumTo_mono f hk
    have hl := joined_length [97, 110, 100, 32] f k
    have hnr := hwr.heap Hp.out hn1 hn2 Hn.out
    have r0 := cell_of_heap hnr 0
    have r1 := cell_of_heap hnr 1
    have r2 := heap_lt hnr
    have r6 : wr.cell? ⟨b, 6, none⟩ = some (.bool true) := (hpr.cell 6 (by decide)).trans (by simp [pc])
    have r7 := hpr.lt_size
    have r8 := hpr.le
    simp at r0 r1 hl
    by_cases hlt : k < n
    · have hm2 := sumTo_mono f (show k + 1 ≤ n by omega)
      have hms : sumTo f (k + 1) = sumTo f k + (f k).size := rfl
      have tk := Hq.out.tok k hlt
      have tc : ∀ j v, w.cell? ⟨gt, j, none⟩ = some v → wr.cell? ⟨gt, j, none⟩ = some v := fun j v hv => hwr.chg.cell hv (by
        rintro (h1 | h1)
        · exact Hq.out.ne h1
        · exact absurd (Hp.out.addr gt h1).1 (by have := Hq.out.lt; omega))
      have c0 := tc _ _ (Hq.out.c0 k hlt)
      have c1 := tc _ _ (Hq.out.c1 k hlt)
      have Hpr := Lib.hid hpr
      have Hwr := Lib.hid hwr
      have Htk := Lib.hid tk
      clear tc hnr hpr hwr tk
      have hx1 : (k : Int) < (n : Int) := by omega
      have hx0 : (0 : Int) ≤ (k : Int) := by omega
      rcases Nat.eq_zero_or_pos k with hz | hz
      · have hx2 : ¬ (0 : Int) < (k : Int) := by omega
        have Hz := Lib.hid hz
        clear hz
        go_wp2_with fail
        have Hw1 : Hid (Wrote b vr vr wr (wr.alloc (.cells #[.int .i32 0, .iface 30 (.pointer (some ⟨(g k).1, 0, none⟩))] 46))) := Lib.hid ((Wrote.refl b vr wr).alloc _)
        have Hp1 : Hid (Pr B b true vr (out ++ [40] ++ joined [97, 110, 100, 32] f k) (wr.alloc (.cells #[.int .i32 0, .iface 30 (.pointer (some ⟨(g k).1, 0, none⟩))] 46))) := Lib.hid (Hpr.out.wrote ((Chg.refl Nowhere wr).alloc _))
        have hbx : (wr.alloc (.cells #[.int .i32 0, .iface 30 (.pointer (some ⟨(g k).1, 0, none⟩))] 46)).heap[wr.heap.size]? = some (.cells #[.int .i32 0, .iface 30 (.pointer (some ⟨(g k).1, 0, none⟩))] 46) := heap_alloc_at wr _ _ rfl
        have Hbx := Lib.hid hbx
        clear hbx
        refine (mq_tok B b (g k).1 (g k).2 true (out ++ [40] ++ joined [97, 110, 100, 32] f k) (f k) (wr.alloc (.cells #[.int .i32 0, .iface 30 (.pointer (some ⟨(g k).1, 0, none⟩))] 46)) vr Hp1.out (Htk.out.kept (Hwr.out.trans Hw1.out) Hp.out) (by first | omega | (simp; omega)) (by omega)).mono ?_
        rintro e2 w2 ⟨rfl, vo2, hp, hw⟩
        have Hp2 : Hid (Pr B b true vo2 (out ++ [40] ++ joined [97, 110, 100, 32] f k ++ (f k).data.toList) w2) := Lib.hid hp
        have Hw2 : Hid (Wrote b vr vo2 wr w2) := Lib.hid (Hw1.out.trans hw)
        clear hp hw
        go_wp2_with fail
        go_roundw
        case rel =>
          have hz2 := Hp2.out
          have hj : out ++ [40] ++ joined [97, 110, 100, 32] f (k + 1) = out ++ [40] ++ joined [97, 110, 100, 32] f k ++ (f k).data.toList := by simp [joined, Hz.out]
          exact ⟨k + 1, by omega, by go_num, vo2, hj ▸ hz2, Hwr.out.trans Hw2.out⟩
        case measure => simp [intOf]; omega
      · have hx2 : (0 : Int) < (k : Int) := by omega
        go_wp2_with fail
        have Hw1 : Hid (Wrote b vr vr wr (wr.alloc (.cells #[.int .i32 0, .iface 30 (.pointer (some ⟨(g k).1, 0, none⟩))] 46))) := Lib.hid ((Wrote.refl b vr wr).alloc _)
        have Hp1 : Hid (Pr B b true vr (out ++ [40] ++ joined [97, 110, 100, 32] f k) (wr.alloc (.cells #[.int .i32 0, .iface 30 (.pointer (some ⟨(g k).1, 0, none⟩))] 46))) := Lib.hid (Hpr.out.wrote ((Chg.refl Nowhere wr).alloc _))
        have hbx : (wr.alloc (.cells #[.int .i32 0, .iface 30 (.pointer (some ⟨(g k).1, 0, none⟩))] 46)).heap[wr.heap.size]? = some (.cells #[.int .i32 0, .iface 30 (.pointer (some ⟨(g k).1, 0, none⟩))] 46) := heap_alloc_at wr _ _ rfl
        have Hbx := Lib.hid hbx
        clear hbx
        refine (print_w B b true vr (out ++ [40] ++ joined [97, 110, 100, 32] f k) ⟨#[97, 110, 100, 32]⟩ (wr.alloc (.cells #[.int .i32 0, .iface 30 (.pointer (some ⟨(g k).1, 0, none⟩))] 46)) Hp1.out (by first | omega | (simp; omega)) (by decide)).mono ?_
        rintro e2 w2 ⟨rfl, vo2, hp, hw⟩
        have Hp2 : Hid (Pr B b true vo2 (out ++ [40] ++ joined [97, 110, 100, 32] f k ++ [97, 110, 100, 32]) w2) := Lib.hid hp
        have Hw2 : Hid (Wrote b vr vo2 wr w2) := Lib.hid (Hw1.out.trans hw)
        have Hv2 : Hid (Wrote b vr vo2 (wr.alloc (.cells #[.int .i32 0, .iface 30 (.pointer (some ⟨(g k).1, 0, none⟩))] 46)) w2) := Lib.hid (hw)
        clear hp hw
        have hn2 := (Hwr.out.trans Hw2.out).heap Hp.out hn1 hn2 Hn.out
        have a2 := cell_of_heap hn2 0
        have b2 := heap_lt hn2
        have hb2 : w2.heap[wr.heap.size]? = some (.cells #[.int .i32 0, .iface 30 (.pointer (some ⟨(g k).1, 0, none⟩))] 46) := Hv2.out.chg.heap Hbx.out (by rintro (h1 | h1); omega; exact absurd (Hpr.out.addr _ h1).2 (by omega))
        have x2 := cell_of_heap hb2 0
        have y2 := cell_of_heap hb2 1
        have z2 := heap_lt hb2
        simp at a2 x2 y2
        clear hn2 hb2
        go_wp2_with fail
        refine (mq_tok B b (g k).1 (g k).2 true (out ++ [40] ++ joined [97, 110, 100, 32] f k ++ [97, 110, 100, 32]) (f k) w2 vo2 Hp2.out (Htk.out.kept (Hwr.out.trans Hw2.out) Hp.out) (by first | omega | (simp; omega)) (by omega)).mono ?_
        rintro e3 w3 ⟨rfl, vo3, hp, hw⟩
        have Hp3 : Hid (Pr B b true vo3 (out ++ [40] ++ joined [97, 110, 100, 32] f k ++ [97, 110, 100, 32] ++ (f k).data.toList) w3) := Lib.hid hp
        have Hw3 : Hid (Wrote b vr vo3 wr w3) := Lib.hid (Hw2.out.trans hw)
        clear hp hw
        go_wp2_with fail
        go_roundw
        case rel =>
          have hz2 := Hp3.out
          have hj : out ++ [40] ++ joined [97, 110, 100, 32] f (k + 1) = out ++ [40] ++ joined [97, 110, 100, 32] f k ++ [97, 110, 100, 32] ++ (f k).data.toList := by simp [joined, show ¬ k = 0 by omega]
          exact ⟨k + 1, by omega, by go_num, vo3, hj ▸ hz2, Hwr.out.trans Hw3.out⟩
        case measure => simp [intOf]; omega
    · obtain rfl : k = n := by omega
      have Hpr := Lib.hid hpr
      have Hwr := Lib.hid hwr
      clear hnr hpr hwr
      go_wp2_with fail
      refine (print_w B b true vr (out ++ [40] ++ joined [97, 110, 100, 32] f k) ⟨#[41]⟩ wr Hpr.out (by first | omega | (simp; omega)) (by decide)).mono ?_
      rintro e9 w9 ⟨rfl, v9, hp, hw⟩
      have Hp9 : Hid (Pr B b true v9 (out ++ [40] ++ joined [97, 110, 100, 32] f k ++ [41]) w9) := Lib.hid hp
      have Hw9 : Hid (Wrote b vo v9 w w9) := Lib.hid (Hwr.out.trans hw)
      clear hp hw
      go_wp2_with fail
      go_end0
      exact ⟨rfl, v9, by simpa only [List.append_assoc, List.cons_append, List.nil_append] using Hp9.out, Hw9.out⟩
set_option maxRecDepth 100000 in
set_option maxHeartbeats 4000000 in
theorem mq_bin100 (B b g8 gt n cap : Nat) (g : Nat → Nat × Nat) (f : Nat → ByteArray) (out : List UInt8) (w : World) (vo : Option Addr) (h : Pr B b false vo out w) (hq : TermsAt B b gt n g f w)
    (hn : w.heap[g8]? = some (.cells #[.int .u8 1, .slice (some ⟨gt, 0, none⟩) n cap] 80 (0, 0))) (hn1 : g8 < B) (hn2 : g8 ≠ b) (ho : out.length ≤ 100000000) (hb : n + sumTo f n ≤ 1048576) :
    Calls Tryz.prog 11 #[.pointer (some ⟨b, 0, none⟩), binQ g8, .int .u8 0] w (Wrt B b false vo (out ++ joined [32, 111, 114, 32] f n) w) := by
  have n0 := cell_of_heap hn 0
  have n1 := cell_of_heap hn 1
  simp at n0 n1
  have hB := h.le
  have hg := heap_lt hn
  have hbs := h.lt_size
  have Hp := Lib.hid h
  have Hq := Lib.hid hq
  have Hn := Lib.hid hn
  clear h hq hn
  have as1 := as78_30
  have as2 := as78_87
  have as3 := as78_72
  have as4 := as78_78
  have hbit : bits .and .u8 0 1 = 0 := by decide
  unfold binQ
  go_enter Tryz.func11, Tryz.ntmps11
  go_wp2_with fail
  have Hw0 : Hid (Wrote b vo vo w (w.alloc (.cells #[.int .i32 0, .iface 78 (.pointer (some ⟨g8, 0, none⟩))] 46))) := Lib.hid ((Wrote.refl b vo w).alloc _)
  have Hp0 : Hid (Pr B b false vo out (w.alloc (.cells #[.int .i32 0, .iface 78 (.pointer (some ⟨g8, 0, none⟩))] 46))) := Lib.hid (Hp.out.wrote ((Chg.refl Nowhere w).alloc _))
  go_loopw [169] (fun i wr => ∃ k : Nat, k ≤ n ∧ i = .int .i64 k ∧ At B b false vo (out ++ joined [32, 111, 114, 32] f k) w wr) (fun i _ => n - (intOf i).toNat)
  case atStart => exact ⟨0, by omega, rfl, ⟨vo, by simpa only [joined, List.append_nil] using Hp0.out, Hw0.out⟩⟩
  case round =>
    obtain ⟨k, hk, rfl, vr, hpr, hwr⟩ := hrel
    have hm := sumTo_mono f hk
    have hl := joined_length [32, 111, 114, 32] f k
    have hnr := hwr.heap Hp.out hn1 hn2 Hn.out
    have r0 := cell_of_heap hnr 0
    have r1 := cell_of_heap hnr 1
    have r2 := heap_lt hnr
    have r6 : wr.cell? ⟨b, 6, none⟩ = some (.bool false) := (hpr.cell 6 (by decide)).trans (by simp [pc])
    have r7 := hpr.lt_size
    have r8 := hpr.le
    simp at r0 r1 hl
    by_cases hlt : k < n
    · have hm2 := sumTo_mono f (show k + 1 ≤ n by omega)
      have hms : sumTo f (k + 1) = sumTo f k + (f k).size := rfl
      have tk := Hq.out.tok k hlt
      have tc : ∀ j v, w.cell? ⟨gt, j, none⟩ = some v → wr.cell? ⟨gt, j, none⟩ = some v := fun j v hv => hwr.chg.cell hv (by
        rintro (h1 | h1)
        · exact Hq.out.ne h1
        · exact absurd (Hp.out.addr gt h1).1 (by have := Hq.out.lt; omega))
      have c0 := tc _ _ (Hq.out.c0 k hlt)
      have c1 := tc _ _ (Hq.out.c1 k hlt)
      have Hpr := Lib.hid hpr
      have Hwr := Lib.hid hwr
      have Htk := Lib.hid tk
      clear tc hnr hpr hwr tk
      have hx1 : (k : Int) < (n : Int) := by omega
      have hx0 : (0 : Int) ≤ (k : Int) := by omega
      rcases Nat.eq_zero_or_pos k with hz | hz
      · have hx2 : ¬ (0 : Int) < (k : Int) := by omega
        have Hz := Lib.hid hz
        clear hz
        go_wp2_with fail
        have Hw1 : Hid (Wrote b vr vr wr (wr.alloc (.cells #[.int .i32 0, .iface 30 (.pointer (some ⟨(g k).1, 0, none⟩))] 46))) := Lib.hid ((Wrote.refl b vr wr).alloc _)
        have Hp1 : Hid (Pr B b false vr (out ++ joined [32, 111, 114, 32] f k) (wr.alloc (.cells #[.int .i32 0, .iface 30 (.pointer (some ⟨(g k).1, 0, none⟩))] 46))) := Lib.hid (Hpr.out.wrote ((Chg.refl Nowhere wr).alloc _))
        have hbx : (wr.alloc (.cells #[.int .i32 0, .iface 30 (.pointer (some ⟨(g k).1, 0, none⟩))] 46)).heap[wr.heap.size]? = some (.cells #[.int .i32 0, .iface 30 (.pointer (some ⟨(g k).1, 0, none⟩))] 46) := heap_alloc_at wr _ _ rfl
        have Hbx := Lib.hid hbx
        clear hbx
        refine (mq_tok B b (g k).1 (g k).2 false (out ++ joined [32, 111, 114, 32] f k) (f k) (wr.alloc (.cells #[.int .i32 0, .iface 30 (.pointer (some ⟨(g k).1, 0, none⟩))] 46)) vr Hp1.out (Htk.out.kept (Hwr.out.trans Hw1.out) Hp.out) (by first | omega | (simp; omega)) (by omega)).mono ?_
        rintro e2 w2 ⟨rfl, vo2, hp, hw⟩
        have Hp2 : Hid (Pr B b false vo2 (out ++ joined [32, 111, 114, 32] f k ++ (f k).data.toList) w2) := Lib.hid hp
        have Hw2 : Hid (Wrote b vr vo2 wr w2) := Lib.hid (Hw1.out.trans hw)
        clear hp hw
        go_wp2_with fail
        go_roundw
        case rel =>
          have hz2 := Hp2.out
          have hj : out ++ joined [32, 111, 114, 32] f (k + 1) = out ++ joined [32, 111, 114, 32] f k ++ (f k).data.toList := by simp [joined, Hz.out]
          exact ⟨k + 1, by omega, by go_num, vo2, hj ▸ hz2, Hwr.out.trans Hw2.out⟩
        case measure => simp [intOf]; omega
      · have hx2 : (0 : Int) < (k : Int) := by omega
        go_wp2_with fail
        have Hw1 : Hid (Wrote b vr vr wr (wr.alloc (.cells #[.int .i32 0, .iface 30 (.pointer (some ⟨(g k).1, 0, none⟩))] 46))) := Lib.hid ((Wrote.refl b vr wr).alloc _)
        have Hp1 : Hid (Pr B b false vr (out ++ joined [32, 111, 114, 32] f k) (wr.alloc (.cells #[.int .i32 0, .iface 30 (.pointer (some ⟨(g k).1, 0, none⟩))] 46))) := Lib.hid (Hpr.out.wrote ((Chg.refl Nowhere wr).alloc _))
        have hbx : (wr.alloc (.cells #[.int .i32 0, .iface 30 (.pointer (some ⟨(g k).1, 0, none⟩))] 46)).heap[wr.heap.size]? = some (.cells #[.int .i32 0, .iface 30 (.pointer (some ⟨(g k).1, 0, none⟩))] 46) := heap_alloc_at wr _ _ rfl
        have Hbx := Lib.hid hbx
        clear hbx
        refine (print_w B b false vr (out ++ joined [32, 111, 114, 32] f k) ⟨#[32]⟩ (wr.alloc (.cells #[.int .i32 0, .iface 30 (.pointer (some ⟨(g k).1, 0, none⟩))] 46)) Hp1.out (by first | omega | (simp; omega)) (by decide)).mono ?_
        rintro e2 w2 ⟨rfl, vo2, hp, hw⟩
        have Hp2 : Hid (Pr B b false vo2 (out ++ joined [32, 111, 114, 32] f k ++ [32]) w2) := Lib.hid hp
        have Hw2 : Hid (Wrote b vr vo2 wr w2) := Lib.hid (Hw1.out.trans hw)
        have Hv2 : Hid (Wrote b vr vo2 (wr.alloc (.cells #[.int .i32 0, .iface 30 (.pointer (some ⟨(g k).1, 0, none⟩))] 46)) w2) := Lib.hid (hw)
        clear hp hw
        have hn2 := (Hwr.out.trans Hw2.out).heap Hp.out hn1 hn2 Hn.out
        have a2 := cell_of_heap hn2 0
        have b2 := heap_lt hn2
        have hb2 : w2.heap[wr.heap.size]? = some (.cells #[.int .i32 0, .iface 30 (.pointer (some ⟨(g k).1, 0, none⟩))] 46) := Hv2.out.chg.heap Hbx.out (by rintro (h1 | h1); omega; exact absurd (Hpr.out.addr _ h1).2 (by omega))
        have x2 := cell_of_heap hb2 0
        have y2 := cell_of_heap hb2 1
        have z2 := heap_lt hb2
        simp at a2 x2 y2
        clear hn2 hb2
        go_wp2_with fail
        refine (print_w B b false vo2 (out ++ joined [32, 111, 114, 32] f k ++ [32]) ⟨#[111, 114, 32]⟩ w2 Hp2.out (by first | omega | (simp; omega)) (by decide)).mono ?_
        rintro e3 w3 ⟨rfl, vo3, hp, hw⟩
        have Hp3 : Hid (Pr B b false vo3 (out ++ joined [32, 111, 114, 32] f k ++ [32] ++ [111, 114, 32]) w3) := Lib.hid hp
        have Hw3 : Hid (Wrote b vr vo3 wr w3) := Lib.hid (Hw2.out.trans hw)
        have Hv3 : Hid (Wrote b vr vo3 (wr.alloc (.cells #[.int .i32 0, .iface 30 (.pointer (some ⟨(g k).1, 0, none⟩))] 46)) w3) := Lib.hid (Hv2.out.trans hw)
        clear hp hw
        have hn3 := (Hwr.out.trans Hw3.out).heap Hp.out hn1 hn2 Hn.out
        have a3 := cell_of_heap hn3 0
        have b3 := heap_lt hn3
        have hb3 : w3.heap[wr.heap.size]? = some (.cells #[.int .i32 0, .iface 30 (.pointer (some ⟨(g k).1, 0, none⟩))] 46) := Hv3.out.chg.heap Hbx.out (by rintro (h1 | h1); omega; exact absurd (Hpr.out.addr _ h1).2 (by omega))
        have x3 := cell_of_heap hb3 0
        have y3 := cell_of_heap hb3 1
        have z3 := heap_lt hb3
        simp at a3 x3 y3
        clear hn3 hb3
        go_wp2_with fail
        refine (mq_tok B b (g k).1 (g k).2 false (out ++ joined [32, 111, 114, 32] f k ++ [32] ++ [111, 114, 32]) (f k) w3 vo3 Hp3.out (Htk.out.kept (Hwr.out.trans Hw3.out) Hp.out) (by first | omega | (simp; omega)) (by omega)).mono ?_
        rintro e4 w4 ⟨rfl, vo4, hp, hw⟩
        have Hp4 : Hid (Pr B b false vo4 (out ++ joined [32, 111, 114, 32] f k ++ [32] ++ [111, 114, 32] ++ (f k).data.toList) w4) := Lib.hid hp
        have Hw4 : Hid (Wrote b vr vo4 wr w4) := Lib.hid (Hw3.out.trans hw)
        clear hp hw
        go_wp2_with fail
        go_roundw
        case rel =>
          have hz2 := Hp4.out
          have hj : out ++ joined [32, 111, 114, 32] f (k + 1) = out ++ joined [32, 111, 114, 32] f k ++ [32] ++ [111, 114, 32] ++ (f k).data.toList := by simp [joined, show ¬ k = 0 by omega]
          exact ⟨k + 1, by omega, by go_num, vo4, hj ▸ hz2, Hwr.out.trans Hw4.out⟩
        case measure => simp [intOf]; omega
    · obtain rfl : k = n := by omega
      have Hpr := Lib.hid hpr
      have Hwr := Lib.hid hwr
      clear hnr hpr hwr
      go_wp2_with fail
      go_end0
      exact ⟨rfl, vr, Hpr.out, Hwr.out⟩
set_option maxRecDepth 100000 in
set_option maxHeartbeats 4000000 in
theorem mq_bin101 (B b g8 gt n cap : Nat) (g : Nat → Nat × Nat) (f : Nat → ByteArray) (out : List UInt8) (w : World) (vo : Option Addr) (h : Pr B b false vo out w) (hq : TermsAt B b gt n g f w)
    (hn : w.heap[g8]? = some (.cells #[.int .u8 1, .slice (some ⟨gt, 0, none⟩) n cap] 80 (0, 0))) (hn1 : g8 < B) (hn2 : g8 ≠ b) (ho : out.length ≤ 100000000) (hb : n + sumTo f n ≤ 1048576) :
    Calls Tryz.prog 11 #[.pointer (some ⟨b, 0, none⟩), binQ g8, .int .u8 1] w (Wrt B b false vo (out ++ ([40] ++ joined [32, 111, 114, 32] f n ++ [41])) w) := by
  have n0 := cell_of_heap hn 0
  have n1 := cell_of_heap hn 1
  simp at n0 n1
  have hB := h.le
  have hg := heap_lt hn
  have hbs := h.lt_size
  have Hp := Lib.hid h
  have Hq := Lib.hid hq
  have Hn := Lib.hid hn
  clear h hq hn
  have as1 := as78_30
  have as2 := as78_87
  have as3 := as78_72
  have as4 := as78_78
  have hbit : bits .and .u8 1 1 = 1 := by decide
  unfold binQ
  go_enter Tryz.func11, Tryz.ntmps11
  go_wp2_with fail
  have Hw0 : Hid (Wrote b vo vo w (w.alloc (.cells #[.int .i32 0, .iface 78 (.pointer (some ⟨g8, 0, none⟩))] 46))) := Lib.hid ((Wrote.refl b vo w).alloc _)
  have Hp0 : Hid (Pr B b false vo out (w.alloc (.cells #[.int .i32 0, .iface 78 (.pointer (some ⟨g8, 0, none⟩))] 46))) := Lib.hid (Hp.out.wrote ((Chg.refl Nowhere w).alloc _))
  refine (print_w B b false vo out ⟨#[40]⟩ (w.alloc (.cells #[.int .i32 0, .iface 78 (.pointer (some ⟨g8, 0, none⟩))] 46)) Hp0.out (by omega) (by decide)).mono ?_
  rintro e1 wl ⟨rfl, vl, hp, hw⟩
  have Hpl : Hid (Pr B b false vl (out ++ [40]) wl) := Lib.hid hp
  have Hwl : Hid (Wrote b vo vl w wl) := Lib.hid (Hw0.out.trans hw)
  clear hp hw
  have hnl := Hwl.out.heap Hp.out hn1 hn2 Hn.out
  have m0 := cell_of_heap hnl 0
  have m1 := cell_of_heap hnl 1
  have m2 := heap_lt hnl
  simp at m0 m1
  clear hnl
  go_wp2_with fail
  go_loopw [169] (fun i wr => ∃ k : Nat, k ≤ n ∧ i = .int .i64 k ∧ At B b false vo (out ++ [40] ++ joined [32, 111, 114, 32] f k) w wr) (fun i _ => n - (intOf i).toNat)
  case atStart => exact ⟨0, by omega, rfl, ⟨vl, by simpa only [joined, List.append_nil] using Hpl.out, Hwl.out⟩⟩
  case round =>
    obtain ⟨k, hk, rfl, vr, hpr, hwr⟩ := hrel
    have hm := sumTo_mono f hk
    have hl := joined_length [32, 111, 114, 32] f k
    have hnr := hwr.heap Hp.out hn1 hn2 Hn.out
    have r0 := cell_of_heap hnr 0
    have r1 := cell_of_heap hnr 1
    have r2 := heap_lt hnr
    have r6 : wr.cell? ⟨b, 6, none⟩ = some (.bool false) := (hpr.cell 6 (by decide)).trans (by simp [pc])
    have r7 := hpr.lt_size
    have r8 := hpr.le
    simp at r0 r1 hl
    by_cases hlt : k < n
    · have hm2 := sumTo_mono f (show k + 1 ≤ n by omega)
      have hms : sumTo f (k + 1) = sumTo f k + (f k).size := rfl
      have tk := Hq.out.tok k hlt
      have tc : ∀ j v, w.cell? ⟨gt, j, none⟩ = some v → wr.cell? ⟨gt, j, none⟩ = some v := fun j v hv => hwr.chg.cell hv (by
        rintro (h1 | h1)
        · exact Hq.out.ne h1
        · exact absurd (Hp.out.addr gt h1).1 (by have := Hq.out.lt; omega))
      have c0 := tc _ _ (Hq.out.c0 k hlt)
      have c1 := tc _ _ (Hq.out.c1 k hlt)
      have Hpr := Lib.hid hpr
      have Hwr := Lib.hid hwr
      have Htk := Lib.hid tk
      clear tc hnr hpr hwr tk
      have hx1 : (k : Int) < (n : Int) := by omega
      have hx0 : (0 : Int) ≤ (k : Int) := by omega
      rcases Nat.eq_zero_or_pos k with hz | hz
      · have hx2 : ¬ (0 : Int) < (k : Int) := by omega
        have Hz := Lib.hid hz
        clear hz
        go_wp2_with fail
        have Hw1 : Hid (Wrote b vr vr wr (wr.alloc (.cells #[.int .i32 0, .iface 30 (.pointer (some ⟨(g k).1, 0, none⟩))] 46))) := Lib.hid ((Wrote.refl b vr wr).alloc _)
        have Hp1 : Hid (Pr B b false vr (out ++ [40] ++ joined [32, 111, 114, 32] f k) (wr.alloc (.cells #[.int .i32 0, .iface 30 (.pointer (some ⟨(g k).1, 0, none⟩))] 46))) := Lib.hid (Hpr.out.wrote ((Chg.refl Nowhere wr).alloc _))
        have hbx : (wr.alloc (.cells #[.int .i32 0, .iface 30 (.pointer (some ⟨(g k).1, 0, none⟩))] 46)).heap[wr.heap.size]? = some (.cells #[.int .i32 0, .iface 30 (.pointer (some ⟨(g k).1, 0, none⟩))] 46) := heap_alloc_at wr _ _ rfl
        have Hbx := Lib.hid hbx
        clear hbx
        refine (mq_tok B b (g k).1 (g k).2 false (out ++ [40] ++ joined [32, 111, 114, 32] f k) (f k) (wr.alloc (.cells #[.int .i32 0, .iface 30 (.pointer (some ⟨(g k).1, 0, none⟩))] 46)) vr Hp1.out (Htk.out.kept (Hwr.out.trans Hw1.out) Hp.out) (by first | omega | (simp; omega)) (by omega)).mono ?_
        rintro e2 w2 ⟨rfl, vo2, hp, hw⟩
        have Hp2 : Hid (Pr B b false vo2 (out ++ [40] ++ joined [32, 111, 114, 32] f k ++ (f k).data.toList) w2) := Lib.hid hp
        have Hw2 : Hid (Wrote b vr vo2 wr w2) := Lib.hid (Hw1.out.trans hw)
        clear hp hw
        go_wp2_with fail
        go_roundw
        case rel =>
          have hz2 := Hp2.out
          have hj : out ++ [40] ++ joined [32, 111, 114, 32] f (k + 1) = out ++ [40] ++ joined [32, 111, 114, 32] f k ++ (f k).data.toList := by simp [joined, Hz.out]
          exact ⟨k + 1, by omega, by go_num, vo2, hj ▸ hz2, Hwr.out.trans Hw2.out⟩
        case measure => simp [intOf]; omega
      · have hx2 : (0 : Int) < (k : Int) := by omega
        go_wp2_with fail
        have Hw1 : Hid (Wrote b vr vr wr (wr.alloc (.cells #[.int .i32 0, .iface 30 (.pointer (some ⟨(g k).1, 0, none⟩))] 46))) := Lib.hid ((Wrote.refl b vr wr).alloc _)
        have Hp1 : Hid (Pr B b false vr (out ++ [40] ++ joined [32, 111, 114, 32] f k) (wr.alloc (.cells #[.int .i32 0, .iface 30 (.pointer (some ⟨(g k).1, 0, none⟩))] 46))) := Lib.hid (Hpr.out.wrote ((Chg.refl Nowhere wr).alloc _))
        have hbx : (wr.alloc (.cells #[.int .i32 0, .iface 30 (.pointer (some ⟨(g k).1, 0, none⟩))] 46)).heap[wr.heap.size]? = some (.cells #[.int .i32 0, .iface 30 (.pointer (some ⟨(g k).1, 0, none⟩))] 46) := heap_alloc_at wr _ _ rfl
        have Hbx := Lib.hid hbx
        clear hbx
        refine (print_w B b false vr (out ++ [40] ++ joined [32, 111, 114, 32] f k) ⟨#[32]⟩ (wr.alloc (.cells #[.int .i32 0, .iface 30 (.pointer (some ⟨(g k).1, 0, none⟩))] 46)) Hp1.out (by first | omega | (simp; omega)) (by decide)).mono ?_
        rintro e2 w2 ⟨rfl, vo2, hp, hw⟩
        have Hp2 : Hid (Pr B b false vo2 (out ++ [40] ++ joined [32, 111, 114, 32] f k ++ [32]) w2) := Lib.hid hp
        have Hw2 : Hid (Wrote b vr vo2 wr w2) := Lib.hid (Hw1.out.trans hw)
        have Hv2 : Hid (Wrote b vr vo2 (wr.alloc (.cells #[.int .i32 0, .iface 30 (.pointer (some ⟨(g k).1, 0, none⟩))] 46)) w2) := Lib.hid (hw)
        clear hp hw
        have hn2 := (Hwr.out.trans Hw2.out).heap Hp.out hn1 hn2 Hn.out
        have a2 := cell_of_heap hn2 0
        have b2 := heap_lt hn2
        have hb2 : w2.heap[wr.heap.size]? = some (.cells #[.int .i32 0, .iface 30 (.pointer (some ⟨(g k).1, 0, none⟩))] 46) := Hv2.out.chg.heap Hbx.out (by rintro (h1 | h1); omega; exact absurd (Hpr.out.addr _ h1).2 (by omega))
        have x2 := cell_of_heap hb2 0
        have y2 := cell_of_heap hb2 1
        have z2 := heap_lt hb2
        simp at a2 x2 y2
        clear hn2 hb2
        go_wp2_with fail
        refine (print_w B b false vo2 (out ++ [40] ++ joined [32, 111, 114, 32] f k ++ [32]) ⟨#[111, 114, 32]⟩ w2 Hp2.out (by first | omega | (simp; omega)) (by decide)).mono ?_
        rintro e3 w3 ⟨rfl, vo3, hp, hw⟩
        have Hp3 : Hid (Pr B b false vo3 (out ++ [40] ++ joined [32, 111, 114, 32] f k ++ [32] ++ [111, 114, 32]) w3) := Lib.hid hp
        have Hw3 : Hid (Wrote b vr vo3 wr w3) := Lib.hid (Hw2.out.trans hw)
        have Hv3 : Hid (Wrote b vr vo3 (wr.alloc (.cells #[.int .i32 0, .iface 30 (.pointer (some ⟨(g k).1, 0, none⟩))] 46)) w3) := Lib.hid (Hv2.out.trans hw)
        clear hp hw
        have hn3 := (Hwr.out.trans Hw3.out).heap Hp.out hn1 hn2 Hn.out
        have a3 := cell_of_heap hn3 0
        have b3 := heap_lt hn3
        have hb3 : w3.heap[wr.heap.size]? = some (.cells #[.int .i32 0, .iface 30 (.pointer (some ⟨(g k).1, 0, none⟩))] 46) := Hv3.out.chg.heap Hbx.out (by rintro (h1 | h1); omega; exact absurd (Hpr.out.addr _ h1).2 (by omega))
        have x3 := cell_of_heap hb3 0
        have y3 := cell_of_heap hb3 1
        have z3 := heap_lt hb3
        simp at a3 x3 y3
        clear hn3 hb3
        go_wp2_with fail
        refine (mq_tok B b (g k).1 (g k).2 false (out ++ [40] ++ joined [32, 111, 114, 32] f k ++ [32] ++ [111, 114, 32]) (f k) w3 vo3 Hp3.out (Htk.out.kept (Hwr.out.trans Hw3.out) Hp.out) (by first | omega | (simp; omega)) (by omega)).mono ?_
        rintro e4 w4 ⟨rfl, vo4, hp, hw⟩
        have Hp4 : Hid (Pr B b false vo4 (out ++ [40] ++ joined [32, 111, 114, 32] f k ++ [32] ++ [111, 114, 32] ++ (f k).data.toList) w4) := Lib.hid hp
        have Hw4 : Hid (Wrote b vr vo4 wr w4) := Lib.hid (Hw3.out.trans hw)
        clear hp hw
        go_wp2_with fail
        go_roundw
        case rel =>
          have hz2 := Hp4.out
          have hj : out ++ [40] ++ joined [32, 111, 114, 32] f (k + 1) = out ++ [40] ++ joined [32, 111, 114, 32] f k ++ [32] ++ [111, 114, 32] ++ (f k).data.toList := by simp [joined, show ¬ k = 0 by omega]
          exact ⟨k + 1, by omega, by go_num, vo4, hj ▸ hz2, Hwr.out.trans Hw4.out⟩
        case measure => simp [intOf]; omega
    · obtain rfl : k = n := by omega
      have Hpr := Lib.hid hpr
      have Hwr := Lib.hid hwr
      clear hnr hpr hwr
      go_wp2_with fail
      refine (print_w B b false vr (out ++ [40] ++ joined [32, 111, 114, 32] f k) ⟨#[41]⟩ wr Hpr.out (by first | omega | (simp; omega)) (by decide)).mono ?_
      rintro e9 w9 ⟨rfl, v9, hp, hw⟩
      have Hp9 : Hid (Pr B b false v9 (out ++ [40] ++ joined [32, 111, 114, 32] f k ++ [41]) w9) := Lib.hid hp
      have Hw9 : Hid (Wrote b vo v9 w w9) := Lib.hid (Hwr.out.trans hw)
      clear hp hw
      go_wp2_with fail
      go_end0
      exact ⟨rfl, v9, by simpa only [List.append_assoc, List.cons_append, List.nil_append] using Hp9.out, Hw9.out⟩
set_option maxRecDepth 100000 in
set_option maxHeartbeats 4000000 in
theorem mq_bin110 (B b g8 gt n cap : Nat) (g : Nat → Nat × Nat) (f : Nat → ByteArray) (out : List UInt8) (w : World) (vo : Option Addr) (h : Pr B b true vo out w) (hq : TermsAt B b gt n g f w)
    (hn : w.heap[g8]? = some (.cells #[.int .u8 1, .slice (some ⟨gt, 0, none⟩) n cap] 80 (0, 0))) (hn1 : g8 < B) (hn2 : g8 ≠ b) (ho : out.length ≤ 100000000) (hb : n + sumTo f n ≤ 1048576) :
    Calls Tryz.prog 11 #[.pointer (some ⟨b, 0, none⟩), binQ g8, .int .u8 0] w (Wrt B b true vo (out ++ joined [111, 114, 32] f n) w) := by
  have n0 := cell_of_heap hn 0
  have n1 := cell_of_heap hn 1
  simp at n0 n1
  have hB := h.le
  have hg := heap_lt hn
  have hbs := h.lt_size
  have Hp := Lib.hid h
  have Hq := Lib.hid hq
  have Hn := Lib.hid hn
  clear h hq hn
  have as1 := as78_30
  have as2 := as78_87
  have as3 := as78_72
  have as4 := as78_78
  have hbit : bits .and .u8 0 1 = 0 := by decide
  unfold binQ
  go_enter Tryz.func11, Tryz.ntmps11
  go_wp2_with fail
  have Hw0 : Hid (Wrote b vo vo w (w.alloc (.cells #[.int .i32 0, .iface 78 (.pointer (some ⟨g8, 0, none⟩))] 46))) := Lib.hid ((Wrote.refl b vo w).alloc _)
  have Hp0 : Hid (Pr B b true vo out (w.alloc (.cells #[.int .i32 0, .iface 78 (.pointer (some ⟨g8, 0, none⟩))] 46))) := Lib.hid (Hp.out.wrote ((Chg.refl Nowhere w).alloc _))
  go_loopw [169] (fun i wr => ∃ k : Nat, k ≤ n ∧ i = .int .i64 k ∧ At B b true vo (out ++ joined [111, 114, 32] f k) w wr) (fun i _ => n - (intOf i).toNat)
  case atStart => exact ⟨0, by omega, rfl, ⟨vo, by simpa only [joined, List.append_nil] using Hp0.out, Hw0.out⟩⟩
  case round =>
    obtain ⟨k, hk, rfl, vr, hpr, hwr⟩ := hrel
    have hm := sumTo_mono f hk
    have hl := joined_length [111, 114, 32] f k
    have hnr := hwr.heap Hp.out hn1 hn2 Hn.out
    have r0 := cell_of_heap hnr 0
    have r1 := cell_of_heap hnr 1
    have r2 := heap_lt hnr
    have r6 : wr.cell? ⟨b, 6, none⟩ = some (.bool true) := (hpr.cell 6 (by decide)).trans (by simp [pc])
    have r7 := hpr.lt_size
    have r8 := hpr.le
    simp at r0 r1 hl
    by_cases hlt : k < n
    · have hm2 := sumTo_mono f (show k + 1 ≤ n by omega)
      have hms : sumTo f (k + 1) = sumTo f k + (f k).size := rfl
      have tk := Hq.out.tok k hlt
      have tc : ∀ j v, w.cell? ⟨gt, j, none⟩ = some v → wr.cell? ⟨gt, j, none⟩ = some v := fun j v hv => hwr.chg.cell hv (by
        rintro (h1 | h1)
        · exact Hq.out.ne h1
        · exact absurd (Hp.out.addr gt h1).1 (by have := Hq.out.lt; omega))
      have c0 := tc _ _ (Hq.out.c0 k hlt)
      have c1 := tc _ _ (Hq.out.c1 k hlt)
      have Hpr := Lib.hid hpr
      have Hwr := Lib.hid hwr
      have Htk := Lib.hid tk
      clear tc hnr hpr hwr tk
      have hx1 : (k : Int) < (n : Int) := by omega
      have hx0 : (0 : Int) ≤ (k : Int) := by omega
      rcases Nat.eq_zero_or_pos k with hz | hz
      · have hx2 : ¬ (0 : Int) < (k : Int) := by omega
        have Hz := Lib.hid hz
        clear hz
        go_wp2_with fail
        have Hw1 : Hid (Wrote b vr vr wr (wr.alloc (.cells #[.int .i32 0, .iface 30 (.pointer (some ⟨(g k).1, 0, none⟩))] 46))) := Lib.hid ((Wrote.refl b vr wr).alloc _)
        have Hp1 : Hid (Pr B b true vr (out ++ joined [111, 114, 32] f k) (wr.alloc (.cells #[.int .i32 0, .iface 30 (.pointer (some ⟨(g k).1, 0, none⟩))] 46))) := Lib.hid (Hpr.out.wrote ((Chg.refl Nowhere wr).alloc _))
        have hbx : (wr.alloc (.cells #[.int .i32 0, .iface 30 (.pointer (some ⟨(g k).1, 0, none⟩))] 46)).heap[wr.heap.size]? = some (.cells #[.int .i32 0, .iface 30 (.pointer (some ⟨(g k).1, 0, none⟩))] 46) := heap_alloc_at wr _ _ rfl
        have Hbx := Lib.hid hbx
        clear hbx
        refine (mq_tok B b (g k).1 (g k).2 true (out ++ joined [111, 114, 32] f k) (f k) (wr.alloc (.cells #[.int .i32 0, .iface 30 (.pointer (some ⟨(g k).1, 0, none⟩))] 46)) vr Hp1.out (Htk.out.kept (Hwr.out.trans Hw1.out) Hp.out) (by first | omega | (simp; omega)) (by omega)).mono ?_
        rintro e2 w2 ⟨rfl, vo2, hp, hw⟩
        have Hp2 : Hid (Pr B b true vo2 (out ++ joined [111, 114, 32] f k ++ (f k).data.toList) w2) := Lib.hid hp
        have Hw2 : Hid (Wrote b vr vo2 wr w2) := Lib.hid (Hw1.out.trans hw)
        clear hp hw
        go_wp2_with fail
        go_roundw
        case rel =>
          have hz2 := Hp2.out
          have hj : out ++ joined [111, 114, 32] f (k + 1) = out ++ joined [111, 114, 32] f k ++ (f k).data.toList := by simp [joined, Hz.out]
          exact ⟨k + 1, by omega, by go_num, vo2, hj ▸ hz2, Hwr.out.trans Hw2.out⟩
        case measure => simp [intOf]; omega
      · have hx2 : (0 : Int) < (k : Int) := by omega
        go_wp2_with fail
        have Hw1 : Hid (Wrote b vr vr wr (wr.alloc (.cells #[.int .i32 0, .iface 30 (.pointer (some ⟨(g k).1, 0, none⟩))] 46))) := Lib.hid ((Wrote.refl b vr wr).alloc _)
        have Hp1 : Hid (Pr B b true vr (out ++ joined [111, 114, 32] f k) (wr.alloc (.cells #[.int .i32 0, .iface 30 (.pointer (some ⟨(g k).1, 0, none⟩))] 46))) := Lib.hid (Hpr.out.wrote ((Chg.refl Nowhere wr).alloc _))
        have hbx : (wr.alloc (.cells #[.int .i32 0, .iface 30 (.pointer (some ⟨(g k).1, 0, none⟩))] 46)).heap[wr.heap.size]? = some (.cells #[.int .i32 0, .iface 30 (.pointer (some ⟨(g k).1, 0, none⟩))] 46) := heap_alloc_at wr _ _ rfl
        have Hbx := Lib.hid hbx
        clear hbx
        refine (print_w B b true vr (out ++ joined [111, 114, 32] f k) ⟨#[111, 114, 32]⟩ (wr.alloc (.cells #[.int .i32 0, .iface 30 (.pointer (some ⟨(g k).1, 0, none⟩))] 46)) Hp1.out (by first | omega | (simp; omega)) (by decide)).mono ?_
        rintro e2 w2 ⟨rfl, vo2, hp, hw⟩
        have Hp2 : Hid (Pr B b true vo2 (out ++ joined [111, 114, 32] f k ++ [111, 114, 32]) w2) := Lib.hid hp
        have Hw2 : Hid (Wrote b vr vo2 wr w2) := Lib.hid (Hw1.out.trans hw)
        have Hv2 : Hid (Wrote b vr vo2 (wr.alloc (.cells #[.int .i32 0, .iface 30 (.pointer (some ⟨(g k).1, 0, none⟩))] 46)) w2) := Lib.hid (hw)
        clear hp hw
        have hn2 := (Hwr.out.trans Hw2.out).heap Hp.out hn1 hn2 Hn.out
        have a2 := cell_of_heap hn2 0
        have b2 := heap_lt hn2
        have hb2 : w2.heap[wr.heap.size]? = some (.cells #[.int .i32 0, .iface 30 (.pointer (some ⟨(g k).1, 0, none⟩))] 46) := Hv2.out.chg.heap Hbx.out (by rintro (h1 | h1); omega; exact absurd (Hpr.out.addr _ h1).2 (by omega))
        have x2 := cell_of_heap hb2 0
        have y2 := cell_of_heap hb2 1
        have z2 := heap_lt hb2
        simp at a2 x2 y2
        clear hn2 hb2
        go_wp2_with fail
        refine (mq_tok B b (g k).1 (g k).2 true (out ++ joined [111, 114, 32] f k ++ [111, 114, 32]) (f k) w2 vo2 Hp2.out (Htk.out.kept (Hwr.out.trans Hw2.out) Hp.out) (by first | omega | (simp; omega)) (by omega)).mono ?_
        rintro e3 w3 ⟨rfl, vo3, hp, hw⟩
        have Hp3 : Hid (Pr B b true vo3 (out ++ joined [111, 114, 32] f k ++ [111, 114, 32] ++ (f k).data.toList) w3) := Lib.hid hp
        have Hw3 : Hid (Wrote b vr vo3 wr w3) := Lib.hid (Hw2.out.trans hw)
        clear hp hw
        go_wp2_with fail
        go_roundw
        case rel =>
          have hz2 := Hp3.out
          have hj : out ++ joined [111, 114, 32] f (k + 1) = out ++ joined [111, 114, 32] f k ++ [111, 114, 32] ++ (f k).data.toList := by simp [joined, show ¬ k = 0 by omega]
          exact ⟨k + 1, by omega, by go_num, vo3, hj ▸ hz2, Hwr.out.trans Hw3.out⟩
        case measure => simp [intOf]; omega
    · obtain rfl : k = n := by omega
      have Hpr := Lib.hid hpr
      have Hwr := Lib.hid hwr
      clear hnr hpr hwr
      go_wp2_with fail
      go_end0
      exact ⟨rfl, vr, Hpr.out, Hwr.out⟩
set_option maxRecDepth 100000 in
set_option maxHeartbeats 4000000 in
theorem mq_bin111 (B b g8 gt n cap : Nat) (g : Nat → Nat × Nat) (f : Nat → ByteArray) (out : List UInt8) (w : World) (vo : Option Addr) (h : Pr B b true vo out w) (hq : TermsAt B b gt n g f w)
    (hn : w.heap[g8]? = some (.cells #[.int .u8 1, .slice (some ⟨gt, 0, none⟩) n cap] 80 (0, 0))) (hn1 : g8 < B) (hn2 : g8 ≠ b) (ho : out.length ≤ 100000000) (hb : n + sumTo f n ≤ 1048576) :
    Calls Tryz.prog 11 #[.pointer (some ⟨b, 0, none⟩), binQ g8, .int .u8 1] w (Wrt B b true vo (out ++ ([40] ++ joined [111, 114, 32] f n ++ [41])) w) := by
  have n0 := cell_of_heap hn 0
  have n1 := cell_of_heap hn 1
  simp at n0 n1
  have hB := h.le
  have hg := heap_lt hn
  have hbs := h.lt_size
  have Hp := Lib.hid h
  have Hq := Lib.hid hq
  have Hn := Lib.hid hn
  clear h hq hn
  have as1 := as78_30
  have as2 := as78_87
  have as3 := as78_72
  have as4 := as78_78
  have hbit : bits .and .u8 1 1 = 1 := by decide
  unfold binQ
  go_enter Tryz.func11, Tryz.ntmps11
  go_wp2_with fail
  have Hw0 : Hid (Wrote b vo vo w (w.alloc (.cells #[.int .i32 0, .iface 78 (.pointer (some ⟨g8, 0, none⟩))] 46))) := Lib.hid ((Wrote.refl b vo w).alloc _)
  have Hp0 : Hid (Pr B b true vo out (w.alloc (.cells #[.int .i32 0, .iface 78 (.pointer (some ⟨g8, 0, none⟩))] 46))) := Lib.hid (Hp.out.wrote ((Chg.refl Nowhere w).alloc _))
  refine (print_w B b true vo out ⟨#[40]⟩ (w.alloc (.cells #[.int .i32 0, .iface 78 (.pointer (some ⟨g8, 0, none⟩))] 46)) Hp0.out (by omega) (by decide)).mono ?_
  rintro e1 wl ⟨rfl, vl, hp, hw⟩
  have Hpl : Hid (Pr B b true vl (out ++ [40]) wl) := Lib.hid hp
  have Hwl : Hid (Wrote b vo vl w wl) := Lib.hid (Hw0.out.trans hw)
  clear hp hw
  have hnl := Hwl.out.heap Hp.out hn1 hn2 Hn.out
  have m0 := cell_of_heap hnl 0
  have m1 := cell_of_heap hnl 1
  have m2 := heap_lt hnl
  simp at m0 m1
  clear hnl
  go_wp2_with fail
  go_loopw [169] (fun i wr => ∃ k : Nat, k ≤ n ∧ i = .int .i64 k ∧ At B b true vo (out ++ [40] ++ joined [111, 114, 32] f k) w wr) (fun i _ => n - (intOf i).toNat)
  case atStart => exact ⟨0, by omega, rfl, ⟨vl, by simpa only [joined, List.append_nil] using Hpl.out, Hwl.out⟩⟩
  case round =>
    obtain ⟨k, hk, rfl, vr, hpr, hwr⟩ := hrel
    have hm := sumTo_mono f hk
    have hl := joined_length [111, 114, 32] f k
    have hnr := hwr.heap Hp.out hn1 hn2 Hn.out
    have r0 := cell_of_heap hnr 0
    have r1 := cell_of_heap hnr 1
    have r2 := heap_lt hnr
    have r6 : wr.cell? ⟨b, 6, none⟩ = some (.bool true) := (hpr.cell 6 (by decide)).trans (by simp [pc])
    have r7 := hpr.lt_size
    have r8 := hpr.le
    simp at r0 r1 hl
    by_cases hlt : k < n
    · have hm2 := sumTo_mono f (show k + 1 ≤ n by omega)
      have hms : sumTo f (k + 1) = sumTo f k + (f k).size := rfl
      have tk := Hq.out.tok k hlt
      have tc : ∀ j v, w.cell? ⟨gt, j, none⟩ = some v → wr.cell? ⟨gt, j, none⟩ = some v := fun j v hv => hwr.chg.cell hv (by
        rintro (h1 | h1)
        · exact Hq.out.ne h1
        · exact absurd (Hp.out.addr gt h1).1 (by have := Hq.out.lt; omega))
      have c0 := tc _ _ (Hq.out.c0 k hlt)
      have c1 := tc _ _ (Hq.out.c1 k hlt)
      have Hpr := Lib.hid hpr
      have Hwr := Lib.hid hwr
      have Htk := Lib.hid tk
      clear tc hnr hpr hwr tk
      have hx1 : (k : Int) < (n : Int) := by omega
      have hx0 : (0 : Int) ≤ (k : Int) := by omega
      rcases Nat.eq_zero_or_pos k with hz | hz
      · have hx2 : ¬ (0 : Int) < (k : Int) := by omega
        have Hz := Lib.hid hz
        clear hz
        go_wp2_with fail
        have Hw1 : Hid (Wrote b vr vr wr (wr.alloc (.cells #[.int .i32 0, .iface 30 (.pointer (some ⟨(g k).1, 0, none⟩))] 46))) := Lib.hid ((Wrote.refl b vr wr).alloc _)
        have Hp1 : Hid (Pr B b true vr (out ++ [40] ++ joined [111, 114, 32] f k) (wr.alloc (.cells #[.int .i32 0, .iface 30 (.pointer (some ⟨(g k).1, 0, none⟩))] 46))) := Lib.hid (Hpr.out.wrote ((Chg.refl Nowhere wr).alloc _))
        have hbx : (wr.alloc (.cells #[.int .i32 0, .iface 30 (.pointer (some ⟨(g k).1, 0, none⟩))] 46)).heap[wr.heap.size]? = some (.cells #[.int .i32 0, .iface 30 (.pointer (some ⟨(g k).1, 0, none⟩))] 46) := heap_alloc_at wr _ _ rfl
        have Hbx := Lib.hid hbx
        clear hbx
        refine (mq_tok B b (g k).1 (g k).2 true (out ++ [40] ++ joined [111, 114, 32] f k) (f k) (wr.alloc (.cells #[.int .i32 0, .iface 30 (.pointer (some ⟨(g k).1, 0, none⟩))] 46)) vr Hp1.out (Htk.out.kept (Hwr.out.trans Hw1.out) Hp.out) (by first | omega | (simp; omega)) (by omega)).mono ?_
        rintro e2 w2 ⟨rfl, vo2, hp, hw⟩
        have Hp2 : Hid (Pr B b true vo2 (out ++ [40] ++ joined [111, 114, 32] f k ++ (f k).data.toList) w2) := Lib.hid hp
        have Hw2 : Hid (Wrote b vr vo2 wr w2) := Lib.hid (Hw1.out.trans hw)
        clear hp hw
        go_wp2_with fail
        go_roundw
        case rel =>
          have hz2 := Hp2.out
          have hj : out ++ [40] ++ joined [111, 114, 32] f (k + 1) = out ++ [40] ++ joined [111, 114, 32] f k ++ (f k).data.toList := by simp [joined, Hz.out]
          exact ⟨k + 1, by omega, by go_num, vo2, hj ▸ hz2, Hwr.out.trans Hw2.out⟩
        case measure => simp [intOf]; omega
      · have hx2 : (0 : Int) < (k : Int) := by omega
        go_wp2_with fail
        have Hw1 : Hid (Wrote b vr vr wr (wr.alloc (.cells #[.int .i32 0, .iface 30 (.pointer (some ⟨(g k).1, 0, none⟩))] 46))) := Lib.hid ((Wrote.refl b vr wr).alloc _)
        have Hp1 : Hid (Pr B b true vr (out ++ [40] ++ joined [111, 114, 32] f k) (wr.alloc (.cells #[.int .i32 0, .iface 30 (.pointer (some ⟨(g k).1, 0, none⟩))] 46))) := Lib.hid (Hpr.out.wrote ((Chg.refl Nowhere wr).alloc _))
        have hbx : (wr.alloc (.cells #[.int .i32 0, .iface 30 (.pointer (some ⟨(g k).1, 0, none⟩))] 46)).heap[wr.heap.size]? = some (.cells #[.int .i32 0, .iface 30 (.pointer (some ⟨(g k).1, 0, none⟩))] 46) := heap_alloc_at wr _ _ rfl
        have Hbx := Lib.hid hbx
        clear hbx
        refine (print_w B b true vr (out ++ [40] ++ joined [111, 114, 32] f k) ⟨#[111, 114, 32]⟩ (wr.alloc (.cells #[.int .i32 0, .iface 30 (.pointer (some ⟨(g k).1, 0, none⟩))] 46)) Hp1.out (by first | omega | (simp; omega)) (by decide)).mono ?_
        rintro e2 w2 ⟨rfl, vo2, hp, hw⟩
        have Hp2 : Hid (Pr B b true vo2 (out ++ [40] ++ joined [111, 114, 32] f k ++ [111, 114, 32]) w2) := Lib.hid hp
        have Hw2 : Hid (Wrote b vr vo2 wr w2) := Lib.hid (Hw1.out.trans hw)
        have Hv2 : Hid (Wrote b vr vo2 (wr.alloc (.cells #[.int .i32 0, .iface 30 (.pointer (some ⟨(g k).1, 0, none⟩))] 46)) w2) := Lib.hid (hw)
        clear hp hw
        have hn2 := (Hwr.out.trans Hw2.out).heap Hp.out hn1 hn2 Hn.out
        have a2 := cell_of_heap hn2 0
        have b2 := heap_lt hn2
        have hb2 : w2.heap[wr.heap.size]? = some (.cells #[.int .i32 0, .iface 30 (.pointer (some ⟨(g k).1, 0, none⟩))] 46) := Hv2.out.chg.heap Hbx.out (by rintro (h1 | h1); omega; exact absurd (Hpr.out.addr _ h1).2 (by omega))
        have x2 := cell_of_heap hb2 0
        have y2 := cell_of_heap hb2 1
        have z2 := heap_lt hb2
        simp at a2 x2 y2
        clear hn2 hb2
        go_wp2_with fail
        refine (mq_tok B b (g k).1 (g k).2 true (out ++ [40] ++ joined [111, 114, 32] f k ++ [111, 114, 32]) (f k) w2 vo2 Hp2.out (Htk.out.kept (Hwr.out.trans Hw2.out) Hp.out) (by first | omega | (simp; omega)) (by omega)).mono ?_
        rintro e3 w3 ⟨rfl, vo3, hp, hw⟩
        have Hp3 : Hid (Pr B b true vo3 (out ++ [40] ++ joined [111, 114, 32] f k ++ [111, 114, 32] ++ (f k).data.toList) w3) := Lib.hid hp
        have Hw3 : Hid (Wrote b vr vo3 wr w3) := Lib.hid (Hw2.out.trans hw)
        clear hp hw
        go_wp2_with fail
        go_roundw
        case rel =>
          have hz2 := Hp3.out
          have hj : out ++ [40] ++ joined [111, 114, 32] f (k + 1) = out ++ [40] ++ joined [111, 114, 32] f k ++ [111, 114, 32] ++ (f k).data.toList := by simp [joined, show ¬ k = 0 by omega]
          exact ⟨k + 1, by omega, by go_num, vo3, hj ▸ hz2, Hwr.out.trans Hw3.out⟩
        case measure => simp [intOf]; omega
    · obtain rfl : k = n := by omega
      have Hpr := Lib.hid hpr
      have Hwr := Lib.hid hwr
      clear hnr hpr hwr
      go_wp2_with fail
      refine (print_w B b true vr (out ++ [40] ++ joined [111, 114, 32] f k) ⟨#[41]⟩ wr Hpr.out (by first | omega | (simp; omega)) (by decide)).mono ?_
      rintro e9 w9 ⟨rfl, v9, hp, hw⟩
      have Hp9 : Hid (Pr B b true v9 (out ++ [40] ++ joined [111, 114, 32] f k ++ [41]) w9) := Lib.hid hp
      have Hw9 : Hid (Wrote b vo v9 w w9) := Lib.hid (Hwr.out.trans hw)
      clear hp hw
      go_wp2_with fail
      go_end0
      exact ⟨rfl, v9, by simpa only [List.append_assoc, List.cons_append, List.nil_append] using Hp9.out, Hw9.out⟩
def sepT (o m : Bool) : List UInt8 := (if m then [] else [32]) ++ (if o then [111, 114, 32] else [97, 110, 100, 32])
def binText (o m fl : Bool) (f : Nat → ByteArray) (n : Nat) : List UInt8 := if fl then [40] ++ joined (sepT o m) f n ++ [41] else joined (sepT o m) f n
def numB (x : Bool) : Int := if x then 1 else 0
theorem mq_bin (o m fl : Bool) (B b g8 gt n cap : Nat) (g : Nat → Nat × Nat) (f : Nat → ByteArray) (out : List UInt8) (w : World) (vo : Option Addr) (h : Pr B b m vo out w) (hq : TermsAt B b gt n g f w)
    (hn : w.heap[g8]? = some (.cells #[.int .u8 (numB o), .slice (some ⟨gt, 0, none⟩) n cap] 80 (0, 0))) (hn1 : g8 < B) (hn2 : g8 ≠ b) (ho : out.length ≤ 100000000) (hb : n + sumTo f n ≤ 1048576) :
    Calls Tryz.prog 11 #[.pointer (some ⟨b, 0, none⟩), binQ g8, .int .u8 (numB fl)] w (Wrt B b m vo (out ++ binText o m fl f n) w) := by
  cases o <;> cases m <;> cases fl
  · exact mq_bin000 B b g8 gt n cap g f out w vo h hq hn hn1 hn2 ho hb
  · exact mq_bin001 B b g8 gt n cap g f out w vo h hq hn hn1 hn2 ho hb
  · exact mq_bin010 B b g8 gt n cap g f out w vo h hq hn hn1 hn2 ho hb
  · exact mq_bin011 B b g8 gt n cap g f out w vo h hq hn hn1 hn2 ho hb
  · exact mq_bin100 B b g8 gt n cap g f out w vo h hq hn hn1 hn2 ho hb
  · exact mq_bin101 B b g8 gt n cap g f out w vo h hq hn hn1 hn2 ho hb
  · exact mq_bin110 B b g8 gt n cap g f out w vo h hq hn hn1 hn2 ho hb
  · exact mq_bin111 B b g8 gt n cap g f out w vo h hq hn hn1 hn2 ho hb
end Go.Proofs.YtogkpfdnfjlflaaGreatFmt
