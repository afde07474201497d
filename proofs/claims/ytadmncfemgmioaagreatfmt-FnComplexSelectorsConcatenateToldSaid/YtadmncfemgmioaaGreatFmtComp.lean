/-
  Proved: contracts of the css printer's printCompoundSelector at a compound selector that holds one nesting selector and a combinator byte. No statement of the seat stands here.
-/
import Derived.Test.YtadmncfemgmioaaGreatFmtPen
import Derived.Deep.RegionLaw
import Derived.RegionTactic
namespace Go.Proofs.YtadmncfemgmioaaGreatFmt
open Go.RowKit Go.ChangeAt
set_option linter.unusedSimpArgs false
set_option linter.unusedVariables false
set_option maxRecDepth 100000
/-- The cells of a compound selector: a row of one location in block g, the combinator byte c. -/
def compCells (g c : Nat) : Array Value := #[.pointer none, .slice none 0 0, .slice (some ⟨g, 0, none⟩) 1 1, .int .i32 0, .int .u8 c, .bool false]
/-- What is printed of it. -/
def piece (m first : Bool) (c : Nat) : List UInt8 :=
  if c = 0 then (if first then [] else [32]) ++ [38] else (if first || m then [] else [32]) ++ [UInt8.ofNat c] ++ (if m then [] else [32]) ++ [38]
theorem Wrote.drew {b : Nat} {vo vo' : Option Addr} {w w' : World} (h : Wrote b vo vo' w w') : Wrote b vo vo' w w'.drew := ⟨h.chg.drew, h.place⟩
theorem Pr.drew {B b : Nat} {m a : Bool} {vo : Option Addr} {out : List UInt8} {w : World} (h : Pr B b m a vo out w) : Pr B b m a vo out w.drew := h.wrote ((Chg.refl _ w).drew)
theorem byte1 (wl : World) (c : Int) (q : Nat) (hq : q = wl.heap.size) : ∀ a, (some ⟨q, 0, none⟩ : Option Addr) = some a → ∀ j u, ([Value.int .u8 c])[j]? = some u → (wl.alloc (.cells #[.int .u8 c] 5)).cell? (a.add j) = some u :=
  fun a ha j u hu => cells_new wl #[.int .u8 c] 5 a (hq ▸ ha) j u hu
theorem byte_mk {B b c : Nat} {m a : Bool} {out : List UInt8} {w w1 : World} {vo vo' : Option Addr} {vc vc' L : Nat} (hL : L = out.length) (hc8 : c < 256) (h : Pr B b m a vo out w) (hblk : w.heap[b]? = some (.cells (pc m a (.slice vo L vc)) 74 (0, 0)))
    (hc : Chg (InRow vo) (w.alloc (.cells #[.int .u8 (c : Int)] 5)) w1) (hown1 : w1.ownsRow B 5 1 (.slice vo' (L + 1) vc') (L + 1) (Lib.byteCells out ++ [.int .u8 (c : Int)])) (hf : vo' = vo ∨ vo' = some ⟨w.heap.size + 1, 0, none⟩) :
    Pr B b m a vo' (out ++ [UInt8.ofNat c]) (w1.setCell ⟨b, 15, none⟩ (.slice vo' (L + 1) vc')) ∧ Wrote b vo vo' w (w1.setCell ⟨b, 15, none⟩ (.slice vo' (L + 1) vc')) := by
  subst hL
  have hbw := heap_lt hblk
  have hb1 := hc.heap (heap_alloc_keep hblk _) h.ne
  have hl : (out ++ [UInt8.ofNat c]).length = out.length + 1 := by simp
  have hx : Lib.byteCells (out ++ [UInt8.ofNat c]) = Lib.byteCells out ++ [.int .u8 (c : Int)] := by
    have : (UInt8.ofNat c).toNat = c := by rw [UInt8.toNat_ofNat']; omega
    simp [Lib.byteCells, this]
  have hne' : ¬ InRow vo' b := by
    rcases hf with rfl | rfl
    · exact h.ne
    · rintro ⟨x, hx, rfl⟩
      injection hx with hx
      subst hx
      simp at hbw
      omega
  have hc' : Chg (InRow vo) w w1 := ((Chg.refl (InRow vo) w).alloc _).trans hc (fun _ _ h => h)
  refine ⟨⟨?_, hne', vc', ?_, ?_⟩, (hc'.mono (fun _ _ h => .inr h)).setCell (fun _ => .inl rfl) _, hf.imp id fun h => ⟨_, h, by omega⟩⟩
  · exact Nat.le_trans h.le (Nat.le_trans hc'.size (by simp [World.setCell]))
  · rw [heap_setCell hb1, hl]
    rfl
  · rw [hl, hx]
    refine ((Chg.refl (fun k => k = b) w1).setCell (p := ⟨b, 15, none⟩) (fun _ => rfl) _).owns hown1 fun k hk hs => ?_
    rcases ownsRow_addr hown1 with ⟨h3, _⟩ | ⟨g, h3, h4, h5⟩
    · subst h3; simp [Value.ownBlock] at hk
    · subst h3
      simp [Value.ownBlock] at hk
      exact hne' ⟨_, rfl, by simp; omega⟩
set_option maxHeartbeats 4000000 in
theorem comp_000 (B b g c : Nat) (hc8 : c < 256) (hc0 : c ≠ 0) (ind : Int) (out : List UInt8) (w : World) (vo : Option Addr) (h : Pr B b false false vo out w) (ho : out.length ≤ 130000000000)
    (hg : w.heap[g]? = some (.cells #[.int .i32 0] 35 (0, 0))) (hne : g ≠ b) (hgr : ¬ InRow vo g) :
    Calls Tryz.prog 18 #[.pointer (some ⟨b, 0, none⟩), .agg (compCells g c), .bool false, .int .i32 ind] w (Wrt B b false false vo (out ++ piece false false c) w) := by
  have t0 := cell_of_heap hg 0
  have p3 := h.cell 3 (by decide)
  have p6 := h.cell 6 (by decide)
  have p9 := h.cell 9 (by decide)
  simp [pc] at t0 p3 p6 p9
  have hgs := heap_lt hg
  have hbs := h.lt_size
  have hBw := h.le
  have Hg := Lib.hid hg
  have Hp := Lib.hid h
  clear h hg
  have e0 : ((c : Int) == 0) = false := beq_eq_false_iff_ne.2 (by omega)
  have e1 : ((c : Int) != 0) = true := by simp; omega
  have Hc0 := Lib.hid hc0
  clear hc0
  obtain ⟨i0, hi, hz0, hz1, hz2⟩ := info_parts info5
  unfold compCells
  go_enter Tryz.func18, Tryz.ntmps18
  go_wp2_with fail
  have Hw1 : Hid (Wrote b vo vo w (w.alloc (.cells #[.pointer none, .slice none 0 0, .slice (some ⟨g, 0, none⟩) 1 1, .int .i32 0, .int .u8 (c : Int), .bool false] 42))) := Lib.hid ((Wrote.refl b vo w).alloc _)
  have Hv1 : Hid (Wrote b vo vo (w.alloc (.cells #[.pointer none, .slice none 0 0, .slice (some ⟨g, 0, none⟩) 1 1, .int .i32 0, .int .u8 (c : Int), .bool false] 42)) (w.alloc (.cells #[.pointer none, .slice none 0 0, .slice (some ⟨g, 0, none⟩) 1 1, .int .i32 0, .int .u8 (c : Int), .bool false] 42))) := Lib.hid (Wrote.refl b vo _)
  have Hp1 : Hid (Pr B b false false vo out (w.alloc (.cells #[.pointer none, .slice none 0 0, .slice (some ⟨g, 0, none⟩) 1 1, .int .i32 0, .int .u8 (c : Int), .bool false] 42))) := Lib.hid (Hp.out.wrote ((Chg.refl Nowhere w).alloc _))
  have Hbx : Hid ((w.alloc (.cells #[.pointer none, .slice none 0 0, .slice (some ⟨g, 0, none⟩) 1 1, .int .i32 0, .int .u8 (c : Int), .bool false] 42)).heap[w.heap.size]? = some (.cells #[.pointer none, .slice none 0 0, .slice (some ⟨g, 0, none⟩) 1 1, .int .i32 0, .int .u8 (c : Int), .bool false] 42)) := Lib.hid (heap_alloc_at w _ _ rfl)
  refine (print_w B b false false vo (out) ⟨#[32]⟩ (w.alloc (.cells #[.pointer none, .slice none 0 0, .slice (some ⟨g, 0, none⟩) 1 1, .int .i32 0, .int .u8 (c : Int), .bool false] 42)) Hp1.out (by first | omega | (simp; omega)) (by decide)).mono ?_
  rintro e2 w2 ⟨rfl, vo2, hp, hw⟩
  have Hp2 : Hid (Pr B b false false vo2 (out ++ [32]) w2) := Lib.hid hp
  have Hw2 : Hid (Wrote b vo vo2 w w2) := Lib.hid (Hw1.out.trans hw)
  have Hv2 : Hid (Wrote b vo vo2 (w.alloc (.cells #[.pointer none, .slice none 0 0, .slice (some ⟨g, 0, none⟩) 1 1, .int .i32 0, .int .u8 (c : Int), .bool false] 42)) w2) := Lib.hid (Hv1.out.trans hw)
  clear hp hw
  have p3_2 := Hp2.out.cell 3 (by decide)
  have p6_2 := Hp2.out.cell 6 (by decide)
  have p9_2 := Hp2.out.cell 9 (by decide)
  simp [pc] at p3_2 p6_2 p9_2
  have s2 := Hp2.out.lt_size
  have hb2 : w2.heap[w.heap.size]? = some (.cells #[.pointer none, .slice none 0 0, .slice (some ⟨g, 0, none⟩) 1 1, .int .i32 0, .int .u8 (c : Int), .bool false] 42) := Hv2.out.heap (by omega) (fun hh => by have := (Hp.out.addr _ hh).2; omega) Hbx.out
  have x0_2 := cell_of_heap hb2 0
  have x1_2 := cell_of_heap hb2 1
  have x2_2 := cell_of_heap hb2 2
  have x4_2 := cell_of_heap hb2 4
  have z2 := heap_lt hb2
  have hg2 := Hw2.out.heap hne hgr Hg.out
  have t0_2 := cell_of_heap hg2 0
  have t1_2 := heap_lt hg2
  simp at x0_2 x1_2 x2_2 x4_2 t0_2
  clear hb2 hg2
  go_wp2_with fail
  obtain ⟨vc, hblk, hown⟩ := Hp2.out.row
  obtain ⟨L, hL⟩ : ∃ L, L = (out ++ [32]).length := ⟨_, rfl⟩
  rw [← hL] at hblk hown
  have hnl : L ≤ 130000000001 := by rw [hL]; first | omega | (simp; omega)
  have HL := Lib.hid hL
  clear hL
  have hc15 := cell_of_heap hblk 15
  simp only [pc, List.getElem?_toArray, List.getElem?_cons_succ, List.getElem?_cons_zero] at hc15
  have hle := Hp2.out.le
  have Hblk := Lib.hid hblk; have Hown := Lib.hid hown
  have hszb := heap_lt hblk
  have Hpd : Hid (Pr B b false false vo2 (out ++ [32]) w2.drew) := Lib.hid Hp2.out.drew
  clear hblk hown
  go_region_law (go_loud (refine step_append_fresh _ rfl (.tmp 81) (.tmp 85) 27 rfl B 5 i0 _ 1 1 Tryz.underlying27 hi hz0 hz1 hz2 rfl (by decide) vo2 L vc _ (by simp [Act.eval, Act.put]) (((Chg.refl Nowhere w2).drew.alloc _).owns Hown.out fun _ _ h => h) (some ⟨w2.heap.size, 0, none⟩) 1 1 [.int .u8 (c : Int)] (by simp [Act.eval, Act.put]) rfl (by simp) (byte1 _ _ _ (by simp [World.drew])) (by intro u hu; simp at hu; subst hu; rfl) (by unfold maxLen; omega) (by omega) (by simp [World.drew]; omega) ?_; intro vb vcb wb hown1 hg1 hf1; have hb1 := hg1.heap (heap_alloc_keep Hblk.out _) Hp2.out.ne; have cb := cell_of_heap hb1 15; have fb := frozen_of_heap hb1 15; simp only [pc, List.getElem?_toArray, List.getElem?_cons_succ, List.getElem?_cons_zero] at cb; have Hb1 := Lib.hid hb1; have Hown1 := Lib.hid hown1; have Hg1 := Lib.hid hg1; have Hf1 := Lib.hid hf1; clear hb1 hown1 hg1 hf1))
  all_goals (
  obtain ⟨hp, hw⟩ := byte_mk HL.out hc8 Hp2.out Hblk.out (((Chg.refl _ _).drew).trans Hg1.out (fun _ _ h => h)) Hown1.out (by simpa [World.drew] using Hf1.out)
  generalize hww : World.setCell wb _ _ = w3 at hp hw ⊢
  have Hp3 : Hid (Pr B b false false vb (out ++ [32] ++ [UInt8.ofNat c]) w3) := Lib.hid hp
  have Hw3 : Hid (Wrote b vo vb w w3) := Lib.hid (Hw2.out.trans hw)
  have Hv3 : Hid (Wrote b vo vb (w.alloc (.cells #[.pointer none, .slice none 0 0, .slice (some ⟨g, 0, none⟩) 1 1, .int .i32 0, .int .u8 (c : Int), .bool false] 42)) w3) := Lib.hid (Hv2.out.trans hw)
  clear hp hw hww Hb1 Hown1 Hg1 Hf1 cb fb hc15
  have p3_3 := Hp3.out.cell 3 (by decide)
  have p6_3 := Hp3.out.cell 6 (by decide)
  have p9_3 := Hp3.out.cell 9 (by decide)
  simp [pc] at p3_3 p6_3 p9_3
  have s3 := Hp3.out.lt_size
  have hb3 : w3.heap[w.heap.size]? = some (.cells #[.pointer none, .slice none 0 0, .slice (some ⟨g, 0, none⟩) 1 1, .int .i32 0, .int .u8 (c : Int), .bool false] 42) := Hv3.out.heap (by omega) (fun hh => by have := (Hp.out.addr _ hh).2; omega) Hbx.out
  have x0_3 := cell_of_heap hb3 0
  have x1_3 := cell_of_heap hb3 1
  have x2_3 := cell_of_heap hb3 2
  have x4_3 := cell_of_heap hb3 4
  have z3 := heap_lt hb3
  have hg3 := Hw3.out.heap hne hgr Hg.out
  have t0_3 := cell_of_heap hg3 0
  have t1_3 := heap_lt hg3
  simp at x0_3 x1_3 x2_3 x4_3 t0_3
  clear hb3 hg3
  go_wp2_with fail
  refine (print_w B b false false vb (out ++ [32] ++ [UInt8.ofNat c]) ⟨#[32]⟩ w3 Hp3.out (by first | omega | (simp; omega)) (by decide)).mono ?_
  rintro e4 w4 ⟨rfl, vo4, hp, hw⟩
  have Hp4 : Hid (Pr B b false false vo4 (out ++ [32] ++ [UInt8.ofNat c] ++ [32]) w4) := Lib.hid hp
  have Hw4 : Hid (Wrote b vo vo4 w w4) := Lib.hid (Hw3.out.trans hw)
  have Hv4 : Hid (Wrote b vo vo4 (w.alloc (.cells #[.pointer none, .slice none 0 0, .slice (some ⟨g, 0, none⟩) 1 1, .int .i32 0, .int .u8 (c : Int), .bool false] 42)) w4) := Lib.hid (Hv3.out.trans hw)
  clear hp hw
  have p3_4 := Hp4.out.cell 3 (by decide)
  have p6_4 := Hp4.out.cell 6 (by decide)
  have p9_4 := Hp4.out.cell 9 (by decide)
  simp [pc] at p3_4 p6_4 p9_4
  have s4 := Hp4.out.lt_size
  have hb4 : w4.heap[w.heap.size]? = some (.cells #[.pointer none, .slice none 0 0, .slice (some ⟨g, 0, none⟩) 1 1, .int .i32 0, .int .u8 (c : Int), .bool false] 42) := Hv4.out.heap (by omega) (fun hh => by have := (Hp.out.addr _ hh).2; omega) Hbx.out
  have x0_4 := cell_of_heap hb4 0
  have x1_4 := cell_of_heap hb4 1
  have x2_4 := cell_of_heap hb4 2
  have x4_4 := cell_of_heap hb4 4
  have z4 := heap_lt hb4
  have hg4 := Hw4.out.heap hne hgr Hg.out
  have t0_4 := cell_of_heap hg4 0
  have t1_4 := heap_lt hg4
  simp at x0_4 x1_4 x2_4 x4_4 t0_4
  clear hb4 hg4
  go_wp2_with fail
  refine wp_loop_rounds 2 ?_
  rw [rounds_succ]
  go_wp2_with fail
  have Hwl : Hid (Wrote b vo vo4 w (w4.alloc (.cells #[.int .i32 0] 35))) := Lib.hid (Hw4.out.alloc _)
  have Hvl : Hid (Wrote b vo vo4 (w.alloc (.cells #[.pointer none, .slice none 0 0, .slice (some ⟨g, 0, none⟩) 1 1, .int .i32 0, .int .u8 (c : Int), .bool false] 42)) (w4.alloc (.cells #[.int .i32 0] 35))) := Lib.hid (Hv4.out.alloc _)
  have Hpl : Hid (Pr B b false false vo4 (out ++ [32] ++ [UInt8.ofNat c] ++ [32]) (w4.alloc (.cells #[.int .i32 0] 35))) := Lib.hid (Hp4.out.wrote ((Chg.refl Nowhere w4).alloc _))
  refine (print_w B b false false vo4 (out ++ [32] ++ [UInt8.ofNat c] ++ [32]) ⟨#[38]⟩ _ Hpl.out (by first | omega | (simp; omega)) (by decide)).mono ?_
  rintro e5 w5 ⟨rfl, vo5, hp, hw⟩
  have Hp5 : Hid (Pr B b false false vo5 (out ++ [32] ++ [UInt8.ofNat c] ++ [32] ++ [38]) w5) := Lib.hid hp
  have Hw5 : Hid (Wrote b vo vo5 w w5) := Lib.hid (Hwl.out.trans hw)
  have Hv5 : Hid (Wrote b vo vo5 (w.alloc (.cells #[.pointer none, .slice none 0 0, .slice (some ⟨g, 0, none⟩) 1 1, .int .i32 0, .int .u8 (c : Int), .bool false] 42)) w5) := Lib.hid (Hvl.out.trans hw)
  clear hp hw
  have p3_5 := Hp5.out.cell 3 (by decide)
  have p6_5 := Hp5.out.cell 6 (by decide)
  have p9_5 := Hp5.out.cell 9 (by decide)
  simp [pc] at p3_5 p6_5 p9_5
  have s5 := Hp5.out.lt_size
  have hb5 : w5.heap[w.heap.size]? = some (.cells #[.pointer none, .slice none 0 0, .slice (some ⟨g, 0, none⟩) 1 1, .int .i32 0, .int .u8 (c : Int), .bool false] 42) := Hv5.out.heap (by omega) (fun hh => by have := (Hp.out.addr _ hh).2; omega) Hbx.out
  have x0_5 := cell_of_heap hb5 0
  have x1_5 := cell_of_heap hb5 1
  have x2_5 := cell_of_heap hb5 2
  have x4_5 := cell_of_heap hb5 4
  have z5 := heap_lt hb5
  have hg5 := Hw5.out.heap hne hgr Hg.out
  have t0_5 := cell_of_heap hg5 0
  have t1_5 := heap_lt hg5
  simp at x0_5 x1_5 x2_5 x4_5 t0_5
  clear hb5 hg5
  go_wp2_with fail
  rw [rounds_succ]
  go_wp2_with fail
  refine wp_loop_rounds 1 ?_
  rw [rounds_succ]
  go_wp2_with fail
  go_end0
  refine ⟨rfl, vo5, ?_, Hw5.out⟩
  have hz9 := Hp5.out
  try simp only [List.append_assoc] at hz9
  simpa [piece, Hc0.out] using hz9)
set_option maxHeartbeats 4000000 in
theorem comp_001 (B b g : Nat) (ind : Int) (out : List UInt8) (w : World) (vo : Option Addr) (h : Pr B b false false vo out w) (ho : out.length ≤ 130000000000)
    (hg : w.heap[g]? = some (.cells #[.int .i32 0] 35 (0, 0))) (hne : g ≠ b) (hgr : ¬ InRow vo g) :
    Calls Tryz.prog 18 #[.pointer (some ⟨b, 0, none⟩), .agg (compCells g 0), .bool false, .int .i32 ind] w (Wrt B b false false vo (out ++ piece false false 0) w) := by
  have t0 := cell_of_heap hg 0
  have p3 := h.cell 3 (by decide)
  have p6 := h.cell 6 (by decide)
  have p9 := h.cell 9 (by decide)
  simp [pc] at t0 p3 p6 p9
  have hgs := heap_lt hg
  have hbs := h.lt_size
  have hBw := h.le
  have Hg := Lib.hid hg
  have Hp := Lib.hid h
  clear h hg
  unfold compCells
  go_enter Tryz.func18, Tryz.ntmps18
  go_wp2_with fail
  have Hw1 : Hid (Wrote b vo vo w (w.alloc (.cells #[.pointer none, .slice none 0 0, .slice (some ⟨g, 0, none⟩) 1 1, .int .i32 0, .int .u8 0, .bool false] 42))) := Lib.hid ((Wrote.refl b vo w).alloc _)
  have Hv1 : Hid (Wrote b vo vo (w.alloc (.cells #[.pointer none, .slice none 0 0, .slice (some ⟨g, 0, none⟩) 1 1, .int .i32 0, .int .u8 0, .bool false] 42)) (w.alloc (.cells #[.pointer none, .slice none 0 0, .slice (some ⟨g, 0, none⟩) 1 1, .int .i32 0, .int .u8 0, .bool false] 42))) := Lib.hid (Wrote.refl b vo _)
  have Hp1 : Hid (Pr B b false false vo out (w.alloc (.cells #[.pointer none, .slice none 0 0, .slice (some ⟨g, 0, none⟩) 1 1, .int .i32 0, .int .u8 0, .bool false] 42))) := Lib.hid (Hp.out.wrote ((Chg.refl Nowhere w).alloc _))
  have Hbx : Hid ((w.alloc (.cells #[.pointer none, .slice none 0 0, .slice (some ⟨g, 0, none⟩) 1 1, .int .i32 0, .int .u8 0, .bool false] 42)).heap[w.heap.size]? = some (.cells #[.pointer none, .slice none 0 0, .slice (some ⟨g, 0, none⟩) 1 1, .int .i32 0, .int .u8 0, .bool false] 42)) := Lib.hid (heap_alloc_at w _ _ rfl)
  refine (print_w B b false false vo (out) ⟨#[32]⟩ (w.alloc (.cells #[.pointer none, .slice none 0 0, .slice (some ⟨g, 0, none⟩) 1 1, .int .i32 0, .int .u8 0, .bool false] 42)) Hp1.out (by first | omega | (simp; omega)) (by decide)).mono ?_
  rintro e2 w2 ⟨rfl, vo2, hp, hw⟩
  have Hp2 : Hid (Pr B b false false vo2 (out ++ [32]) w2) := Lib.hid hp
  have Hw2 : Hid (Wrote b vo vo2 w w2) := Lib.hid (Hw1.out.trans hw)
  have Hv2 : Hid (Wrote b vo vo2 (w.alloc (.cells #[.pointer none, .slice none 0 0, .slice (some ⟨g, 0, none⟩) 1 1, .int .i32 0, .int .u8 0, .bool false] 42)) w2) := Lib.hid (Hv1.out.trans hw)
  clear hp hw
  have p3_2 := Hp2.out.cell 3 (by decide)
  have p6_2 := Hp2.out.cell 6 (by decide)
  have p9_2 := Hp2.out.cell 9 (by decide)
  simp [pc] at p3_2 p6_2 p9_2
  have s2 := Hp2.out.lt_size
  have hb2 : w2.heap[w.heap.size]? = some (.cells #[.pointer none, .slice none 0 0, .slice (some ⟨g, 0, none⟩) 1 1, .int .i32 0, .int .u8 0, .bool false] 42) := Hv2.out.heap (by omega) (fun hh => by have := (Hp.out.addr _ hh).2; omega) Hbx.out
  have x0_2 := cell_of_heap hb2 0
  have x1_2 := cell_of_heap hb2 1
  have x2_2 := cell_of_heap hb2 2
  have x4_2 := cell_of_heap hb2 4
  have z2 := heap_lt hb2
  have hg2 := Hw2.out.heap hne hgr Hg.out
  have t0_2 := cell_of_heap hg2 0
  have t1_2 := heap_lt hg2
  simp at x0_2 x1_2 x2_2 x4_2 t0_2
  clear hb2 hg2
  go_wp2_with fail
  refine wp_loop_rounds 2 ?_
  rw [rounds_succ]
  go_wp2_with fail
  have Hwl : Hid (Wrote b vo vo2 w (w2.alloc (.cells #[.int .i32 0] 35))) := Lib.hid (Hw2.out.alloc _)
  have Hvl : Hid (Wrote b vo vo2 (w.alloc (.cells #[.pointer none, .slice none 0 0, .slice (some ⟨g, 0, none⟩) 1 1, .int .i32 0, .int .u8 0, .bool false] 42)) (w2.alloc (.cells #[.int .i32 0] 35))) := Lib.hid (Hv2.out.alloc _)
  have Hpl : Hid (Pr B b false false vo2 (out ++ [32]) (w2.alloc (.cells #[.int .i32 0] 35))) := Lib.hid (Hp2.out.wrote ((Chg.refl Nowhere w2).alloc _))
  refine (print_w B b false false vo2 (out ++ [32]) ⟨#[38]⟩ _ Hpl.out (by first | omega | (simp; omega)) (by decide)).mono ?_
  rintro e3 w3 ⟨rfl, vo3, hp, hw⟩
  have Hp3 : Hid (Pr B b false false vo3 (out ++ [32] ++ [38]) w3) := Lib.hid hp
  have Hw3 : Hid (Wrote b vo vo3 w w3) := Lib.hid (Hwl.out.trans hw)
  have Hv3 : Hid (Wrote b vo vo3 (w.alloc (.cells #[.pointer none, .slice none 0 0, .slice (some ⟨g, 0, none⟩) 1 1, .int .i32 0, .int .u8 0, .bool false] 42)) w3) := Lib.hid (Hvl.out.trans hw)
  clear hp hw
  have p3_3 := Hp3.out.cell 3 (by decide)
  have p6_3 := Hp3.out.cell 6 (by decide)
  have p9_3 := Hp3.out.cell 9 (by decide)
  simp [pc] at p3_3 p6_3 p9_3
  have s3 := Hp3.out.lt_size
  have hb3 : w3.heap[w.heap.size]? = some (.cells #[.pointer none, .slice none 0 0, .slice (some ⟨g, 0, none⟩) 1 1, .int .i32 0, .int .u8 0, .bool false] 42) := Hv3.out.heap (by omega) (fun hh => by have := (Hp.out.addr _ hh).2; omega) Hbx.out
  have x0_3 := cell_of_heap hb3 0
  have x1_3 := cell_of_heap hb3 1
  have x2_3 := cell_of_heap hb3 2
  have x4_3 := cell_of_heap hb3 4
  have z3 := heap_lt hb3
  have hg3 := Hw3.out.heap hne hgr Hg.out
  have t0_3 := cell_of_heap hg3 0
  have t1_3 := heap_lt hg3
  simp at x0_3 x1_3 x2_3 x4_3 t0_3
  clear hb3 hg3
  go_wp2_with fail
  rw [rounds_succ]
  go_wp2_with fail
  refine wp_loop_rounds 1 ?_
  rw [rounds_succ]
  go_wp2_with fail
  go_end0
  refine ⟨rfl, vo3, ?_, Hw3.out⟩
  have hz9 := Hp3.out
  try simp only [List.append_assoc] at hz9
  simpa [piece] using hz9
set_option maxHeartbeats 4000000 in
theorem comp_010 (B b g c : Nat) (hc8 : c < 256) (hc0 : c ≠ 0) (ind : Int) (out : List UInt8) (w : World) (vo : Option Addr) (h : Pr B b true false vo out w) (ho : out.length ≤ 130000000000)
    (hg : w.heap[g]? = some (.cells #[.int .i32 0] 35 (0, 0))) (hne : g ≠ b) (hgr : ¬ InRow vo g) :
    Calls Tryz.prog 18 #[.pointer (some ⟨b, 0, none⟩), .agg (compCells g c), .bool false, .int .i32 ind] w (Wrt B b true false vo (out ++ piece true false c) w) := by
  have t0 := cell_of_heap hg 0
  have p3 := h.cell 3 (by decide)
  have p6 := h.cell 6 (by decide)
  have p9 := h.cell 9 (by decide)
  simp [pc] at t0 p3 p6 p9
  have hgs := heap_lt hg
  have hbs := h.lt_size
  have hBw := h.le
  have Hg := Lib.hid hg
  have Hp := Lib.hid h
  clear h hg
  have e0 : ((c : Int) == 0) = false := beq_eq_false_iff_ne.2 (by omega)
  have e1 : ((c : Int) != 0) = true := by simp; omega
  have Hc0 := Lib.hid hc0
  clear hc0
  obtain ⟨i0, hi, hz0, hz1, hz2⟩ := info_parts info5
  unfold compCells
  go_enter Tryz.func18, Tryz.ntmps18
  go_wp2_with fail
  have Hw1 : Hid (Wrote b vo vo w (w.alloc (.cells #[.pointer none, .slice none 0 0, .slice (some ⟨g, 0, none⟩) 1 1, .int .i32 0, .int .u8 (c : Int), .bool false] 42))) := Lib.hid ((Wrote.refl b vo w).alloc _)
  have Hv1 : Hid (Wrote b vo vo (w.alloc (.cells #[.pointer none, .slice none 0 0, .slice (some ⟨g, 0, none⟩) 1 1, .int .i32 0, .int .u8 (c : Int), .bool false] 42)) (w.alloc (.cells #[.pointer none, .slice none 0 0, .slice (some ⟨g, 0, none⟩) 1 1, .int .i32 0, .int .u8 (c : Int), .bool false] 42))) := Lib.hid (Wrote.refl b vo _)
  have Hp1 : Hid (Pr B b true false vo out (w.alloc (.cells #[.pointer none, .slice none 0 0, .slice (some ⟨g, 0, none⟩) 1 1, .int .i32 0, .int .u8 (c : Int), .bool false] 42))) := Lib.hid (Hp.out.wrote ((Chg.refl Nowhere w).alloc _))
  have Hbx : Hid ((w.alloc (.cells #[.pointer none, .slice none 0 0, .slice (some ⟨g, 0, none⟩) 1 1, .int .i32 0, .int .u8 (c : Int), .bool false] 42)).heap[w.heap.size]? = some (.cells #[.pointer none, .slice none 0 0, .slice (some ⟨g, 0, none⟩) 1 1, .int .i32 0, .int .u8 (c : Int), .bool false] 42)) := Lib.hid (heap_alloc_at w _ _ rfl)
  obtain ⟨vc, hblk, hown⟩ := Hp1.out.row
  obtain ⟨L, hL⟩ : ∃ L, L = (out).length := ⟨_, rfl⟩
  rw [← hL] at hblk hown
  have hnl : L ≤ 130000000001 := by rw [hL]; first | omega | (simp; omega)
  have HL := Lib.hid hL
  clear hL
  have hc15 := cell_of_heap hblk 15
  simp only [pc, List.getElem?_toArray, List.getElem?_cons_succ, List.getElem?_cons_zero] at hc15
  have hle := Hp1.out.le
  have Hblk := Lib.hid hblk; have Hown := Lib.hid hown
  have hszb := heap_lt hblk
  have Hpd : Hid (Pr B b true false vo (out) (w.alloc (.cells #[.pointer none, .slice none 0 0, .slice (some ⟨g, 0, none⟩) 1 1, .int .i32 0, .int .u8 (c : Int), .bool false] 42)).drew) := Lib.hid Hp1.out.drew
  clear hblk hown
  go_region_law (go_loud (refine step_append_fresh _ rfl (.tmp 81) (.tmp 85) 27 rfl B 5 i0 _ 1 1 Tryz.underlying27 hi hz0 hz1 hz2 rfl (by decide) vo L vc _ (by simp [Act.eval, Act.put]) (((Chg.refl Nowhere (w.alloc (.cells #[.pointer none, .slice none 0 0, .slice (some ⟨g, 0, none⟩) 1 1, .int .i32 0, .int .u8 (c : Int), .bool false] 42))).drew.alloc _).owns Hown.out fun _ _ h => h) (some ⟨(w.alloc (.cells #[.pointer none, .slice none 0 0, .slice (some ⟨g, 0, none⟩) 1 1, .int .i32 0, .int .u8 (c : Int), .bool false] 42)).heap.size, 0, none⟩) 1 1 [.int .u8 (c : Int)] (by simp [Act.eval, Act.put]) rfl (by simp) (byte1 _ _ _ (by simp [World.drew])) (by intro u hu; simp at hu; subst hu; rfl) (by unfold maxLen; omega) (by omega) (by simp [World.drew]; omega) ?_; intro vb vcb wb hown1 hg1 hf1; have hb1 := hg1.heap (heap_alloc_keep Hblk.out _) Hp1.out.ne; have cb := cell_of_heap hb1 15; have fb := frozen_of_heap hb1 15; simp only [pc, List.getElem?_toArray, List.getElem?_cons_succ, List.getElem?_cons_zero] at cb; have Hb1 := Lib.hid hb1; have Hown1 := Lib.hid hown1; have Hg1 := Lib.hid hg1; have Hf1 := Lib.hid hf1; clear hb1 hown1 hg1 hf1))
  all_goals (
  obtain ⟨hp, hw⟩ := byte_mk HL.out hc8 Hp1.out Hblk.out (((Chg.refl _ _).drew).trans Hg1.out (fun _ _ h => h)) Hown1.out (by simpa [World.drew] using Hf1.out)
  generalize hww : World.setCell wb _ _ = w2 at hp hw ⊢
  have Hp2 : Hid (Pr B b true false vb (out ++ [UInt8.ofNat c]) w2) := Lib.hid hp
  have Hw2 : Hid (Wrote b vo vb w w2) := Lib.hid (Hw1.out.trans hw)
  have Hv2 : Hid (Wrote b vo vb (w.alloc (.cells #[.pointer none, .slice none 0 0, .slice (some ⟨g, 0, none⟩) 1 1, .int .i32 0, .int .u8 (c : Int), .bool false] 42)) w2) := Lib.hid (Hv1.out.trans hw)
  clear hp hw hww Hb1 Hown1 Hg1 Hf1 cb fb hc15
  have p3_2 := Hp2.out.cell 3 (by decide)
  have p6_2 := Hp2.out.cell 6 (by decide)
  have p9_2 := Hp2.out.cell 9 (by decide)
  simp [pc] at p3_2 p6_2 p9_2
  have s2 := Hp2.out.lt_size
  have hb2 : w2.heap[w.heap.size]? = some (.cells #[.pointer none, .slice none 0 0, .slice (some ⟨g, 0, none⟩) 1 1, .int .i32 0, .int .u8 (c : Int), .bool false] 42) := Hv2.out.heap (by omega) (fun hh => by have := (Hp.out.addr _ hh).2; omega) Hbx.out
  have x0_2 := cell_of_heap hb2 0
  have x1_2 := cell_of_heap hb2 1
  have x2_2 := cell_of_heap hb2 2
  have x4_2 := cell_of_heap hb2 4
  have z2 := heap_lt hb2
  have hg2 := Hw2.out.heap hne hgr Hg.out
  have t0_2 := cell_of_heap hg2 0
  have t1_2 := heap_lt hg2
  simp at x0_2 x1_2 x2_2 x4_2 t0_2
  clear hb2 hg2
  go_wp2_with fail
  refine wp_loop_rounds 2 ?_
  rw [rounds_succ]
  go_wp2_with fail
  have Hwl : Hid (Wrote b vo vb w (w2.alloc (.cells #[.int .i32 0] 35))) := Lib.hid (Hw2.out.alloc _)
  have Hvl : Hid (Wrote b vo vb (w.alloc (.cells #[.pointer none, .slice none 0 0, .slice (some ⟨g, 0, none⟩) 1 1, .int .i32 0, .int .u8 (c : Int), .bool false] 42)) (w2.alloc (.cells #[.int .i32 0] 35))) := Lib.hid (Hv2.out.alloc _)
  have Hpl : Hid (Pr B b true false vb (out ++ [UInt8.ofNat c]) (w2.alloc (.cells #[.int .i32 0] 35))) := Lib.hid (Hp2.out.wrote ((Chg.refl Nowhere w2).alloc _))
  refine (print_w B b true false vb (out ++ [UInt8.ofNat c]) ⟨#[38]⟩ _ Hpl.out (by first | omega | (simp; omega)) (by decide)).mono ?_
  rintro e3 w3 ⟨rfl, vo3, hp, hw⟩
  have Hp3 : Hid (Pr B b true false vo3 (out ++ [UInt8.ofNat c] ++ [38]) w3) := Lib.hid hp
  have Hw3 : Hid (Wrote b vo vo3 w w3) := Lib.hid (Hwl.out.trans hw)
  have Hv3 : Hid (Wrote b vo vo3 (w.alloc (.cells #[.pointer none, .slice none 0 0, .slice (some ⟨g, 0, none⟩) 1 1, .int .i32 0, .int .u8 (c : Int), .bool false] 42)) w3) := Lib.hid (Hvl.out.trans hw)
  clear hp hw
  have p3_3 := Hp3.out.cell 3 (by decide)
  have p6_3 := Hp3.out.cell 6 (by decide)
  have p9_3 := Hp3.out.cell 9 (by decide)
  simp [pc] at p3_3 p6_3 p9_3
  have s3 := Hp3.out.lt_size
  have hb3 : w3.heap[w.heap.size]? = some (.cells #[.pointer none, .slice none 0 0, .slice (some ⟨g, 0, none⟩) 1 1, .int .i32 0, .int .u8 (c : Int), .bool false] 42) := Hv3.out.heap (by omega) (fun hh => by have := (Hp.out.addr _ hh).2; omega) Hbx.out
  have x0_3 := cell_of_heap hb3 0
  have x1_3 := cell_of_heap hb3 1
  have x2_3 := cell_of_heap hb3 2
  have x4_3 := cell_of_heap hb3 4
  have z3 := heap_lt hb3
  have hg3 := Hw3.out.heap hne hgr Hg.out
  have t0_3 := cell_of_heap hg3 0
  have t1_3 := heap_lt hg3
  simp at x0_3 x1_3 x2_3 x4_3 t0_3
  clear hb3 hg3
  go_wp2_with fail
  rw [rounds_succ]
  go_wp2_with fail
  refine wp_loop_rounds 1 ?_
  rw [rounds_succ]
  go_wp2_with fail
  go_end0
  refine ⟨rfl, vo3, ?_, Hw3.out⟩
  have hz9 := Hp3.out
  try simp only [List.append_assoc] at hz9
  simpa [piece, Hc0.out] using hz9)
set_option maxHeartbeats 4000000 in
theorem comp_011 (B b g : Nat) (ind : Int) (out : List UInt8) (w : World) (vo : Option Addr) (h : Pr B b true false vo out w) (ho : out.length ≤ 130000000000)
    (hg : w.heap[g]? = some (.cells #[.int .i32 0] 35 (0, 0))) (hne : g ≠ b) (hgr : ¬ InRow vo g) :
    Calls Tryz.prog 18 #[.pointer (some ⟨b, 0, none⟩), .agg (compCells g 0), .bool false, .int .i32 ind] w (Wrt B b true false vo (out ++ piece true false 0) w) := by
  have t0 := cell_of_heap hg 0
  have p3 := h.cell 3 (by decide)
  have p6 := h.cell 6 (by decide)
  have p9 := h.cell 9 (by decide)
  simp [pc] at t0 p3 p6 p9
  have hgs := heap_lt hg
  have hbs := h.lt_size
  have hBw := h.le
  have Hg := Lib.hid hg
  have Hp := Lib.hid h
  clear h hg
  unfold compCells
  go_enter Tryz.func18, Tryz.ntmps18
  go_wp2_with fail
  have Hw1 : Hid (Wrote b vo vo w (w.alloc (.cells #[.pointer none, .slice none 0 0, .slice (some ⟨g, 0, none⟩) 1 1, .int .i32 0, .int .u8 0, .bool false] 42))) := Lib.hid ((Wrote.refl b vo w).alloc _)
  have Hv1 : Hid (Wrote b vo vo (w.alloc (.cells #[.pointer none, .slice none 0 0, .slice (some ⟨g, 0, none⟩) 1 1, .int .i32 0, .int .u8 0, .bool false] 42)) (w.alloc (.cells #[.pointer none, .slice none 0 0, .slice (some ⟨g, 0, none⟩) 1 1, .int .i32 0, .int .u8 0, .bool false] 42))) := Lib.hid (Wrote.refl b vo _)
  have Hp1 : Hid (Pr B b true false vo out (w.alloc (.cells #[.pointer none, .slice none 0 0, .slice (some ⟨g, 0, none⟩) 1 1, .int .i32 0, .int .u8 0, .bool false] 42))) := Lib.hid (Hp.out.wrote ((Chg.refl Nowhere w).alloc _))
  have Hbx : Hid ((w.alloc (.cells #[.pointer none, .slice none 0 0, .slice (some ⟨g, 0, none⟩) 1 1, .int .i32 0, .int .u8 0, .bool false] 42)).heap[w.heap.size]? = some (.cells #[.pointer none, .slice none 0 0, .slice (some ⟨g, 0, none⟩) 1 1, .int .i32 0, .int .u8 0, .bool false] 42)) := Lib.hid (heap_alloc_at w _ _ rfl)
  refine (print_w B b true false vo (out) ⟨#[32]⟩ (w.alloc (.cells #[.pointer none, .slice none 0 0, .slice (some ⟨g, 0, none⟩) 1 1, .int .i32 0, .int .u8 0, .bool false] 42)) Hp1.out (by first | omega | (simp; omega)) (by decide)).mono ?_
  rintro e2 w2 ⟨rfl, vo2, hp, hw⟩
  have Hp2 : Hid (Pr B b true false vo2 (out ++ [32]) w2) := Lib.hid hp
  have Hw2 : Hid (Wrote b vo vo2 w w2) := Lib.hid (Hw1.out.trans hw)
  have Hv2 : Hid (Wrote b vo vo2 (w.alloc (.cells #[.pointer none, .slice none 0 0, .slice (some ⟨g, 0, none⟩) 1 1, .int .i32 0, .int .u8 0, .bool false] 42)) w2) := Lib.hid (Hv1.out.trans hw)
  clear hp hw
  have p3_2 := Hp2.out.cell 3 (by decide)
  have p6_2 := Hp2.out.cell 6 (by decide)
  have p9_2 := Hp2.out.cell 9 (by decide)
  simp [pc] at p3_2 p6_2 p9_2
  have s2 := Hp2.out.lt_size
  have hb2 : w2.heap[w.heap.size]? = some (.cells #[.pointer none, .slice none 0 0, .slice (some ⟨g, 0, none⟩) 1 1, .int .i32 0, .int .u8 0, .bool false] 42) := Hv2.out.heap (by omega) (fun hh => by have := (Hp.out.addr _ hh).2; omega) Hbx.out
  have x0_2 := cell_of_heap hb2 0
  have x1_2 := cell_of_heap hb2 1
  have x2_2 := cell_of_heap hb2 2
  have x4_2 := cell_of_heap hb2 4
  have z2 := heap_lt hb2
  have hg2 := Hw2.out.heap hne hgr Hg.out
  have t0_2 := cell_of_heap hg2 0
  have t1_2 := heap_lt hg2
  simp at x0_2 x1_2 x2_2 x4_2 t0_2
  clear hb2 hg2
  go_wp2_with fail
  refine wp_loop_rounds 2 ?_
  rw [rounds_succ]
  go_wp2_with fail
  have Hwl : Hid (Wrote b vo vo2 w (w2.alloc (.cells #[.int .i32 0] 35))) := Lib.hid (Hw2.out.alloc _)
  have Hvl : Hid (Wrote b vo vo2 (w.alloc (.cells #[.pointer none, .slice none 0 0, .slice (some ⟨g, 0, none⟩) 1 1, .int .i32 0, .int .u8 0, .bool false] 42)) (w2.alloc (.cells #[.int .i32 0] 35))) := Lib.hid (Hv2.out.alloc _)
  have Hpl : Hid (Pr B b true false vo2 (out ++ [32]) (w2.alloc (.cells #[.int .i32 0] 35))) := Lib.hid (Hp2.out.wrote ((Chg.refl Nowhere w2).alloc _))
  refine (print_w B b true false vo2 (out ++ [32]) ⟨#[38]⟩ _ Hpl.out (by first | omega | (simp; omega)) (by decide)).mono ?_
  rintro e3 w3 ⟨rfl, vo3, hp, hw⟩
  have Hp3 : Hid (Pr B b true false vo3 (out ++ [32] ++ [38]) w3) := Lib.hid hp
  have Hw3 : Hid (Wrote b vo vo3 w w3) := Lib.hid (Hwl.out.trans hw)
  have Hv3 : Hid (Wrote b vo vo3 (w.alloc (.cells #[.pointer none, .slice none 0 0, .slice (some ⟨g, 0, none⟩) 1 1, .int .i32 0, .int .u8 0, .bool false] 42)) w3) := Lib.hid (Hvl.out.trans hw)
  clear hp hw
  have p3_3 := Hp3.out.cell 3 (by decide)
  have p6_3 := Hp3.out.cell 6 (by decide)
  have p9_3 := Hp3.out.cell 9 (by decide)
  simp [pc] at p3_3 p6_3 p9_3
  have s3 := Hp3.out.lt_size
  have hb3 : w3.heap[w.heap.size]? = some (.cells #[.pointer none, .slice none 0 0, .slice (some ⟨g, 0, none⟩) 1 1, .int .i32 0, .int .u8 0, .bool false] 42) := Hv3.out.heap (by omega) (fun hh => by have := (Hp.out.addr _ hh).2; omega) Hbx.out
  have x0_3 := cell_of_heap hb3 0
  have x1_3 := cell_of_heap hb3 1
  have x2_3 := cell_of_heap hb3 2
  have x4_3 := cell_of_heap hb3 4
  have z3 := heap_lt hb3
  have hg3 := Hw3.out.heap hne hgr Hg.out
  have t0_3 := cell_of_heap hg3 0
  have t1_3 := heap_lt hg3
  simp at x0_3 x1_3 x2_3 x4_3 t0_3
  clear hb3 hg3
  go_wp2_with fail
  rw [rounds_succ]
  go_wp2_with fail
  refine wp_loop_rounds 1 ?_
  rw [rounds_succ]
  go_wp2_with fail
  go_end0
  refine ⟨rfl, vo3, ?_, Hw3.out⟩
  have hz9 := Hp3.out
  try simp only [List.append_assoc] at hz9
  simpa [piece] using hz9
set_option maxHeartbeats 4000000 in
theorem comp_100 (B b g c : Nat) (hc8 : c < 256) (hc0 : c ≠ 0) (ind : Int) (out : List UInt8) (w : World) (vo : Option Addr) (h : Pr B b false false vo out w) (ho : out.length ≤ 130000000000)
    (hg : w.heap[g]? = some (.cells #[.int .i32 0] 35 (0, 0))) (hne : g ≠ b) (hgr : ¬ InRow vo g) :
    Calls Tryz.prog 18 #[.pointer (some ⟨b, 0, none⟩), .agg (compCells g c), .bool true, .int .i32 ind] w (Wrt B b false false vo (out ++ piece false true c) w) := by
  have t0 := cell_of_heap hg 0
  have p3 := h.cell 3 (by decide)
  have p6 := h.cell 6 (by decide)
  have p9 := h.cell 9 (by decide)
  simp [pc] at t0 p3 p6 p9
  have hgs := heap_lt hg
  have hbs := h.lt_size
  have hBw := h.le
  have Hg := Lib.hid hg
  have Hp := Lib.hid h
  clear h hg
  have e0 : ((c : Int) == 0) = false := beq_eq_false_iff_ne.2 (by omega)
  have e1 : ((c : Int) != 0) = true := by simp; omega
  have Hc0 := Lib.hid hc0
  clear hc0
  obtain ⟨i0, hi, hz0, hz1, hz2⟩ := info_parts info5
  unfold compCells
  go_enter Tryz.func18, Tryz.ntmps18
  go_wp2_with fail
  have Hw1 : Hid (Wrote b vo vo w (w.alloc (.cells #[.pointer none, .slice none 0 0, .slice (some ⟨g, 0, none⟩) 1 1, .int .i32 0, .int .u8 (c : Int), .bool false] 42))) := Lib.hid ((Wrote.refl b vo w).alloc _)
  have Hv1 : Hid (Wrote b vo vo (w.alloc (.cells #[.pointer none, .slice none 0 0, .slice (some ⟨g, 0, none⟩) 1 1, .int .i32 0, .int .u8 (c : Int), .bool false] 42)) (w.alloc (.cells #[.pointer none, .slice none 0 0, .slice (some ⟨g, 0, none⟩) 1 1, .int .i32 0, .int .u8 (c : Int), .bool false] 42))) := Lib.hid (Wrote.refl b vo _)
  have Hp1 : Hid (Pr B b false false vo out (w.alloc (.cells #[.pointer none, .slice none 0 0, .slice (some ⟨g, 0, none⟩) 1 1, .int .i32 0, .int .u8 (c : Int), .bool false] 42))) := Lib.hid (Hp.out.wrote ((Chg.refl Nowhere w).alloc _))
  have Hbx : Hid ((w.alloc (.cells #[.pointer none, .slice none 0 0, .slice (some ⟨g, 0, none⟩) 1 1, .int .i32 0, .int .u8 (c : Int), .bool false] 42)).heap[w.heap.size]? = some (.cells #[.pointer none, .slice none 0 0, .slice (some ⟨g, 0, none⟩) 1 1, .int .i32 0, .int .u8 (c : Int), .bool false] 42)) := Lib.hid (heap_alloc_at w _ _ rfl)
  obtain ⟨vc, hblk, hown⟩ := Hp1.out.row
  obtain ⟨L, hL⟩ : ∃ L, L = (out).length := ⟨_, rfl⟩
  rw [← hL] at hblk hown
  have hnl : L ≤ 130000000001 := by rw [hL]; first | omega | (simp; omega)
  have HL := Lib.hid hL
  clear hL
  have hc15 := cell_of_heap hblk 15
  simp only [pc, List.getElem?_toArray, List.getElem?_cons_succ, List.getElem?_cons_zero] at hc15
  have hle := Hp1.out.le
  have Hblk := Lib.hid hblk; have Hown := Lib.hid hown
  have hszb := heap_lt hblk
  have Hpd : Hid (Pr B b false false vo (out) (w.alloc (.cells #[.pointer none, .slice none 0 0, .slice (some ⟨g, 0, none⟩) 1 1, .int .i32 0, .int .u8 (c : Int), .bool false] 42)).drew) := Lib.hid Hp1.out.drew
  clear hblk hown
  go_region_law (go_loud (refine step_append_fresh _ rfl (.tmp 81) (.tmp 85) 27 rfl B 5 i0 _ 1 1 Tryz.underlying27 hi hz0 hz1 hz2 rfl (by decide) vo L vc _ (by simp [Act.eval, Act.put]) (((Chg.refl Nowhere (w.alloc (.cells #[.pointer none, .slice none 0 0, .slice (some ⟨g, 0, none⟩) 1 1, .int .i32 0, .int .u8 (c : Int), .bool false] 42))).drew.alloc _).owns Hown.out fun _ _ h => h) (some ⟨(w.alloc (.cells #[.pointer none, .slice none 0 0, .slice (some ⟨g, 0, none⟩) 1 1, .int .i32 0, .int .u8 (c : Int), .bool false] 42)).heap.size, 0, none⟩) 1 1 [.int .u8 (c : Int)] (by simp [Act.eval, Act.put]) rfl (by simp) (byte1 _ _ _ (by simp [World.drew])) (by intro u hu; simp at hu; subst hu; rfl) (by unfold maxLen; omega) (by omega) (by simp [World.drew]; omega) ?_; intro vb vcb wb hown1 hg1 hf1; have hb1 := hg1.heap (heap_alloc_keep Hblk.out _) Hp1.out.ne; have cb := cell_of_heap hb1 15; have fb := frozen_of_heap hb1 15; simp only [pc, List.getElem?_toArray, List.getElem?_cons_succ, List.getElem?_cons_zero] at cb; have Hb1 := Lib.hid hb1; have Hown1 := Lib.hid hown1; have Hg1 := Lib.hid hg1; have Hf1 := Lib.hid hf1; clear hb1 hown1 hg1 hf1))
  all_goals (
  obtain ⟨hp, hw⟩ := byte_mk HL.out hc8 Hp1.out Hblk.out (((Chg.refl _ _).drew).trans Hg1.out (fun _ _ h => h)) Hown1.out (by simpa [World.drew] using Hf1.out)
  generalize hww : World.setCell wb _ _ = w2 at hp hw ⊢
  have Hp2 : Hid (Pr B b false false vb (out ++ [UInt8.ofNat c]) w2) := Lib.hid hp
  have Hw2 : Hid (Wrote b vo vb w w2) := Lib.hid (Hw1.out.trans hw)
  have Hv2 : Hid (Wrote b vo vb (w.alloc (.cells #[.pointer none, .slice none 0 0, .slice (some ⟨g, 0, none⟩) 1 1, .int .i32 0, .int .u8 (c : Int), .bool false] 42)) w2) := Lib.hid (Hv1.out.trans hw)
  clear hp hw hww Hb1 Hown1 Hg1 Hf1 cb fb hc15
  have p3_2 := Hp2.out.cell 3 (by decide)
  have p6_2 := Hp2.out.cell 6 (by decide)
  have p9_2 := Hp2.out.cell 9 (by decide)
  simp [pc] at p3_2 p6_2 p9_2
  have s2 := Hp2.out.lt_size
  have hb2 : w2.heap[w.heap.size]? = some (.cells #[.pointer none, .slice none 0 0, .slice (some ⟨g, 0, none⟩) 1 1, .int .i32 0, .int .u8 (c : Int), .bool false] 42) := Hv2.out.heap (by omega) (fun hh => by have := (Hp.out.addr _ hh).2; omega) Hbx.out
  have x0_2 := cell_of_heap hb2 0
  have x1_2 := cell_of_heap hb2 1
  have x2_2 := cell_of_heap hb2 2
  have x4_2 := cell_of_heap hb2 4
  have z2 := heap_lt hb2
  have hg2 := Hw2.out.heap hne hgr Hg.out
  have t0_2 := cell_of_heap hg2 0
  have t1_2 := heap_lt hg2
  simp at x0_2 x1_2 x2_2 x4_2 t0_2
  clear hb2 hg2
  go_wp2_with fail
  refine (print_w B b false false vb (out ++ [UInt8.ofNat c]) ⟨#[32]⟩ w2 Hp2.out (by first | omega | (simp; omega)) (by decide)).mono ?_
  rintro e3 w3 ⟨rfl, vo3, hp, hw⟩
  have Hp3 : Hid (Pr B b false false vo3 (out ++ [UInt8.ofNat c] ++ [32]) w3) := Lib.hid hp
  have Hw3 : Hid (Wrote b vo vo3 w w3) := Lib.hid (Hw2.out.trans hw)
  have Hv3 : Hid (Wrote b vo vo3 (w.alloc (.cells #[.pointer none, .slice none 0 0, .slice (some ⟨g, 0, none⟩) 1 1, .int .i32 0, .int .u8 (c : Int), .bool false] 42)) w3) := Lib.hid (Hv2.out.trans hw)
  clear hp hw
  have p3_3 := Hp3.out.cell 3 (by decide)
  have p6_3 := Hp3.out.cell 6 (by decide)
  have p9_3 := Hp3.out.cell 9 (by decide)
  simp [pc] at p3_3 p6_3 p9_3
  have s3 := Hp3.out.lt_size
  have hb3 : w3.heap[w.heap.size]? = some (.cells #[.pointer none, .slice none 0 0, .slice (some ⟨g, 0, none⟩) 1 1, .int .i32 0, .int .u8 (c : Int), .bool false] 42) := Hv3.out.heap (by omega) (fun hh => by have := (Hp.out.addr _ hh).2; omega) Hbx.out
  have x0_3 := cell_of_heap hb3 0
  have x1_3 := cell_of_heap hb3 1
  have x2_3 := cell_of_heap hb3 2
  have x4_3 := cell_of_heap hb3 4
  have z3 := heap_lt hb3
  have hg3 := Hw3.out.heap hne hgr Hg.out
  have t0_3 := cell_of_heap hg3 0
  have t1_3 := heap_lt hg3
  simp at x0_3 x1_3 x2_3 x4_3 t0_3
  clear hb3 hg3
  go_wp2_with fail
  refine wp_loop_rounds 2 ?_
  rw [rounds_succ]
  go_wp2_with fail
  have Hwl : Hid (Wrote b vo vo3 w (w3.alloc (.cells #[.int .i32 0] 35))) := Lib.hid (Hw3.out.alloc _)
  have Hvl : Hid (Wrote b vo vo3 (w.alloc (.cells #[.pointer none, .slice none 0 0, .slice (some ⟨g, 0, none⟩) 1 1, .int .i32 0, .int .u8 (c : Int), .bool false] 42)) (w3.alloc (.cells #[.int .i32 0] 35))) := Lib.hid (Hv3.out.alloc _)
  have Hpl : Hid (Pr B b false false vo3 (out ++ [UInt8.ofNat c] ++ [32]) (w3.alloc (.cells #[.int .i32 0] 35))) := Lib.hid (Hp3.out.wrote ((Chg.refl Nowhere w3).alloc _))
  refine (print_w B b false false vo3 (out ++ [UInt8.ofNat c] ++ [32]) ⟨#[38]⟩ _ Hpl.out (by first | omega | (simp; omega)) (by decide)).mono ?_
  rintro e4 w4 ⟨rfl, vo4, hp, hw⟩
  have Hp4 : Hid (Pr B b false false vo4 (out ++ [UInt8.ofNat c] ++ [32] ++ [38]) w4) := Lib.hid hp
  have Hw4 : Hid (Wrote b vo vo4 w w4) := Lib.hid (Hwl.out.trans hw)
  have Hv4 : Hid (Wrote b vo vo4 (w.alloc (.cells #[.pointer none, .slice none 0 0, .slice (some ⟨g, 0, none⟩) 1 1, .int .i32 0, .int .u8 (c : Int), .bool false] 42)) w4) := Lib.hid (Hvl.out.trans hw)
  clear hp hw
  have p3_4 := Hp4.out.cell 3 (by decide)
  have p6_4 := Hp4.out.cell 6 (by decide)
  have p9_4 := Hp4.out.cell 9 (by decide)
  simp [pc] at p3_4 p6_4 p9_4
  have s4 := Hp4.out.lt_size
  have hb4 : w4.heap[w.heap.size]? = some (.cells #[.pointer none, .slice none 0 0, .slice (some ⟨g, 0, none⟩) 1 1, .int .i32 0, .int .u8 (c : Int), .bool false] 42) := Hv4.out.heap (by omega) (fun hh => by have := (Hp.out.addr _ hh).2; omega) Hbx.out
  have x0_4 := cell_of_heap hb4 0
  have x1_4 := cell_of_heap hb4 1
  have x2_4 := cell_of_heap hb4 2
  have x4_4 := cell_of_heap hb4 4
  have z4 := heap_lt hb4
  have hg4 := Hw4.out.heap hne hgr Hg.out
  have t0_4 := cell_of_heap hg4 0
  have t1_4 := heap_lt hg4
  simp at x0_4 x1_4 x2_4 x4_4 t0_4
  clear hb4 hg4
  go_wp2_with fail
  rw [rounds_succ]
  go_wp2_with fail
  refine wp_loop_rounds 1 ?_
  rw [rounds_succ]
  go_wp2_with fail
  go_end0
  refine ⟨rfl, vo4, ?_, Hw4.out⟩
  have hz9 := Hp4.out
  try simp only [List.append_assoc] at hz9
  simpa [piece, Hc0.out] using hz9)
set_option maxHeartbeats 4000000 in
theorem comp_101 (B b g : Nat) (ind : Int) (out : List UInt8) (w : World) (vo : Option Addr) (h : Pr B b false false vo out w) (ho : out.length ≤ 130000000000)
    (hg : w.heap[g]? = some (.cells #[.int .i32 0] 35 (0, 0))) (hne : g ≠ b) (hgr : ¬ InRow vo g) :
    Calls Tryz.prog 18 #[.pointer (some ⟨b, 0, none⟩), .agg (compCells g 0), .bool true, .int .i32 ind] w (Wrt B b false false vo (out ++ piece false true 0) w) := by
  have t0 := cell_of_heap hg 0
  have p3 := h.cell 3 (by decide)
  have p6 := h.cell 6 (by decide)
  have p9 := h.cell 9 (by decide)
  simp [pc] at t0 p3 p6 p9
  have hgs := heap_lt hg
  have hbs := h.lt_size
  have hBw := h.le
  have Hg := Lib.hid hg
  have Hp := Lib.hid h
  clear h hg
  unfold compCells
  go_enter Tryz.func18, Tryz.ntmps18
  go_wp2_with fail
  have Hw1 : Hid (Wrote b vo vo w (w.alloc (.cells #[.pointer none, .slice none 0 0, .slice (some ⟨g, 0, none⟩) 1 1, .int .i32 0, .int .u8 0, .bool false] 42))) := Lib.hid ((Wrote.refl b vo w).alloc _)
  have Hv1 : Hid (Wrote b vo vo (w.alloc (.cells #[.pointer none, .slice none 0 0, .slice (some ⟨g, 0, none⟩) 1 1, .int .i32 0, .int .u8 0, .bool false] 42)) (w.alloc (.cells #[.pointer none, .slice none 0 0, .slice (some ⟨g, 0, none⟩) 1 1, .int .i32 0, .int .u8 0, .bool false] 42))) := Lib.hid (Wrote.refl b vo _)
  have Hp1 : Hid (Pr B b false false vo out (w.alloc (.cells #[.pointer none, .slice none 0 0, .slice (some ⟨g, 0, none⟩) 1 1, .int .i32 0, .int .u8 0, .bool false] 42))) := Lib.hid (Hp.out.wrote ((Chg.refl Nowhere w).alloc _))
  have Hbx : Hid ((w.alloc (.cells #[.pointer none, .slice none 0 0, .slice (some ⟨g, 0, none⟩) 1 1, .int .i32 0, .int .u8 0, .bool false] 42)).heap[w.heap.size]? = some (.cells #[.pointer none, .slice none 0 0, .slice (some ⟨g, 0, none⟩) 1 1, .int .i32 0, .int .u8 0, .bool false] 42)) := Lib.hid (heap_alloc_at w _ _ rfl)
  refine wp_loop_rounds 2 ?_
  rw [rounds_succ]
  go_wp2_with fail
  have Hwl : Hid (Wrote b vo vo w ((w.alloc (.cells #[.pointer none, .slice none 0 0, .slice (some ⟨g, 0, none⟩) 1 1, .int .i32 0, .int .u8 0, .bool false] 42)).alloc (.cells #[.int .i32 0] 35))) := Lib.hid (Hw1.out.alloc _)
  have Hvl : Hid (Wrote b vo vo (w.alloc (.cells #[.pointer none, .slice none 0 0, .slice (some ⟨g, 0, none⟩) 1 1, .int .i32 0, .int .u8 0, .bool false] 42)) ((w.alloc (.cells #[.pointer none, .slice none 0 0, .slice (some ⟨g, 0, none⟩) 1 1, .int .i32 0, .int .u8 0, .bool false] 42)).alloc (.cells #[.int .i32 0] 35))) := Lib.hid (Hv1.out.alloc _)
  have Hpl : Hid (Pr B b false false vo (out) ((w.alloc (.cells #[.pointer none, .slice none 0 0, .slice (some ⟨g, 0, none⟩) 1 1, .int .i32 0, .int .u8 0, .bool false] 42)).alloc (.cells #[.int .i32 0] 35))) := Lib.hid (Hp1.out.wrote ((Chg.refl Nowhere (w.alloc (.cells #[.pointer none, .slice none 0 0, .slice (some ⟨g, 0, none⟩) 1 1, .int .i32 0, .int .u8 0, .bool false] 42))).alloc _))
  refine (print_w B b false false vo (out) ⟨#[38]⟩ _ Hpl.out (by first | omega | (simp; omega)) (by decide)).mono ?_
  rintro e2 w2 ⟨rfl, vo2, hp, hw⟩
  have Hp2 : Hid (Pr B b false false vo2 (out ++ [38]) w2) := Lib.hid hp
  have Hw2 : Hid (Wrote b vo vo2 w w2) := Lib.hid (Hwl.out.trans hw)
  have Hv2 : Hid (Wrote b vo vo2 (w.alloc (.cells #[.pointer none, .slice none 0 0, .slice (some ⟨g, 0, none⟩) 1 1, .int .i32 0, .int .u8 0, .bool false] 42)) w2) := Lib.hid (Hvl.out.trans hw)
  clear hp hw
  have p3_2 := Hp2.out.cell 3 (by decide)
  have p6_2 := Hp2.out.cell 6 (by decide)
  have p9_2 := Hp2.out.cell 9 (by decide)
  simp [pc] at p3_2 p6_2 p9_2
  have s2 := Hp2.out.lt_size
  have hb2 : w2.heap[w.heap.size]? = some (.cells #[.pointer none, .slice none 0 0, .slice (some ⟨g, 0, none⟩) 1 1, .int .i32 0, .int .u8 0, .bool false] 42) := Hv2.out.heap (by omega) (fun hh => by have := (Hp.out.addr _ hh).2; omega) Hbx.out
  have x0_2 := cell_of_heap hb2 0
  have x1_2 := cell_of_heap hb2 1
  have x2_2 := cell_of_heap hb2 2
  have x4_2 := cell_of_heap hb2 4
  have z2 := heap_lt hb2
  have hg2 := Hw2.out.heap hne hgr Hg.out
  have t0_2 := cell_of_heap hg2 0
  have t1_2 := heap_lt hg2
  simp at x0_2 x1_2 x2_2 x4_2 t0_2
  clear hb2 hg2
  go_wp2_with fail
  rw [rounds_succ]
  go_wp2_with fail
  refine wp_loop_rounds 1 ?_
  rw [rounds_succ]
  go_wp2_with fail
  go_end0
  refine ⟨rfl, vo2, ?_, Hw2.out⟩
  have hz9 := Hp2.out
  try simp only [List.append_assoc] at hz9
  simpa [piece] using hz9
set_option maxHeartbeats 4000000 in
theorem comp_110 (B b g c : Nat) (hc8 : c < 256) (hc0 : c ≠ 0) (ind : Int) (out : List UInt8) (w : World) (vo : Option Addr) (h : Pr B b true false vo out w) (ho : out.length ≤ 130000000000)
    (hg : w.heap[g]? = some (.cells #[.int .i32 0] 35 (0, 0))) (hne : g ≠ b) (hgr : ¬ InRow vo g) :
    Calls Tryz.prog 18 #[.pointer (some ⟨b, 0, none⟩), .agg (compCells g c), .bool true, .int .i32 ind] w (Wrt B b true false vo (out ++ piece true true c) w) := by
  have t0 := cell_of_heap hg 0
  have p3 := h.cell 3 (by decide)
  have p6 := h.cell 6 (by decide)
  have p9 := h.cell 9 (by decide)
  simp [pc] at t0 p3 p6 p9
  have hgs := heap_lt hg
  have hbs := h.lt_size
  have hBw := h.le
  have Hg := Lib.hid hg
  have Hp := Lib.hid h
  clear h hg
  have e0 : ((c : Int) == 0) = false := beq_eq_false_iff_ne.2 (by omega)
  have e1 : ((c : Int) != 0) = true := by simp; omega
  have Hc0 := Lib.hid hc0
  clear hc0
  obtain ⟨i0, hi, hz0, hz1, hz2⟩ := info_parts info5
  unfold compCells
  go_enter Tryz.func18, Tryz.ntmps18
  go_wp2_with fail
  have Hw1 : Hid (Wrote b vo vo w (w.alloc (.cells #[.pointer none, .slice none 0 0, .slice (some ⟨g, 0, none⟩) 1 1, .int .i32 0, .int .u8 (c : Int), .bool false] 42))) := Lib.hid ((Wrote.refl b vo w).alloc _)
  have Hv1 : Hid (Wrote b vo vo (w.alloc (.cells #[.pointer none, .slice none 0 0, .slice (some ⟨g, 0, none⟩) 1 1, .int .i32 0, .int .u8 (c : Int), .bool false] 42)) (w.alloc (.cells #[.pointer none, .slice none 0 0, .slice (some ⟨g, 0, none⟩) 1 1, .int .i32 0, .int .u8 (c : Int), .bool false] 42))) := Lib.hid (Wrote.refl b vo _)
  have Hp1 : Hid (Pr B b true false vo out (w.alloc (.cells #[.pointer none, .slice none 0 0, .slice (some ⟨g, 0, none⟩) 1 1, .int .i32 0, .int .u8 (c : Int), .bool false] 42))) := Lib.hid (Hp.out.wrote ((Chg.refl Nowhere w).alloc _))
  have Hbx : Hid ((w.alloc (.cells #[.pointer none, .slice none 0 0, .slice (some ⟨g, 0, none⟩) 1 1, .int .i32 0, .int .u8 (c : Int), .bool false] 42)).heap[w.heap.size]? = some (.cells #[.pointer none, .slice none 0 0, .slice (some ⟨g, 0, none⟩) 1 1, .int .i32 0, .int .u8 (c : Int), .bool false] 42)) := Lib.hid (heap_alloc_at w _ _ rfl)
  obtain ⟨vc, hblk, hown⟩ := Hp1.out.row
  obtain ⟨L, hL⟩ : ∃ L, L = (out).length := ⟨_, rfl⟩
  rw [← hL] at hblk hown
  have hnl : L ≤ 130000000001 := by rw [hL]; first | omega | (simp; omega)
  have HL := Lib.hid hL
  clear hL
  have hc15 := cell_of_heap hblk 15
  simp only [pc, List.getElem?_toArray, List.getElem?_cons_succ, List.getElem?_cons_zero] at hc15
  have hle := Hp1.out.le
  have Hblk := Lib.hid hblk; have Hown := Lib.hid hown
  have hszb := heap_lt hblk
  have Hpd : Hid (Pr B b true false vo (out) (w.alloc (.cells #[.pointer none, .slice none 0 0, .slice (some ⟨g, 0, none⟩) 1 1, .int .i32 0, .int .u8 (c : Int), .bool false] 42)).drew) := Lib.hid Hp1.out.drew
  clear hblk hown
  go_region_law (go_loud (refine step_append_fresh _ rfl (.tmp 81) (.tmp 85) 27 rfl B 5 i0 _ 1 1 Tryz.underlying27 hi hz0 hz1 hz2 rfl (by decide) vo L vc _ (by simp [Act.eval, Act.put]) (((Chg.refl Nowhere (w.alloc (.cells #[.pointer none, .slice none 0 0, .slice (some ⟨g, 0, none⟩) 1 1, .int .i32 0, .int .u8 (c : Int), .bool false] 42))).drew.alloc _).owns Hown.out fun _ _ h => h) (some ⟨(w.alloc (.cells #[.pointer none, .slice none 0 0, .slice (some ⟨g, 0, none⟩) 1 1, .int .i32 0, .int .u8 (c : Int), .bool false] 42)).heap.size, 0, none⟩) 1 1 [.int .u8 (c : Int)] (by simp [Act.eval, Act.put]) rfl (by simp) (byte1 _ _ _ (by simp [World.drew])) (by intro u hu; simp at hu; subst hu; rfl) (by unfold maxLen; omega) (by omega) (by simp [World.drew]; omega) ?_; intro vb vcb wb hown1 hg1 hf1; have hb1 := hg1.heap (heap_alloc_keep Hblk.out _) Hp1.out.ne; have cb := cell_of_heap hb1 15; have fb := frozen_of_heap hb1 15; simp only [pc, List.getElem?_toArray, List.getElem?_cons_succ, List.getElem?_cons_zero] at cb; have Hb1 := Lib.hid hb1; have Hown1 := Lib.hid hown1; have Hg1 := Lib.hid hg1; have Hf1 := Lib.hid hf1; clear hb1 hown1 hg1 hf1))
  all_goals (
  obtain ⟨hp, hw⟩ := byte_mk HL.out hc8 Hp1.out Hblk.out (((Chg.refl _ _).drew).trans Hg1.out (fun _ _ h => h)) Hown1.out (by simpa [World.drew] using Hf1.out)
  generalize hww : World.setCell wb _ _ = w2 at hp hw ⊢
  have Hp2 : Hid (Pr B b true false vb (out ++ [UInt8.ofNat c]) w2) := Lib.hid hp
  have Hw2 : Hid (Wrote b vo vb w w2) := Lib.hid (Hw1.out.trans hw)
  have Hv2 : Hid (Wrote b vo vb (w.alloc (.cells #[.pointer none, .slice none 0 0, .slice (some ⟨g, 0, none⟩) 1 1, .int .i32 0, .int .u8 (c : Int), .bool false] 42)) w2) := Lib.hid (Hv1.out.trans hw)
  clear hp hw hww Hb1 Hown1 Hg1 Hf1 cb fb hc15
  have p3_2 := Hp2.out.cell 3 (by decide)
  have p6_2 := Hp2.out.cell 6 (by decide)
  have p9_2 := Hp2.out.cell 9 (by decide)
  simp [pc] at p3_2 p6_2 p9_2
  have s2 := Hp2.out.lt_size
  have hb2 : w2.heap[w.heap.size]? = some (.cells #[.pointer none, .slice none 0 0, .slice (some ⟨g, 0, none⟩) 1 1, .int .i32 0, .int .u8 (c : Int), .bool false] 42) := Hv2.out.heap (by omega) (fun hh => by have := (Hp.out.addr _ hh).2; omega) Hbx.out
  have x0_2 := cell_of_heap hb2 0
  have x1_2 := cell_of_heap hb2 1
  have x2_2 := cell_of_heap hb2 2
  have x4_2 := cell_of_heap hb2 4
  have z2 := heap_lt hb2
  have hg2 := Hw2.out.heap hne hgr Hg.out
  have t0_2 := cell_of_heap hg2 0
  have t1_2 := heap_lt hg2
  simp at x0_2 x1_2 x2_2 x4_2 t0_2
  clear hb2 hg2
  go_wp2_with fail
  refine wp_loop_rounds 2 ?_
  rw [rounds_succ]
  go_wp2_with fail
  have Hwl : Hid (Wrote b vo vb w (w2.alloc (.cells #[.int .i32 0] 35))) := Lib.hid (Hw2.out.alloc _)
  have Hvl : Hid (Wrote b vo vb (w.alloc (.cells #[.pointer none, .slice none 0 0, .slice (some ⟨g, 0, none⟩) 1 1, .int .i32 0, .int .u8 (c : Int), .bool false] 42)) (w2.alloc (.cells #[.int .i32 0] 35))) := Lib.hid (Hv2.out.alloc _)
  have Hpl : Hid (Pr B b true false vb (out ++ [UInt8.ofNat c]) (w2.alloc (.cells #[.int .i32 0] 35))) := Lib.hid (Hp2.out.wrote ((Chg.refl Nowhere w2).alloc _))
  refine (print_w B b true false vb (out ++ [UInt8.ofNat c]) ⟨#[38]⟩ _ Hpl.out (by first | omega | (simp; omega)) (by decide)).mono ?_
  rintro e3 w3 ⟨rfl, vo3, hp, hw⟩
  have Hp3 : Hid (Pr B b true false vo3 (out ++ [UInt8.ofNat c] ++ [38]) w3) := Lib.hid hp
  have Hw3 : Hid (Wrote b vo vo3 w w3) := Lib.hid (Hwl.out.trans hw)
  have Hv3 : Hid (Wrote b vo vo3 (w.alloc (.cells #[.pointer none, .slice none 0 0, .slice (some ⟨g, 0, none⟩) 1 1, .int .i32 0, .int .u8 (c : Int), .bool false] 42)) w3) := Lib.hid (Hvl.out.trans hw)
  clear hp hw
  have p3_3 := Hp3.out.cell 3 (by decide)
  have p6_3 := Hp3.out.cell 6 (by decide)
  have p9_3 := Hp3.out.cell 9 (by decide)
  simp [pc] at p3_3 p6_3 p9_3
  have s3 := Hp3.out.lt_size
  have hb3 : w3.heap[w.heap.size]? = some (.cells #[.pointer none, .slice none 0 0, .slice (some ⟨g, 0, none⟩) 1 1, .int .i32 0, .int .u8 (c : Int), .bool false] 42) := Hv3.out.heap (by omega) (fun hh => by have := (Hp.out.addr _ hh).2; omega) Hbx.out
  have x0_3 := cell_of_heap hb3 0
  have x1_3 := cell_of_heap hb3 1
  have x2_3 := cell_of_heap hb3 2
  have x4_3 := cell_of_heap hb3 4
  have z3 := heap_lt hb3
  have hg3 := Hw3.out.heap hne hgr Hg.out
  have t0_3 := cell_of_heap hg3 0
  have t1_3 := heap_lt hg3
  simp at x0_3 x1_3 x2_3 x4_3 t0_3
  clear hb3 hg3
  go_wp2_with fail
  rw [rounds_succ]
  go_wp2_with fail
  refine wp_loop_rounds 1 ?_
  rw [rounds_succ]
  go_wp2_with fail
  go_end0
  refine ⟨rfl, vo3, ?_, Hw3.out⟩
  have hz9 := Hp3.out
  try simp only [List.append_assoc] at hz9
  simpa [piece, Hc0.out] using hz9)
set_option maxHeartbeats 4000000 in
theorem comp_111 (B b g : Nat) (ind : Int) (out : List UInt8) (w : World) (vo : Option Addr) (h : Pr B b true false vo out w) (ho : out.length ≤ 130000000000)
    (hg : w.heap[g]? = some (.cells #[.int .i32 0] 35 (0, 0))) (hne : g ≠ b) (hgr : ¬ InRow vo g) :
    Calls Tryz.prog 18 #[.pointer (some ⟨b, 0, none⟩), .agg (compCells g 0), .bool true, .int .i32 ind] w (Wrt B b true false vo (out ++ piece true true 0) w) := by
  have t0 := cell_of_heap hg 0
  have p3 := h.cell 3 (by decide)
  have p6 := h.cell 6 (by decide)
  have p9 := h.cell 9 (by decide)
  simp [pc] at t0 p3 p6 p9
  have hgs := heap_lt hg
  have hbs := h.lt_size
  have hBw := h.le
  have Hg := Lib.hid hg
  have Hp := Lib.hid h
  clear h hg
  unfold compCells
  go_enter Tryz.func18, Tryz.ntmps18
  go_wp2_with fail
  have Hw1 : Hid (Wrote b vo vo w (w.alloc (.cells #[.pointer none, .slice none 0 0, .slice (some ⟨g, 0, none⟩) 1 1, .int .i32 0, .int .u8 0, .bool false] 42))) := Lib.hid ((Wrote.refl b vo w).alloc _)
  have Hv1 : Hid (Wrote b vo vo (w.alloc (.cells #[.pointer none, .slice none 0 0, .slice (some ⟨g, 0, none⟩) 1 1, .int .i32 0, .int .u8 0, .bool false] 42)) (w.alloc (.cells #[.pointer none, .slice none 0 0, .slice (some ⟨g, 0, none⟩) 1 1, .int .i32 0, .int .u8 0, .bool false] 42))) := Lib.hid (Wrote.refl b vo _)
  have Hp1 : Hid (Pr B b true false vo out (w.alloc (.cells #[.pointer none, .slice none 0 0, .slice (some ⟨g, 0, none⟩) 1 1, .int .i32 0, .int .u8 0, .bool false] 42))) := Lib.hid (Hp.out.wrote ((Chg.refl Nowhere w).alloc _))
  have Hbx : Hid ((w.alloc (.cells #[.pointer none, .slice none 0 0, .slice (some ⟨g, 0, none⟩) 1 1, .int .i32 0, .int .u8 0, .bool false] 42)).heap[w.heap.size]? = some (.cells #[.pointer none, .slice none 0 0, .slice (some ⟨g, 0, none⟩) 1 1, .int .i32 0, .int .u8 0, .bool false] 42)) := Lib.hid (heap_alloc_at w _ _ rfl)
  refine wp_loop_rounds 2 ?_
  rw [rounds_succ]
  go_wp2_with fail
  have Hwl : Hid (Wrote b vo vo w ((w.alloc (.cells #[.pointer none, .slice none 0 0, .slice (some ⟨g, 0, none⟩) 1 1, .int .i32 0, .int .u8 0, .bool false] 42)).alloc (.cells #[.int .i32 0] 35))) := Lib.hid (Hw1.out.alloc _)
  have Hvl : Hid (Wrote b vo vo (w.alloc (.cells #[.pointer none, .slice none 0 0, .slice (some ⟨g, 0, none⟩) 1 1, .int .i32 0, .int .u8 0, .bool false] 42)) ((w.alloc (.cells #[.pointer none, .slice none 0 0, .slice (some ⟨g, 0, none⟩) 1 1, .int .i32 0, .int .u8 0, .bool false] 42)).alloc (.cells #[.int .i32 0] 35))) := Lib.hid (Hv1.out.alloc _)
  have Hpl : Hid (Pr B b true false vo (out) ((w.alloc (.cells #[.pointer none, .slice none 0 0, .slice (some ⟨g, 0, none⟩) 1 1, .int .i32 0, .int .u8 0, .bool false] 42)).alloc (.cells #[.int .i32 0] 35))) := Lib.hid (Hp1.out.wrote ((Chg.refl Nowhere (w.alloc (.cells #[.pointer none, .slice none 0 0, .slice (some ⟨g, 0, none⟩) 1 1, .int .i32 0, .int .u8 0, .bool false] 42))).alloc _))
  refine (print_w B b true false vo (out) ⟨#[38]⟩ _ Hpl.out (by first | omega | (simp; omega)) (by decide)).mono ?_
  rintro e2 w2 ⟨rfl, vo2, hp, hw⟩
  have Hp2 : Hid (Pr B b true false vo2 (out ++ [38]) w2) := Lib.hid hp
  have Hw2 : Hid (Wrote b vo vo2 w w2) := Lib.hid (Hwl.out.trans hw)
  have Hv2 : Hid (Wrote b vo vo2 (w.alloc (.cells #[.pointer none, .slice none 0 0, .slice (some ⟨g, 0, none⟩) 1 1, .int .i32 0, .int .u8 0, .bool false] 42)) w2) := Lib.hid (Hvl.out.trans hw)
  clear hp hw
  have p3_2 := Hp2.out.cell 3 (by decide)
  have p6_2 := Hp2.out.cell 6 (by decide)
  have p9_2 := Hp2.out.cell 9 (by decide)
  simp [pc] at p3_2 p6_2 p9_2
  have s2 := Hp2.out.lt_size
  have hb2 : w2.heap[w.heap.size]? = some (.cells #[.pointer none, .slice none 0 0, .slice (some ⟨g, 0, none⟩) 1 1, .int .i32 0, .int .u8 0, .bool false] 42) := Hv2.out.heap (by omega) (fun hh => by have := (Hp.out.addr _ hh).2; omega) Hbx.out
  have x0_2 := cell_of_heap hb2 0
  have x1_2 := cell_of_heap hb2 1
  have x2_2 := cell_of_heap hb2 2
  have x4_2 := cell_of_heap hb2 4
  have z2 := heap_lt hb2
  have hg2 := Hw2.out.heap hne hgr Hg.out
  have t0_2 := cell_of_heap hg2 0
  have t1_2 := heap_lt hg2
  simp at x0_2 x1_2 x2_2 x4_2 t0_2
  clear hb2 hg2
  go_wp2_with fail
  rw [rounds_succ]
  go_wp2_with fail
  refine wp_loop_rounds 1 ?_
  rw [rounds_succ]
  go_wp2_with fail
  go_end0
  refine ⟨rfl, vo2, ?_, Hw2.out⟩
  have hz9 := Hp2.out
  try simp only [List.append_assoc] at hz9
  simpa [piece] using hz9
theorem comp18 (B b g c : Nat) (first m : Bool) (hc8 : c < 256) (ind : Int) (out : List UInt8) (w : World) (vo : Option Addr) (h : Pr B b m false vo out w) (ho : out.length ≤ 130000000000)
    (hg : w.heap[g]? = some (.cells #[.int .i32 0] 35 (0, 0))) (hne : g ≠ b) (hgr : ¬ InRow vo g) :
    Calls Tryz.prog 18 #[.pointer (some ⟨b, 0, none⟩), .agg (compCells g c), .bool first, .int .i32 ind] w (Wrt B b m false vo (out ++ piece m first c) w) := by
  by_cases hc0 : c = 0
  · subst hc0
    cases first <;> cases m
    · exact comp_001 B b g ind out w vo h ho hg hne hgr
    · exact comp_011 B b g ind out w vo h ho hg hne hgr
    · exact comp_101 B b g ind out w vo h ho hg hne hgr
    · exact comp_111 B b g ind out w vo h ho hg hne hgr
  · cases first <;> cases m
    · exact comp_000 B b g c hc8 hc0 ind out w vo h ho hg hne hgr
    · exact comp_010 B b g c hc8 hc0 ind out w vo h ho hg hne hgr
    · exact comp_100 B b g c hc8 hc0 ind out w vo h ho hg hne hgr
    · exact comp_110 B b g c hc8 hc0 ind out w vo h ho hg hne hgr
end Go.Proofs.YtadmncfemgmioaaGreatFmt
