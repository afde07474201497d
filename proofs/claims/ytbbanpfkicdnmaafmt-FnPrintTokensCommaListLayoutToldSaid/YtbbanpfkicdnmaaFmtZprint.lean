/-
  Proved: contract of ZZprintTokens at a flat list. No statement of the seat stands here.
-/
import Derived.Test.YtbbanpfkicdnmaaFmtHelp
import Derived.Test.YtbbanpfkicdnmaaFmtListMin
import Derived.Test.YtbbanpfkicdnmaaFmtListFlat
import Derived.Test.YtbbanpfkicdnmaaFmtListDecl
namespace Go.Proofs.YtbbanpfkicdnmaaFmt
open Go.RowKit Go.ChangeAt
set_option linter.unusedSimpArgs false
set_option linter.unusedVariables false
set_option maxRecDepth 100000
/-- A whole struct stored into the block that was made last. -/
theorem wpList_store_new {P : Program} {ops : Array Oper} {rest : List Oper} {o : Oper} {a : Act} {w w0 : World} {Q : Exit → Act → World → Prop} (hgd : o.guard = none) (ty : TypeId) (x y : Operand) (ho : o.op = .store ty x y)
    (c c' : Array Value) (hw : w = w0.alloc (.cells c ty)) (g : Nat) (hx : a.eval x = .pointer (some ⟨g, 0, none⟩)) (hg : g = w0.heap.size) (hy : a.eval y = .agg c') (n : Nat) (hi : (P.info? ty).map (·.size) = some n) (hn : c'.size = n)
    (hold : c.size = c'.size) (h1 : c'.all (·.oneCell') = true)
    (h : wpList P ops Q rest (a.put o.dst undef) (w0.alloc (.cells c' ty))) : wpList P ops Q (o :: rest) a w := by
  subst hw hg
  refine wpList_plain hgd fun K hK => ?_
  unfold Oper.wp execOp
  simp only [ho, hx, hy, run_storeAt_new w0 ty c c' (hn ▸ hi) hold h1, Sem.run_bind, Sem.run_pure, Result.andThen_ok]
  exact hK _ _ h
theorem size66 : (Tryf.prog.info? 66).map (·.size) = some 43 := by kernel_rfl
theorem size40 : (Tryf.prog.info? 40).map (·.size) = some 7 := by kernel_rfl
theorem list13 (B b tb n N cap : Nat) (T : Nat → ByteArray) (lead m dec mu : Bool) (hmu : mu = (!m && dec && decide (2 ≤ n))) (ind : Int) (out : List UInt8) (w : World) (vo : Option Addr) (HN : Hid (N = 2 * n + 1)) (h : Pr B b m false vo out w) (hl : ListAt b vo tb N T lead w) (hn2 : n ≤ 65536)
    (hi1 : ind ≤ 65536) (hi0 : -65536 ≤ ind) (HT : Hid (∀ i, Plain (T i))) (Hs : Hid (∀ i, (T i).size ≤ 8)) (ho : out.length ≤ 1000000) (hb : ∀ k, k ≤ N → (textTo (sepOf mu ind) T lead k).length ≤ 100000000) :
    Calls Tryf.prog 13 #[.pointer (some ⟨b, 0, none⟩), .slice (some ⟨tb, 0, none⟩) N cap, .agg #[.int .i32 ind, .int .u8 0, .bool dec]] w (WrtF B b m false vo (out ++ textTo (sepOf mu ind) T lead N) w) := by
  subst hmu
  cases m
  · cases dec
    · exact listFlat B b tb n N cap T lead ind out w vo HN h hl hn2 hi1 hi0 HT Hs ho hb
    · exact listDecl B b tb n N cap T lead ind out w vo HN h hl hn2 hi1 hi0 HT Hs ho hb
  · exact listMin B b tb n N cap T lead dec ind out w vo HN h hl hn2 hi1 hi0 HT Hs ho hb
/-- A fresh row of bytes beside 'false'. -/
def TokOut (X : List UInt8) (w : World) (e : Ending) (w' : World) : Prop :=
  ∃ vo vc, e = .returned (.tuple #[.slice vo X.length vc, .bool false]) ∧ RowAt w w' vo X.length vc X
set_option maxHeartbeats 8000000 in
theorem zprint7 (tb n N cap : Nat) (T : Nat → ByteArray) (lead m dec mu : Bool) (hmu : mu = (!m && dec && decide (2 ≤ n))) (ind : Int) (w : World) (HN : Hid (N = 2 * n + 1)) (hl : ∀ w', Chg Nowhere w w' → ListAt w.heap.size none tb N T lead w') (hn2 : n ≤ 65536)
    (hi1 : ind ≤ 65536) (hi0 : -65536 ≤ ind) (HT : Hid (∀ i, Plain (T i))) (Hs : Hid (∀ i, (T i).size ≤ 8)) (hb : ∀ k, k ≤ N → (textTo (sepOf mu ind) T lead k).length ≤ 100000000) :
    Calls Tryf.prog 7 #[.slice (some ⟨tb, 0, none⟩) N cap, .bool m, .int .i64 0, .int .i32 ind, .int .u8 0, .bool dec] w (TokOut (textTo (sepOf mu ind) T lead N) w) := by
  have Hl := Lib.hid hl
  have Hb := Lib.hid hb
  have Hmu := Lib.hid hmu
  clear hl hb hmu
  go_enter Tryf.func7, Tryf.ntmps7
  go_wp2_with (refine wpList_store_new rfl 66 (.tmp 14) (.tmp 19) rfl _ _ rfl _ rfl (by simp) rfl 43 size66 rfl rfl (by kernel_rfl) ?_)
  have hno : ∀ q, ¬ InRow none q := by rintro q ⟨x, hx, _⟩; cases hx
  have hc1 : Chg Nowhere w (w.alloc (.cells (pc m false (.slice none 0 0)) 66)) := (Chg.refl _ w).alloc _
  have hp : Pr w.heap.size w.heap.size m false none [] (w.alloc (.cells (pc m false (.slice none 0 0)) 66)) :=
    ⟨by simp, hno _, 0, heap_alloc_at w _ _ rfl, ⟨by simp [Lib.byteCells], .inl ⟨rfl, rfl⟩⟩⟩
  have hls := Hl.out _ hc1
  unfold pc at hc1 hp hls
  generalize hw1 : World.alloc w _ = w1 at hc1 hp hls ⊢
  clear hw1
  have Hc1 := Lib.hid hc1
  clear hc1
  refine (list13 w.heap.size w.heap.size tb n N cap T lead m dec mu Hmu.out ind [] w1 none HN hp hls hn2 hi1 hi0 HT Hs (by simp) Hb.out).mono ?_
  rintro ex w2 ⟨rfl, vo, hp2, hw2⟩
  simp only [List.nil_append] at hp2
  obtain ⟨vc, hrow, hown⟩ := hp2.row
  have hc15 := cell_of_heap hrow 15
  simp only [pc, List.getElem?_toArray, List.getElem?_cons_succ, List.getElem?_cons_zero] at hc15
  have hbl := heap_lt hrow
  have hch : Chg Nowhere w w2 := Hc1.out.trans hw2.chg (by
    intro q hq hs
    rcases hs with rfl | hs
    · omega
    · exact (hno _ hs).elim)
  have Hown := Lib.hid hown
  have Hch := Lib.hid hch
  clear hp hls hp2 hw2 hrow hown hch
  go_wp2_with fail
  go_ret2
  exact ⟨vo, vc, rfl, rfl, Hown.out, Hch.out⟩
end Go.Proofs.YtbbanpfkicdnmaaFmt
