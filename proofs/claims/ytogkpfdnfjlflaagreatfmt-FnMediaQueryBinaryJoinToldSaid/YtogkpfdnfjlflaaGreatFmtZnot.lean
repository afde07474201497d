/-
  Proved: contract of ZZprintMQNotOfNumber. No statement of the seat stands here.
-/
import Derived.Test.YtogkpfdnfjlflaaGreatFmtNot
import Derived.Deep.WholeRow
namespace Go.Proofs.YtogkpfdnfjlflaaGreatFmt
open Go.RowKit Go.ChangeAt
set_option linter.unusedSimpArgs false
set_option linter.unusedVariables false
/-- A whole struct stored into the block that was made last. -/
theorem wpList_store_new {P : Program} {ops : Array Oper} {rest : List Oper} {o : Oper} {a : Act} {w w0 : World} {Q : Exit → Act → World → Prop} (hgd : o.guard = none) (ty : TypeId) (x y : Operand) (ho : o.op = .store ty x y)
    (c c' : Array Value) (hw : w = w0.alloc (.cells c ty)) (g : Nat) (hx : a.eval x = .pointer (some ⟨g, 0, none⟩)) (hg : g = w0.heap.size) (hy : a.eval y = .agg c') (n : Nat) (hi : (P.info? ty).map (·.size) = some n) (hn : c'.size = n)
    (hold : c.size = c'.size) (h1 : c'.all (·.oneCell') = true)
    (h : wpList P ops Q rest (a.put o.dst undef) (w0.alloc (.cells c' ty))) : wpList P ops Q (o :: rest) a w := by
  subst hw hg
  refine wpList_plain hgd fun K hK => ?_
  unfold Oper.wp execOp
  simp only [ho, hx, hy, run_storeAt_new w0 ty c c' (hn ▸ hi) hold h1, Sem.run_bind, Sem.run_pure, Result.andThen_ok]
  exact hK _ _ h
def StrOut (s : List UInt8) (w : World) (e : Ending) (w' : World) : Prop := e = .returned (.string ⟨s.toArray⟩) ∧ Chg Nowhere w w'
theorem size70 : (Tryz.prog.info? 70).map (·.size) = some 43 := by kernel_rfl
/-- The printer's text as a string. -/
theorem Pr.str {B b : Nat} {m : Bool} {vo : Option Addr} {out : List UInt8} {w : World} {vc : Nat} (h : w.ownsRow B 5 1 (.slice vo out.length vc) out.length (Lib.byteCells out)) :
    (convert 29 9 (.slice vo out.length vc)).run Tryz.prog w = .ok (.string ⟨out.toArray⟩) w := by
  rcases ownsRow_addr h with ⟨h1, h2⟩ | ⟨g, h1, _⟩
  · subst h1
    rw [run_convert_bytes_nil w 29 5 Tryz.underlying29 Tryz.underlying5 _ _ 9 Tryz.underlying9]
    have : out = [] := List.eq_nil_of_length_eq_zero h2.1
    subst this
    rfl
  · subst h1
    refine run_convert_bytes_back w 29 9 5 _ vc out Tryz.underlying29 Tryz.underlying5 Tryz.underlying9 fun j hj => ?_
    exact h.cells (g := g) rfl j _ (by simp [Lib.byteCells, hj])
theorem heap_alloc_keep {w : World} {k : Nat} {o : Obj} (h : w.heap[k]? = some o) (p : Obj) : (w.alloc p).heap[k]? = some o := by
  have hk := heap_lt h
  show (w.heap.push p)[k]? = some o
  rw [Array.getElem?_push_lt hk]
  rw [Array.getElem?_eq_getElem hk] at h
  exact h
theorem heap_alloc_at (w : World) (p : Obj) (k : Nat) (hk : k = w.heap.size) : (w.alloc p).heap[k]? = some p := by
  subst hk
  show (w.heap.push p)[w.heap.size]? = some p
  simp
theorem Pr.fresh (B b : Nat) (m : Bool) (w : World) (h1 : b < B) (h2 : B ≤ w.heap.size) (h : w.heap[b]? = some (.cells (pc m (.slice none 0 0)) 70 (0, 0))) : Pr B b m none [] w :=
  ⟨h1, h2, 0, h, ⟨by simp [Lib.byteCells], .inl ⟨rfl, rfl⟩⟩⟩
set_option maxRecDepth 100000 in
set_option maxHeartbeats 4000000 in
theorem znot (f : Int) (m : Bool) (t : ByteArray) (w : World) (ht : t.size ≤ 140000000) :
    Calls Tryz.prog 6 #[.string t, .int .u8 f, .bool m] w (StrOut (notText f t.data.toList) w) := by
  go_enter Tryz.func6, Tryz.ntmps6
  go_wp2_with (refine wpList_store_new rfl 70 (.tmp 8) (.tmp 18) rfl _ _ rfl _ rfl (by simp) rfl 43 size70 rfl rfl (by kernel_rfl) ?_)
  have hc : Chg Nowhere w (((((w.alloc (.cells (tokCells t) 39)).alloc (.cells #[.slice (some ⟨w.heap.size, 0, none⟩) 1 1] 42)).alloc (.cells #[.int .i32 0, .iface 30 (.pointer (some ⟨w.heap.size + 1, 0, none⟩))] 46)).alloc (.cells (pc m (.slice none 0 0)) 70)).alloc
      (.cells #[.int .i32 0, .iface 30 (.pointer (some ⟨w.heap.size + 1, 0, none⟩))] 74)) := (((((Chg.refl _ w).alloc _).alloc _).alloc _).alloc _).alloc _
  have h0 : (((((w.alloc (.cells (tokCells t) 39)).alloc (.cells #[.slice (some ⟨w.heap.size, 0, none⟩) 1 1] 42)).alloc (.cells #[.int .i32 0, .iface 30 (.pointer (some ⟨w.heap.size + 1, 0, none⟩))] 46)).alloc (.cells (pc m (.slice none 0 0)) 70)).alloc
      (.cells #[.int .i32 0, .iface 30 (.pointer (some ⟨w.heap.size + 1, 0, none⟩))] 74)).heap[w.heap.size]? = some (.cells (tokCells t) 39) := heap_alloc_keep (heap_alloc_keep (heap_alloc_keep (heap_alloc_keep (heap_alloc_at w _ _ rfl) _) _) _) _
  have h1 : (((((w.alloc (.cells (tokCells t) 39)).alloc (.cells #[.slice (some ⟨w.heap.size, 0, none⟩) 1 1] 42)).alloc (.cells #[.int .i32 0, .iface 30 (.pointer (some ⟨w.heap.size + 1, 0, none⟩))] 46)).alloc (.cells (pc m (.slice none 0 0)) 70)).alloc
      (.cells #[.int .i32 0, .iface 30 (.pointer (some ⟨w.heap.size + 1, 0, none⟩))] 74)).heap[w.heap.size + 1]? = some (.cells #[.slice (some ⟨w.heap.size, 0, none⟩) 1 1] 42) := heap_alloc_keep (heap_alloc_keep (heap_alloc_keep (heap_alloc_at (w.alloc (.cells (tokCells t) 39)) _ _ (by simp)) _) _) _
  have h3 : (((((w.alloc (.cells (tokCells t) 39)).alloc (.cells #[.slice (some ⟨w.heap.size, 0, none⟩) 1 1] 42)).alloc (.cells #[.int .i32 0, .iface 30 (.pointer (some ⟨w.heap.size + 1, 0, none⟩))] 46)).alloc (.cells (pc m (.slice none 0 0)) 70)).alloc
      (.cells #[.int .i32 0, .iface 30 (.pointer (some ⟨w.heap.size + 1, 0, none⟩))] 74)).heap[w.heap.size + 1 + 1 + 1]? = some (.cells (pc m (.slice none 0 0)) 70) := heap_alloc_keep (heap_alloc_at _ _ _ (by simp)) _
  have h4 : (((((w.alloc (.cells (tokCells t) 39)).alloc (.cells #[.slice (some ⟨w.heap.size, 0, none⟩) 1 1] 42)).alloc (.cells #[.int .i32 0, .iface 30 (.pointer (some ⟨w.heap.size + 1, 0, none⟩))] 46)).alloc (.cells (pc m (.slice none 0 0)) 70)).alloc
      (.cells #[.int .i32 0, .iface 30 (.pointer (some ⟨w.heap.size + 1, 0, none⟩))] 74)).heap[w.heap.size + 1 + 1 + 1 + 1]? = some (.cells #[.int .i32 0, .iface 30 (.pointer (some ⟨w.heap.size + 1, 0, none⟩))] 74) := heap_alloc_at _ _ _ (by simp)
  have hs : (((((w.alloc (.cells (tokCells t) 39)).alloc (.cells #[.slice (some ⟨w.heap.size, 0, none⟩) 1 1] 42)).alloc (.cells #[.int .i32 0, .iface 30 (.pointer (some ⟨w.heap.size + 1, 0, none⟩))] 46)).alloc (.cells (pc m (.slice none 0 0)) 70)).alloc
      (.cells #[.int .i32 0, .iface 30 (.pointer (some ⟨w.heap.size + 1, 0, none⟩))] 74)).heap.size = w.heap.size + 5 := by simp
  unfold tokCells pc at hc h0 h1 h3 h4 hs
  generalize hw5 : World.alloc _ _ = w5 at hc h0 h1 h3 h4 hs ⊢
  clear hw5
  have hp : Pr (w.heap.size + 5) (w.heap.size + 1 + 1 + 1) m none [] w5 := Pr.fresh _ _ m w5 (by omega) (by omega) h3
  have hq : TokAt (w.heap.size + 5) (w.heap.size + 1 + 1 + 1) (w.heap.size + 1) w.heap.size t w5 := ⟨h1, h0, by omega, by omega, by omega, by omega⟩
  refine (mq_not (w.heap.size + 5) (w.heap.size + 1 + 1 + 1) (w.heap.size + 1) w.heap.size (w.heap.size + 1 + 1 + 1 + 1) m f [] t w5 none hp hq h4 (by omega) (by omega) (by simp) ht).mono ?_
  rintro e w6 ⟨rfl, vo6, hp6, hw6⟩
  obtain ⟨vc, hr6, ho6⟩ := hp6.row
  have hcc := cell_of_heap hr6 15
  simp [pc] at hcc
  have hst := Pr.str (m := m) (b := 0) ho6
  have hch : Chg Nowhere w w6 := hc.trans hw6.chg (by
    intro k hk hs
    rcases hs with h | ⟨x, h, _⟩
    · omega
    · cases h)
  have hbs := hp6.lt_size
  have Hst := Lib.hid hst
  simp only [List.nil_append] at hst hcc
  clear h0 h1 h3 h4 hp hq hp6 hw6 hr6 ho6 hc Hst
  go_wp2_with fail
  go_ret
  exact ⟨rfl, hch⟩
end Go.Proofs.YtogkpfdnfjlflaaGreatFmt
