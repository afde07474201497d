/-
  Proved: contract of the css printer's printMediaQuery at a query of one number token. No statement of the seat stands here.
-/
import Derived.Test.YtogkpfdnfjlflaaGreatFmtWrote
namespace Go.Proofs.YtogkpfdnfjlflaaGreatFmt
open Go.RowKit Go.ChangeAt
set_option linter.unusedSimpArgs false
set_option linter.unusedVariables false
/-- A query of one number token t, its parts in blocks g1 and g2 below B that are not the printer's. -/
structure TokAt (B b g1 g2 : Nat) (t : ByteArray) (w : World) : Prop where
  q : w.heap[g1]? = some (.cells #[.slice (some ⟨g2, 0, none⟩) 1 1] 42 (0, 0))
  k : w.heap[g2]? = some (.cells (tokCells t) 39 (0, 0))
  lt1 : g1 < B
  lt2 : g2 < B
  ne1 : g1 ≠ b
  ne2 : g2 ≠ b
theorem TokAt.kept {B b g1 g2 : Nat} {m : Bool} {vo vo' : Option Addr} {out : List UInt8} {t : ByteArray} {w w' : World} (h : TokAt B b g1 g2 t w) (hw : Wrote b vo vo' w w') (hp : Pr B b m vo out w) : TokAt B b g1 g2 t w' :=
  ⟨hw.heap hp h.lt1 h.ne1 h.q, hw.heap hp h.lt2 h.ne2 h.k, h.lt1, h.lt2, h.ne1, h.ne2⟩
def tokQ (g1 : Nat) : Value := .agg #[.int .i32 0, .iface 30 (.pointer (some ⟨g1, 0, none⟩))]
theorem Pr.wrote {B b : Nat} {m : Bool} {vo : Option Addr} {out : List UInt8} {w w' : World} (h : Pr B b m vo out w) (hc : Chg Nowhere w w') : Pr B b m vo out w' := h.kept hc (fun h => h) (fun _ _ h => h)
theorem as30_30 (v : Value) (w : World) : (Instr.typeAssert (.iface 30 v) 44 30 true).run Tryz.prog w = .ok (.tuple #[v, .bool true]) w := by kernel_rfl
set_option maxRecDepth 100000 in
set_option maxHeartbeats 2000000 in
theorem mq_tok (B b g1 g2 : Nat) (m : Bool) (out : List UInt8) (t : ByteArray) (w : World) (vo : Option Addr) (h : Pr B b m vo out w) (hq : TokAt B b g1 g2 t w) (ho : out.length ≤ 140000000000) (ht : t.size ≤ 140000000) :
    Calls Tryz.prog 11 #[.pointer (some ⟨b, 0, none⟩), tokQ g1, .int .u8 1] w (Wrt B b m vo (out ++ t.data.toList) w) := by
  have q0 := cell_of_heap hq.q 0
  simp at q0
  have hB := h.le
  have hg := heap_lt hq.q
  have Hp := Lib.hid h
  have Hq := Lib.hid hq
  clear h hq
  have as1 := as30_30
  unfold tokQ
  go_enter Tryz.func11, Tryz.ntmps11
  go_wp2_with fail
  have hw1 : Wrote b vo vo w (w.alloc (.cells #[.int .i32 0, .iface 30 (.pointer (some ⟨g1, 0, none⟩))] 46)) := (Wrote.refl b vo w).alloc _
  have hp1 := Hp.out.wrote ((Chg.refl Nowhere w).alloc (.cells #[.int .i32 0, .iface 30 (.pointer (some ⟨g1, 0, none⟩))] 46))
  have hq1 := Hq.out.kept hw1 Hp.out
  refine (tokens_w B b g2 m out t _ vo hp1 ho ht hq1.k hq1.lt2 hq1.ne2).mono ?_
  rintro e w2 ⟨r, rfl, vo2, hp2, hw2⟩
  have Hp2 := Lib.hid hp2
  have Hw2 := Lib.hid (hw1.trans hw2)
  clear hp1 hq1 hw1 hp2 hw2
  go_wp2_with fail
  go_end0
  exact ⟨rfl, vo2, Hp2.out, Hw2.out⟩
end Go.Proofs.YtogkpfdnfjlflaaGreatFmt
