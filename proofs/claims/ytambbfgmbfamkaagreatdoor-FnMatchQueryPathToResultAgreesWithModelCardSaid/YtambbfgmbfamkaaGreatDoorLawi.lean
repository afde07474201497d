/-
  Proved: the law's beginning: its bounds, the files that it lays. No statement of the seat stands here.
-/
import Derived.Test.YtambbfgmbfamkaaGreatDoorLawh
import Derived.Deep.RegionWith
namespace Go.Proofs.YtambbfgmbfamkaaGreatDoor
open Go.RowKit Go.ChangeAt
set_option linter.unusedSimpArgs false
set_option linter.unusedVariables false
set_option maxRecDepth 1000000
theorem tail6' (q : ByteArray) (f h u : Nat → ByteArray) (c : Nat → Option Addr × Nat × Nat) (a b y : Option Addr) (n cn m cm p cp g : Nat) (w0 wa : World)
    (hF : Fil wa g n f c) (hg : g < wa.heap.size) (hCb : Con wa w0.heap.size n c) (hch : Chg Nowhere w0 wa) (hR : Reads w0 a n (strAt f)) (hH : Reads w0 b m (strAt h)) (hU : Reads w0 y p (strAt u)) (hn : Small f n) (hm : Small h m) (hp : Small u p) (hrl : ∀ i, i < n → Rel (f i).data.toList) (hq : q.size ≤ 1048576)
    (t : Act) (hd : t.defers = []) (hs : t.tmps.size = 345) (h0 : t.tmps[0]? = some (.string q)) (h1 : t.tmps[1]? = some (.slice a n cn)) (h2 : t.tmps[2]? = some (.slice b m cm)) (h3 : t.tmps[3]? = some (.slice y p cp)) (h9 : t.tmps[9]? = some (.slice (some ⟨g, 0, none⟩) n n)) :
    Code.wp Tryz.prog T6 (bodyPost Tryz.prog Tryz.f3 (LawOut w0)) t wa := by
  obtain ⟨x, rfl⟩ := lit6 t hd hs h0 h1 h2 h3 h9
  exact tail6 q f h u c a b y n cn m cm p cp g w0 wa hF hg hCb hch hR hH hU hn hm hp hrl hq x
def file0 : Array Value := #[.string ⟨#[]⟩, .slice none 0 0, .string ⟨#[]⟩]
theorem info30 : (Tryz.prog.info? 30).map (fun i => (i.zero, i.size, i.bytes)) = some (some (.agg file0), 3, 56) := by kernel_rfl
theorem make26 (n : Nat) (hn : n ≤ 1048576) (W : World) : (Instr.makeSlice 26 (.int .i64 n) (.int .i64 n)).run Tryz.prog W = .ok (.slice (some ⟨W.heap.size, 0, none⟩) n n) (W.alloc (.cells (madeCells file0 (n * 3)) 30)) := by
  obtain ⟨i0, hi, hz0, hz1, hz2⟩ := info_parts' info30
  have h := run_make (P := Tryz.prog) W 26 30 i0 _ Tryz.underlying26 hi hz0 .i64 .i64 n n (by omega) (by omega) (by rw [hz2]; omega) (by omega)
  rw [h, hz1]
  simp [Value.cells, file0]
/-- The first k files are laid in block g. -/
structure FilesTo (w wr : World) (g n k : Nat) (f : Nat → ByteArray) (c : Nat → Option Addr × Nat × Nat) : Prop where
  blk : ∃ cur : Array Value, wr.heap[g]? = some (.cells cur 30 (0, 0)) ∧ cur.size = n * 3 ∧ ∀ i, i < k → cur[i * 3]? = some (.string (outS ++ f i)) ∧ cur[i * 3 + 1]? = some (.slice (c i).1 (c i).2.1 (c i).2.2) ∧ cur[i * 3 + 2]? = some (.string ⟨#[]⟩)
  con : Con wr w.heap.size k c
  chg : Chg Nowhere w wr
  base : w.heap.size ≤ g
  off : ∀ i, i < k → ∀ g' o, (c i).1 = some ⟨g', o, none⟩ → g' ≠ g
theorem FilesTo.start (w : World) (n : Nat) (f : Nat → ByteArray) : FilesTo w (w.alloc (.cells (madeCells file0 (n * 3)) 30)) w.heap.size n 0 f (fun _ => (none, 0, 0)) :=
  ⟨⟨_, heap_alloc_new w _, size_madeCells _ _, fun i hi => by omega⟩, fun i hi => by omega, (Chg.refl _ _).alloc _, Nat.le_refl _, fun i hi => by omega⟩
theorem FilesTo.keep {w wr w' : World} {g n k : Nat} {f : Nat → ByteArray} {c : Nat → Option Addr × Nat × Nat} (h : FilesTo w wr g n k f c) (hc : Chg Nowhere wr w') : FilesTo w w' g n k f c := by
  obtain ⟨cur, b1, b2⟩ := h.blk
  exact ⟨⟨cur, hc.heap b1 (fun h => h), b2⟩, h.con.kept hc (fun _ _ _ h => h), h.chg.trans hc (fun _ _ h => h), h.base, h.off⟩
def st3 (wr : World) (g o : Nat) (a0 a1 a2 : Value) : World := ((wr.setCell ⟨g, o, none⟩ a0).setCell ⟨g, o + 1, none⟩ a1).setCell ⟨g, o + 2, none⟩ a2
theorem st3_chg (wr : World) (g o : Nat) (a0 a1 a2 : Value) : Chg (fun j => j = g) wr (st3 wr g o a0 a1 a2) := by
  unfold st3
  have h : ∀ {W : World} (c : Chg (fun j => j = g) wr W) (q : Nat) (v : Value), Chg (fun j => j = g) wr (W.setCell ⟨g, q, none⟩ v) := fun c q v => c.setCell (p := ⟨g, q, none⟩) (fun _ => rfl) v
  exact h (h (h (Chg.refl _ wr) _ _) _ _) _ _
def upd (c : Nat → Option Addr × Nat × Nat) (k : Nat) (v : Option Addr × Nat × Nat) : Nat → Option Addr × Nat × Nat := fun i => if i = k then v else c i
theorem FilesTo.step {w wr : World} {g n k : Nat} {f : Nat → ByteArray} {c : Nat → Option Addr × Nat × Nat} (h : FilesTo w wr g n k f c) (hk : k < n) (d l cap : Nat) (hl : l = (itoa k).size) (hr : Reads wr (some ⟨d, 0, none⟩) l (byteAt (bt (itoa k)))) (hlc : l ≤ cap) (hcm : cap ≤ 9223372036854775807) (hd : w.heap.size ≤ d) (hdl : d < wr.heap.size) (hdg : d ≠ g) :
    FilesTo w (st3 wr g (k * 3) (.string (outS ++ f k)) (.slice (some ⟨d, 0, none⟩) l cap) (.string ⟨#[]⟩)) g n (k + 1) f (upd c k (some ⟨d, 0, none⟩, l, cap)) := by
  subst hl
  obtain ⟨cur, b1, b2, b3⟩ := h.blk
  have hb : k * 3 + 3 ≤ cur.size := by rw [b2]; have := Nat.mul_le_mul_right 3 (show k + 1 ≤ n by omega); omega
  have hc := st3_chg wr g (k * 3) (.string (outS ++ f k)) (.slice (some ⟨d, 0, none⟩) (itoa k).size cap) (.string ⟨#[]⟩)
  have hbase := h.base
  refine ⟨?_, fun i hi => ?_, h.chg.trans hc (fun j hj e => by omega), h.base, fun i hi g' o e => ?_⟩
  · unfold st3
    have h0 := heap_setCell b1 (k * 3) (.string (outS ++ f k))
    have h1 := heap_setCell h0 (k * 3 + 1) (.slice (some ⟨d, 0, none⟩) (itoa k).size cap)
    have h2 := heap_setCell h1 (k * 3 + 2) (.string ⟨#[]⟩)
    refine ⟨_, h2, by simp [b2], fun i hi => ?_⟩
    by_cases e : i = k
    · subst e
      unfold upd
      rw [if_pos rfl]
      refine ⟨?_, ?_, ?_⟩
      all_goals (
        repeat first
          | rw [Array.getElem?_setIfInBounds_ne (by omega)]
          | rw [Array.getElem?_setIfInBounds_self_of_lt (by first | omega | (simp; omega))])
    · have : i * 3 + 3 ≤ k * 3 := by omega
      unfold upd
      rw [if_neg e]
      refine ⟨?_, ?_, ?_⟩
      all_goals (repeat rw [Array.getElem?_setIfInBounds_ne (by omega)])
      · exact (b3 i (by omega)).1
      · exact (b3 i (by omega)).2.1
      · exact (b3 i (by omega)).2.2
  · by_cases e : i = k
    · subst e
      unfold upd
      rw [if_pos rfl]
      refine ⟨hr.kept hc (fun g' o e => ?_), rfl, hlc, hcm, fun g' o e => ?_⟩
      · injection e with e
        injection e with e1 e2
        subst e1
        exact hdg
      · injection e with e
        injection e with e1 e2
        subst e1
        exact ⟨hd, Nat.lt_of_lt_of_le hdl hc.size⟩
    · unfold upd
      rw [if_neg e]
      obtain ⟨g1, g2, g3, g4, g5⟩ := h.con i (by omega)
      exact ⟨g1.kept hc (fun g' o e => h.off i (by omega) g' o e), g2, g3, g4, fun g' o e => ⟨(g5 g' o e).1, Nat.lt_of_lt_of_le (g5 g' o e).2 hc.size⟩⟩
  · unfold upd at e
    split at e
    · injection e with e
      injection e with e1 e2
      subst e1
      exact hdg
    · exact h.off i (by omega) g' o e
theorem FilesTo.fil {w wr : World} {g n : Nat} {f : Nat → ByteArray} {c : Nat → Option Addr × Nat × Nat} (h : FilesTo w wr g n n f c) : Fil wr g n f c := fun i hi => by
  obtain ⟨cur, b1, b2, b3⟩ := h.blk
  exact ⟨(cell_of_heap b1 _).trans (b3 i hi).1, (cell_of_heap b1 _).trans (b3 i hi).2.1, (cell_of_heap b1 _).trans (b3 i hi).2.2⟩
theorem FilesTo.place {w wr X : World} {g n k : Nat} {f : Nat → ByteArray} {c : Nat → Option Addr × Nat × Nat} (h : FilesTo w wr g n k f c) (hk : k < n) (hc : Chg Nowhere wr X) :
    ∃ v0 v1 v2, X.cell? ⟨g, k * 3, none⟩ = some v0 ∧ X.cell? ⟨g, k * 3 + 1, none⟩ = some v1 ∧ X.cell? ⟨g, k * 3 + 2, none⟩ = some v2 ∧ ∀ j, X.frozen? ⟨g, j, none⟩ = false := by
  obtain ⟨cur, b1, b2, b3⟩ := (h.keep hc).blk
  have hb : k * 3 + 3 ≤ cur.size := by rw [b2]; have := Nat.mul_le_mul_right 3 (show k + 1 ≤ n by omega); omega
  exact ⟨_, _, _, (cell_of_heap b1 (k * 3)).trans (Array.getElem?_eq_getElem (by omega)), (cell_of_heap b1 (k * 3 + 1)).trans (Array.getElem?_eq_getElem (by omega)), (cell_of_heap b1 (k * 3 + 2)).trans (Array.getElem?_eq_getElem (by omega)), fun j => frozen_of_heap b1 j⟩
/-- []byte(s) at any world. -/
theorem conv_any (s : ByteArray) (hs : s.size ≤ 1048576) : ∃ (cc : World → Nat) (cw : World → World), ∀ W, (convert 9 27 (.string s)).run Tryz.prog W = .ok (.slice (some ⟨W.heap.size, 0, none⟩) s.size (cc W)) (cw W) ∧ s.size ≤ cc W ∧ cc W ≤ 9223372036854775807 ∧ Chg Nowhere W (cw W) ∧ (cw W).heap.size = W.heap.size + 1 ∧ Reads (cw W) (some ⟨W.heap.size, 0, none⟩) s.size (byteAt (bt s)) := by
  have h := fun W => conv_new s hs W
  refine ⟨fun W => (h W).choose, fun W => (h W).choose_spec.choose, fun W => ?_⟩
  exact (h W).choose_spec.choose_spec
end Go.Proofs.YtambbfgmbfamkaaGreatDoor
