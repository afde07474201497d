/-
  Proved: contract of sniffSignatures: what lies in the table that it makes. No statement of the seat stands here.
-/
import Derived.Test.YtflpmhjfchpplaaDoorRow
import Derived.Deep.DeepCutAuto
namespace Go.Proofs.YtflpmhjfchpplaaDoor
open Go.RowKit Go.ChangeAt
set_option linter.unusedSimpArgs false
set_option linter.unusedVariables false
set_option maxRecDepth 1000000
def slotL : List Nat := [3, 6, 9, 12, 15, 18, 21, 24, 27, 30, 33, 36, 39, 42, 45, 48, 51, 58, 63, 68, 75, 82, 89, 94, 99, 104, 109, 114, 121, 126, 131, 138, 145, 152, 159, 166, 173, 175, 180, 187, 192, 197, 202, 207, 212, 217, 222, 227, 232, 237, 239]
def slot (i : Nat) : Nat := slotL.getD i 0
/-- The first k signatures stand in their slots. -/
structure Inv (w0 w : World) (a : Act) (k : Nat) : Prop where
  size : a.tmps.size = 241
  dfr : a.defers = []
  chg : Chg Nowhere w0 w
  sig : ∀ i, i < k → ∃ s, Sn.sigs[i]? = some s ∧ SigAt w (a.eval (.tmp (slot i))) s
/-- One more. -/
theorem Inv.step {w0 w w' : World} {a a' : Act} {k : Nat} (h : Inv w0 w a k) (hs : a'.tmps.size = a.tmps.size) (hd : a'.defers = a.defers) (hc : Chg Nowhere w w') (he : ∀ i, i < k → a'.eval (.tmp (slot i)) = a.eval (.tmp (slot i)))
    (s : Sn.Sig) (h1 : Sn.sigs[k]? = some s) (h2 : SigAt w' (a'.eval (.tmp (slot k))) s) : Inv w0 w' a' (k + 1) := by
  refine ⟨hs.trans h.size, hd.trans h.dfr, h.chg.trans hc (fun _ _ h => h), fun i hi => ?_⟩
  by_cases e : i = k
  · subst e; exact ⟨s, h1, h2⟩
  · obtain ⟨s', h3, h4⟩ := h.sig i (by omega)
    exact ⟨s', h3, by rw [he i (by omega)]; exact h4.keep hc⟩
section
variable {ops : Array Oper} {rest : List Oper} {Q : Exit → Act → World → Prop} {w0 : World}
/-- A row of bytes laid by the operation o1, marked by o2. -/
def Lays (o1 o2 : Oper) (t : TypeId) (k1 k2 : Nat) (l : List UInt8) : Prop :=
  o1.guard = none ∧ o2.guard = none ∧ o1.dst = some k1 ∧ o2.dst = some k2 ∧ o2.op = .convert t t (.tmp k1) ∧
    ∀ (a : Act) (W : World), (execOp a.eval o1).run Tryd.prog W = .ok (.value (.slice (some ⟨W.heap.size, 0, none⟩) l.length l.length)) (W.alloc (.cells (cellsOf l) 5))
/-- a' is a with v in slot k. -/
structure Upd (a a' : Act) (k : Nat) (v : Value) : Prop where
  size : a'.tmps.size = a.tmps.size
  dfr : a'.defers = a.defers
  at_ : a'.eval (.tmp k) = v
  off : ∀ j, k ≠ j → a'.eval (.tmp j) = a.eval (.tmp j)
theorem wpList_upd {a : Act} {w w1 : World} {o : Oper} {v : Value} (k : Nat) (hg : o.guard = none) (hd : o.dst = some k) (hk : k < a.tmps.size) (hr : (execOp a.eval o).run Tryd.prog w = .ok (.value v) w1)
    (h : ∀ a', Upd a a' k v → wpList Tryd.prog ops Q rest a' w1) : wpList Tryd.prog ops Q (o :: rest) a w := by
  refine wpList_val hg hr ?_
  rw [hd]
  exact h _ ⟨size_put a k v, rfl, eval_put_same a k v hk, fun j hj => eval_put_other a k j v hj⟩
theorem wpList_lays {a : Act} {w : World} {o1 o2 : Oper} {t k1 k2 : Nat} {l : List UInt8} (h : Lays o1 o2 t k1 k2 l) (ht : Tryd.prog.underlying t = some (.slice 5)) (hk : k1 < k2 ∧ k2 < a.tmps.size)
    (hr : ∀ a', a'.tmps.size = a.tmps.size → a'.defers = a.defers → a'.eval (.tmp k2) = .slice (some ⟨w.heap.size, 0, none⟩) l.length l.length → (∀ j, k1 ≠ j → k2 ≠ j → a'.eval (.tmp j) = a.eval (.tmp j)) → wpList Tryd.prog ops Q rest a' (w.alloc (.cells (cellsOf l) 5 (l.length, l.length + 1)))) :
    wpList Tryd.prog ops Q (o1 :: o2 :: rest) a w := by
  obtain ⟨g1, g2, d1, d2, c2, b1⟩ := h
  refine wpList_upd k1 g1 d1 (by omega) (b1 a w) fun a1 u1 => ?_
  have hr2 := Lib.run_convert_bytes_const (P := Tryd.prog) w t 5 (cellsOf l) l.length l.length ht Tryd.underlying5
  rw [cellsOf_size] at hr2
  refine wpList_upd (v := .slice (some ⟨w.heap.size, 0, none⟩) l.length l.length) (w1 := w.alloc (.cells (cellsOf l) 5 (l.length, l.length + 1))) k2 g2 d2 (by rw [u1.size]; omega) ?_ fun a2 u2 => ?_
  · unfold execOp
    simp only [c2, u1.at_, hr2, Sem.run_bind, Sem.run_pure, Result.andThen_ok]
  · exact hr a2 (u2.size.trans u1.size) (u2.dfr.trans u1.dfr) u2.at_ fun j h1 h2 => (u2.off j h2).trans (u1.off j h1)
theorem step_html {a : Act} {w : World} {k : Nat} {o1 o2 o3 : Oper} (hI : Inv w0 w a k) (l : List UInt8) (k1 k2 k3 : Nat) (h1 : Lays o1 o2 50 k1 k2 l) (hs : Sn.sigs[k]? = some (.html l)) (hd : ∀ i, i < k → slot i < k1)
    (hk : k1 < k2 ∧ k2 < k3 ∧ k3 < 241) (e3 : slot k = k3) (g3 : o3.guard = none) (d3 : o3.dst = some k3) (i3 : o3.op = .makeInterface 50 (.tmp k2))
    (h : ∀ a' w', Inv w0 w' a' (k + 1) → wpList Tryd.prog ops Q rest a' w') : wpList Tryd.prog ops Q (o1 :: o2 :: o3 :: rest) a w := by
  have hz := hI.size
  refine wpList_lays h1 Tryd.underlying50 (by omega) fun a2 z2 f2 v2 off2 => ?_
  refine wpList_upd (v := .iface 50 (.slice (some ⟨w.heap.size, 0, none⟩) l.length l.length)) (w1 := w.alloc (.cells (cellsOf l) 5 (l.length, l.length + 1))) k3 g3 d3 (by omega) ?_ fun a3 u3 => ?_
  · unfold execOp
    simp only [i3, v2, mk50, Sem.run_bind, Sem.run_pure, Result.andThen_ok]
  · refine h _ _ (hI.step (u3.size.trans z2) (u3.dfr.trans f2) ((Chg.refl _ w).alloc _) (fun i hi => ?_) _ hs ?_)
    · have := hd i hi
      rw [u3.off _ (by omega), off2 _ (by omega) (by omega)]
    · rw [e3, u3.at_]
      exact ⟨_, rfl, cel_new w l _⟩
theorem step_exact {a : Act} {w : World} {k : Nat} {o1 o2 o3 o4 o5 : Oper} (hI : Inv w0 w a k) (l ct : List UInt8) (k1 k2 k3 k4 k5 : Nat) (h1 : Lays o1 o2 28 k1 k2 l) (hs : Sn.sigs[k]? = some (.exact l ct)) (hd : ∀ i, i < k → slot i < k1)
    (hk : k1 < k2 ∧ k2 < k3 ∧ k3 < k4 ∧ k4 < k5 ∧ k5 < 241) (e3 : slot k = k5) (g3 : o3.guard = none) (g4 : o4.guard = none) (g5 : o5.guard = none) (d3 : o3.dst = some k3) (d4 : o4.dst = some k4) (d5 : o5.dst = some k5)
    (b3 : o3.op = .build 56 #[(0, .tmp k2), (1, .const (.string (strB ct)))]) (b4 : o4.op = .box 56 (.tmp k3)) (b5 : o5.op = .makeInterface 54 (.tmp k4))
    (h : ∀ a' w', Inv w0 w' a' (k + 1) → wpList Tryd.prog ops Q rest a' w') : wpList Tryd.prog ops Q (o1 :: o2 :: o3 :: o4 :: o5 :: rest) a w := by
  have hz := hI.size
  have hsz : (w.alloc (.cells (cellsOf l) 5 (l.length, l.length + 1))).heap.size = w.heap.size + 1 := by simp
  refine wpList_lays h1 Tryd.underlying28 (by omega) fun a2 z2 f2 v2 off2 => ?_
  refine wpList_upd (v := .agg #[.slice (some ⟨w.heap.size, 0, none⟩) l.length l.length, .string (strB ct)]) (w1 := w.alloc (.cells (cellsOf l) 5 (l.length, l.length + 1))) k3 g3 d3 (by omega) ?_ fun a3 u3 => ?_
  · unfold execOp
    simp only [b3, List.map_toArray, List.map_cons, List.map_nil, v2, show ∀ (a : Act) v, a.eval (.const v) = v from fun _ _ => rfl, bld56, Sem.run_bind, Sem.run_pure, Result.andThen_ok]
  refine wpList_upd (v := .pointer (some ⟨w.heap.size + 1, 0, none⟩)) (w1 := (w.alloc (.cells (cellsOf l) 5 (l.length, l.length + 1))).alloc (.cells #[.slice (some ⟨w.heap.size, 0, none⟩) l.length l.length, .string (strB ct)] 56)) k4 g4 d4 (by rw [u3.size]; omega) ?_ fun a4 u4 => ?_
  · unfold execOp
    have hb := box56 (some ⟨w.heap.size, 0, none⟩) l.length l.length (strB ct) (w.alloc (.cells (cellsOf l) 5 (l.length, l.length + 1)))
    rw [hsz] at hb
    simp only [b4, u3.at_, hb, Sem.run_bind, Sem.run_pure, Result.andThen_ok]
  refine wpList_upd (v := .iface 54 (.pointer (some ⟨w.heap.size + 1, 0, none⟩))) (w1 := (w.alloc (.cells (cellsOf l) 5 (l.length, l.length + 1))).alloc (.cells #[.slice (some ⟨w.heap.size, 0, none⟩) l.length l.length, .string (strB ct)] 56)) k5 g5 d5 (by rw [u4.size, u3.size]; omega) ?_ fun a5 u5 => ?_
  · unfold execOp
    simp only [b5, u4.at_, mk54, Sem.run_bind, Sem.run_pure, Result.andThen_ok]
  refine h _ _ (hI.step (u5.size.trans (u4.size.trans (u3.size.trans z2))) (u5.dfr.trans (u4.dfr.trans (u3.dfr.trans f2))) (((Chg.refl _ w).alloc _).alloc _) (fun i hi => ?_) _ hs ?_)
  · have := hd i hi
    rw [u5.off _ (by omega), u4.off _ (by omega), u3.off _ (by omega), off2 _ (by omega) (by omega)]
  · rw [e3, u5.at_]
    refine ⟨_, _, rfl, ?_, (cel_new w l (l.length, l.length + 1)).keep ((Chg.refl _ _).alloc _)⟩
    have := heap_alloc_new (w.alloc (.cells (cellsOf l) 5 (l.length, l.length + 1))) (.cells #[.slice (some ⟨w.heap.size, 0, none⟩) l.length l.length, .string (strB ct)] 56)
    rw [hsz] at this
    exact this
theorem step_masked {a : Act} {w : World} {k : Nat} {o1 o2 o3 o4 o5 o6 o7 : Oper} (hI : Inv w0 w a k) (m q ct : List UInt8) (k1 k2 k3 k4 k5 k6 k7 : Nat) (h1 : Lays o1 o2 28 k1 k2 m) (h2 : Lays o3 o4 28 k3 k4 q) (hs : Sn.sigs[k]? = some (.masked m q false ct)) (hd : ∀ i, i < k → slot i < k1)
    (hk : k1 < k2 ∧ k2 < k3 ∧ k3 < k4 ∧ k4 < k5 ∧ k5 < k6 ∧ k6 < k7 ∧ k7 < 241) (e3 : slot k = k7) (g5 : o5.guard = none) (g6 : o6.guard = none) (g7 : o7.guard = none) (d5 : o5.dst = some k5) (d6 : o6.dst = some k6) (d7 : o7.dst = some k7)
    (b5 : o5.op = .build 53 #[(0, .tmp k2), (1, .tmp k4), (3, .const (.string (strB ct)))]) (b6 : o6.op = .box 53 (.tmp k5)) (b7 : o7.op = .makeInterface 51 (.tmp k6))
    (h : ∀ a' w', Inv w0 w' a' (k + 1) → wpList Tryd.prog ops Q rest a' w') : wpList Tryd.prog ops Q (o1 :: o2 :: o3 :: o4 :: o5 :: o6 :: o7 :: rest) a w := by
  have hz := hI.size
  have hsz : (w.alloc (.cells (cellsOf m) 5 (m.length, m.length + 1))).heap.size = w.heap.size + 1 := by simp
  have hsz2 : ((w.alloc (.cells (cellsOf m) 5 (m.length, m.length + 1))).alloc (.cells (cellsOf q) 5 (q.length, q.length + 1))).heap.size = w.heap.size + 1 + 1 := by simp
  refine wpList_lays h1 Tryd.underlying28 (by omega) fun a2 z2 f2 v2 off2 => ?_
  refine wpList_lays h2 Tryd.underlying28 (by omega) fun a4 z4 f4 v4 off4 => ?_
  rw [hsz] at v4
  have v2' := (off4 k2 (by omega) (by omega)).trans v2
  refine wpList_upd (v := .agg #[.slice (some ⟨w.heap.size, 0, none⟩) m.length m.length, .slice (some ⟨w.heap.size + 1, 0, none⟩) q.length q.length, .bool false, .string (strB ct)]) (w1 := ((w.alloc (.cells (cellsOf m) 5 (m.length, m.length + 1))).alloc (.cells (cellsOf q) 5 (q.length, q.length + 1)))) k5 g5 d5 (by omega) ?_ fun a5 u5 => ?_
  · unfold execOp
    simp only [b5, List.map_toArray, List.map_cons, List.map_nil, v4, v2', show ∀ (a : Act) v, a.eval (.const v) = v from fun _ _ => rfl, bld53', Sem.run_bind, Sem.run_pure, Result.andThen_ok]
  refine wpList_upd (v := .pointer (some ⟨w.heap.size + 1 + 1, 0, none⟩)) (w1 := ((w.alloc (.cells (cellsOf m) 5 (m.length, m.length + 1))).alloc (.cells (cellsOf q) 5 (q.length, q.length + 1))).alloc (.cells #[.slice (some ⟨w.heap.size, 0, none⟩) m.length m.length, .slice (some ⟨w.heap.size + 1, 0, none⟩) q.length q.length, .bool false, .string (strB ct)] 53)) k6 g6 d6 (by rw [u5.size]; omega) ?_ fun a6 u6 => ?_
  · unfold execOp
    have hb := box53 (some ⟨w.heap.size, 0, none⟩) (some ⟨w.heap.size + 1, 0, none⟩) m.length m.length q.length q.length false (strB ct) ((w.alloc (.cells (cellsOf m) 5 (m.length, m.length + 1))).alloc (.cells (cellsOf q) 5 (q.length, q.length + 1)))
    rw [hsz2] at hb
    simp only [b6, u5.at_, hb, Sem.run_bind, Sem.run_pure, Result.andThen_ok]
  refine wpList_upd (v := .iface 51 (.pointer (some ⟨w.heap.size + 1 + 1, 0, none⟩))) (w1 := ((w.alloc (.cells (cellsOf m) 5 (m.length, m.length + 1))).alloc (.cells (cellsOf q) 5 (q.length, q.length + 1))).alloc (.cells #[.slice (some ⟨w.heap.size, 0, none⟩) m.length m.length, .slice (some ⟨w.heap.size + 1, 0, none⟩) q.length q.length, .bool false, .string (strB ct)] 53)) k7 g7 d7 (by rw [u6.size, u5.size]; omega) ?_ fun a7 u7 => ?_
  · unfold execOp
    simp only [b7, u6.at_, mk51, Sem.run_bind, Sem.run_pure, Result.andThen_ok]
  refine h _ _ (hI.step (u7.size.trans (u6.size.trans (u5.size.trans (z4.trans z2)))) (u7.dfr.trans (u6.dfr.trans (u5.dfr.trans (f4.trans f2)))) ((((Chg.refl _ w).alloc _).alloc _).alloc _) (fun i hi => ?_) _ hs ?_)
  · have := hd i hi
    rw [u7.off _ (by omega), u6.off _ (by omega), u5.off _ (by omega), off4 _ (by omega) (by omega), off2 _ (by omega) (by omega)]
  · rw [e3, u7.at_]
    have c1 := (cel_new w m (m.length, m.length + 1)).keep (((Chg.refl Nowhere _).alloc (.cells (cellsOf q) 5 (q.length, q.length + 1))).alloc (.cells #[.slice (some ⟨w.heap.size, 0, none⟩) m.length m.length, .slice (some ⟨w.heap.size + 1, 0, none⟩) q.length q.length, .bool false, .string (strB ct)] 53))
    have c2 := (cel_new (w.alloc (.cells (cellsOf m) 5 (m.length, m.length + 1))) q (q.length, q.length + 1)).keep ((Chg.refl Nowhere _).alloc (.cells #[.slice (some ⟨w.heap.size, 0, none⟩) m.length m.length, .slice (some ⟨w.heap.size + 1, 0, none⟩) q.length q.length, .bool false, .string (strB ct)] 53))
    rw [hsz] at c2
    have c3 := heap_alloc_new ((w.alloc (.cells (cellsOf m) 5 (m.length, m.length + 1))).alloc (.cells (cellsOf q) 5 (q.length, q.length + 1))) (.cells #[.slice (some ⟨w.heap.size, 0, none⟩) m.length m.length, .slice (some ⟨w.heap.size + 1, 0, none⟩) q.length q.length, .bool false, .string (strB ct)] 53)
    rw [hsz2] at c3
    exact ⟨_, _, _, rfl, c3, c1, c2⟩
theorem step_maskedT {a : Act} {w : World} {k : Nat} {o1 o2 o3 o4 o5 o6 o7 : Oper} (hI : Inv w0 w a k) (m q ct : List UInt8) (k1 k2 k3 k4 k5 k6 k7 : Nat) (h1 : Lays o1 o2 28 k1 k2 m) (h2 : Lays o3 o4 28 k3 k4 q) (hs : Sn.sigs[k]? = some (.masked m q true ct)) (hd : ∀ i, i < k → slot i < k1)
    (hk : k1 < k2 ∧ k2 < k3 ∧ k3 < k4 ∧ k4 < k5 ∧ k5 < k6 ∧ k6 < k7 ∧ k7 < 241) (e3 : slot k = k7) (g5 : o5.guard = none) (g6 : o6.guard = none) (g7 : o7.guard = none) (d5 : o5.dst = some k5) (d6 : o6.dst = some k6) (d7 : o7.dst = some k7)
    (b5 : o5.op = .build 53 #[(0, .tmp k2), (1, .tmp k4), (2, .const (.bool true)), (3, .const (.string (strB ct)))]) (b6 : o6.op = .box 53 (.tmp k5)) (b7 : o7.op = .makeInterface 51 (.tmp k6))
    (h : ∀ a' w', Inv w0 w' a' (k + 1) → wpList Tryd.prog ops Q rest a' w') : wpList Tryd.prog ops Q (o1 :: o2 :: o3 :: o4 :: o5 :: o6 :: o7 :: rest) a w := by
  have hz := hI.size
  have hsz : (w.alloc (.cells (cellsOf m) 5 (m.length, m.length + 1))).heap.size = w.heap.size + 1 := by simp
  have hsz2 : ((w.alloc (.cells (cellsOf m) 5 (m.length, m.length + 1))).alloc (.cells (cellsOf q) 5 (q.length, q.length + 1))).heap.size = w.heap.size + 1 + 1 := by simp
  refine wpList_lays h1 Tryd.underlying28 (by omega) fun a2 z2 f2 v2 off2 => ?_
  refine wpList_lays h2 Tryd.underlying28 (by omega) fun a4 z4 f4 v4 off4 => ?_
  rw [hsz] at v4
  have v2' := (off4 k2 (by omega) (by omega)).trans v2
  refine wpList_upd (v := .agg #[.slice (some ⟨w.heap.size, 0, none⟩) m.length m.length, .slice (some ⟨w.heap.size + 1, 0, none⟩) q.length q.length, .bool true, .string (strB ct)]) (w1 := ((w.alloc (.cells (cellsOf m) 5 (m.length, m.length + 1))).alloc (.cells (cellsOf q) 5 (q.length, q.length + 1)))) k5 g5 d5 (by omega) ?_ fun a5 u5 => ?_
  · unfold execOp
    simp only [b5, List.map_toArray, List.map_cons, List.map_nil, v4, v2', show ∀ (a : Act) v, a.eval (.const v) = v from fun _ _ => rfl, bld53, Sem.run_bind, Sem.run_pure, Result.andThen_ok]
  refine wpList_upd (v := .pointer (some ⟨w.heap.size + 1 + 1, 0, none⟩)) (w1 := ((w.alloc (.cells (cellsOf m) 5 (m.length, m.length + 1))).alloc (.cells (cellsOf q) 5 (q.length, q.length + 1))).alloc (.cells #[.slice (some ⟨w.heap.size, 0, none⟩) m.length m.length, .slice (some ⟨w.heap.size + 1, 0, none⟩) q.length q.length, .bool true, .string (strB ct)] 53)) k6 g6 d6 (by rw [u5.size]; omega) ?_ fun a6 u6 => ?_
  · unfold execOp
    have hb := box53 (some ⟨w.heap.size, 0, none⟩) (some ⟨w.heap.size + 1, 0, none⟩) m.length m.length q.length q.length true (strB ct) ((w.alloc (.cells (cellsOf m) 5 (m.length, m.length + 1))).alloc (.cells (cellsOf q) 5 (q.length, q.length + 1)))
    rw [hsz2] at hb
    simp only [b6, u5.at_, hb, Sem.run_bind, Sem.run_pure, Result.andThen_ok]
  refine wpList_upd (v := .iface 51 (.pointer (some ⟨w.heap.size + 1 + 1, 0, none⟩))) (w1 := ((w.alloc (.cells (cellsOf m) 5 (m.length, m.length + 1))).alloc (.cells (cellsOf q) 5 (q.length, q.length + 1))).alloc (.cells #[.slice (some ⟨w.heap.size, 0, none⟩) m.length m.length, .slice (some ⟨w.heap.size + 1, 0, none⟩) q.length q.length, .bool true, .string (strB ct)] 53)) k7 g7 d7 (by rw [u6.size, u5.size]; omega) ?_ fun a7 u7 => ?_
  · unfold execOp
    simp only [b7, u6.at_, mk51, Sem.run_bind, Sem.run_pure, Result.andThen_ok]
  refine h _ _ (hI.step (u7.size.trans (u6.size.trans (u5.size.trans (z4.trans z2)))) (u7.dfr.trans (u6.dfr.trans (u5.dfr.trans (f4.trans f2)))) ((((Chg.refl _ w).alloc _).alloc _).alloc _) (fun i hi => ?_) _ hs ?_)
  · have := hd i hi
    rw [u7.off _ (by omega), u6.off _ (by omega), u5.off _ (by omega), off4 _ (by omega) (by omega), off2 _ (by omega) (by omega)]
  · rw [e3, u7.at_]
    have c1 := (cel_new w m (m.length, m.length + 1)).keep (((Chg.refl Nowhere _).alloc (.cells (cellsOf q) 5 (q.length, q.length + 1))).alloc (.cells #[.slice (some ⟨w.heap.size, 0, none⟩) m.length m.length, .slice (some ⟨w.heap.size + 1, 0, none⟩) q.length q.length, .bool true, .string (strB ct)] 53))
    have c2 := (cel_new (w.alloc (.cells (cellsOf m) 5 (m.length, m.length + 1))) q (q.length, q.length + 1)).keep ((Chg.refl Nowhere _).alloc (.cells #[.slice (some ⟨w.heap.size, 0, none⟩) m.length m.length, .slice (some ⟨w.heap.size + 1, 0, none⟩) q.length q.length, .bool true, .string (strB ct)] 53))
    rw [hsz] at c2
    have c3 := heap_alloc_new ((w.alloc (.cells (cellsOf m) 5 (m.length, m.length + 1))).alloc (.cells (cellsOf q) 5 (q.length, q.length + 1))) (.cells #[.slice (some ⟨w.heap.size, 0, none⟩) m.length m.length, .slice (some ⟨w.heap.size + 1, 0, none⟩) q.length q.length, .bool true, .string (strB ct)] 53)
    rw [hsz2] at c3
    exact ⟨_, _, _, rfl, c3, c1, c2⟩
theorem step_maskedS {a : Act} {w : World} {k : Nat} {o1 o2 o3 o4 o5 o6 o7 : Oper} (hI : Inv w0 w a k) (m q ct : List UInt8) (k1 k2 k3 k4 k5 k6 k7 : Nat) (h1 : Lays o1 o2 28 k1 k2 q) (h2 : Lays o3 o4 28 k3 k4 m) (hs : Sn.sigs[k]? = some (.masked m q false ct)) (hd : ∀ i, i < k → slot i < k1)
    (hk : k1 < k2 ∧ k2 < k3 ∧ k3 < k4 ∧ k4 < k5 ∧ k5 < k6 ∧ k6 < k7 ∧ k7 < 241) (e3 : slot k = k7) (g5 : o5.guard = none) (g6 : o6.guard = none) (g7 : o7.guard = none) (d5 : o5.dst = some k5) (d6 : o6.dst = some k6) (d7 : o7.dst = some k7)
    (b5 : o5.op = .build 53 #[(1, .tmp k2), (0, .tmp k4), (3, .const (.string (strB ct)))]) (b6 : o6.op = .box 53 (.tmp k5)) (b7 : o7.op = .makeInterface 51 (.tmp k6))
    (h : ∀ a' w', Inv w0 w' a' (k + 1) → wpList Tryd.prog ops Q rest a' w') : wpList Tryd.prog ops Q (o1 :: o2 :: o3 :: o4 :: o5 :: o6 :: o7 :: rest) a w := by
  have hz := hI.size
  have hsz : (w.alloc (.cells (cellsOf q) 5 (q.length, q.length + 1))).heap.size = w.heap.size + 1 := by simp
  have hsz2 : ((w.alloc (.cells (cellsOf q) 5 (q.length, q.length + 1))).alloc (.cells (cellsOf m) 5 (m.length, m.length + 1))).heap.size = w.heap.size + 1 + 1 := by simp
  refine wpList_lays h1 Tryd.underlying28 (by omega) fun a2 z2 f2 v2 off2 => ?_
  refine wpList_lays h2 Tryd.underlying28 (by omega) fun a4 z4 f4 v4 off4 => ?_
  rw [hsz] at v4
  have v2' := (off4 k2 (by omega) (by omega)).trans v2
  refine wpList_upd (v := .agg #[.slice (some ⟨w.heap.size + 1, 0, none⟩) m.length m.length, .slice (some ⟨w.heap.size, 0, none⟩) q.length q.length, .bool false, .string (strB ct)]) (w1 := ((w.alloc (.cells (cellsOf q) 5 (q.length, q.length + 1))).alloc (.cells (cellsOf m) 5 (m.length, m.length + 1)))) k5 g5 d5 (by omega) ?_ fun a5 u5 => ?_
  · unfold execOp
    simp only [b5, List.map_toArray, List.map_cons, List.map_nil, v4, v2', show ∀ (a : Act) v, a.eval (.const v) = v from fun _ _ => rfl, bld53s, Sem.run_bind, Sem.run_pure, Result.andThen_ok]
  refine wpList_upd (v := .pointer (some ⟨w.heap.size + 1 + 1, 0, none⟩)) (w1 := ((w.alloc (.cells (cellsOf q) 5 (q.length, q.length + 1))).alloc (.cells (cellsOf m) 5 (m.length, m.length + 1))).alloc (.cells #[.slice (some ⟨w.heap.size + 1, 0, none⟩) m.length m.length, .slice (some ⟨w.heap.size, 0, none⟩) q.length q.length, .bool false, .string (strB ct)] 53)) k6 g6 d6 (by rw [u5.size]; omega) ?_ fun a6 u6 => ?_
  · unfold execOp
    have hb := box53 (some ⟨w.heap.size + 1, 0, none⟩) (some ⟨w.heap.size, 0, none⟩) m.length m.length q.length q.length false (strB ct) ((w.alloc (.cells (cellsOf q) 5 (q.length, q.length + 1))).alloc (.cells (cellsOf m) 5 (m.length, m.length + 1)))
    rw [hsz2] at hb
    simp only [b6, u5.at_, hb, Sem.run_bind, Sem.run_pure, Result.andThen_ok]
  refine wpList_upd (v := .iface 51 (.pointer (some ⟨w.heap.size + 1 + 1, 0, none⟩))) (w1 := ((w.alloc (.cells (cellsOf q) 5 (q.length, q.length + 1))).alloc (.cells (cellsOf m) 5 (m.length, m.length + 1))).alloc (.cells #[.slice (some ⟨w.heap.size + 1, 0, none⟩) m.length m.length, .slice (some ⟨w.heap.size, 0, none⟩) q.length q.length, .bool false, .string (strB ct)] 53)) k7 g7 d7 (by rw [u6.size, u5.size]; omega) ?_ fun a7 u7 => ?_
  · unfold execOp
    simp only [b7, u6.at_, mk51, Sem.run_bind, Sem.run_pure, Result.andThen_ok]
  refine h _ _ (hI.step (u7.size.trans (u6.size.trans (u5.size.trans (z4.trans z2)))) (u7.dfr.trans (u6.dfr.trans (u5.dfr.trans (f4.trans f2)))) ((((Chg.refl _ w).alloc _).alloc _).alloc _) (fun i hi => ?_) _ hs ?_)
  · have := hd i hi
    rw [u7.off _ (by omega), u6.off _ (by omega), u5.off _ (by omega), off4 _ (by omega) (by omega), off2 _ (by omega) (by omega)]
  · rw [e3, u7.at_]
    have c1 := (cel_new w q (q.length, q.length + 1)).keep (((Chg.refl Nowhere _).alloc (.cells (cellsOf m) 5 (m.length, m.length + 1))).alloc (.cells #[.slice (some ⟨w.heap.size + 1, 0, none⟩) m.length m.length, .slice (some ⟨w.heap.size, 0, none⟩) q.length q.length, .bool false, .string (strB ct)] 53))
    have c2 := (cel_new (w.alloc (.cells (cellsOf q) 5 (q.length, q.length + 1))) m (m.length, m.length + 1)).keep ((Chg.refl Nowhere _).alloc (.cells #[.slice (some ⟨w.heap.size + 1, 0, none⟩) m.length m.length, .slice (some ⟨w.heap.size, 0, none⟩) q.length q.length, .bool false, .string (strB ct)] 53))
    rw [hsz] at c2
    have c3 := heap_alloc_new ((w.alloc (.cells (cellsOf q) 5 (q.length, q.length + 1))).alloc (.cells (cellsOf m) 5 (m.length, m.length + 1))) (.cells #[.slice (some ⟨w.heap.size + 1, 0, none⟩) m.length m.length, .slice (some ⟨w.heap.size, 0, none⟩) q.length q.length, .bool false, .string (strB ct)] 53)
    rw [hsz2] at c3
    exact ⟨_, _, _, rfl, c3, c2, c1⟩
theorem step_mp4 {a : Act} {w : World} {k : Nat} {o1 o2 : Oper} (hI : Inv w0 w a k) (k1 k2 : Nat) (hs : Sn.sigs[k]? = some .mp4) (hd : ∀ i, i < k → slot i < k1) (hk : k1 < k2 ∧ k2 < 241) (e3 : slot k = k2) (g1 : o1.guard = none) (g2 : o2.guard = none) (d1 : o1.dst = some k1) (d2 : o2.dst = some k2)
    (b1 : o1.op = .build 58 #[]) (b2 : o2.op = .makeInterface 58 (.tmp k1))
    (h : ∀ a' w', Inv w0 w' a' (k + 1) → wpList Tryd.prog ops Q rest a' w') : wpList Tryd.prog ops Q (o1 :: o2 :: rest) a w := by
  have hz := hI.size
  refine wpList_upd (v := .agg #[]) (w1 := w) k1 g1 d1 (by omega) ?_ fun a1 u1 => ?_
  · unfold execOp
    simp only [b1, List.map_toArray, List.map_nil, bld58, Sem.run_bind, Sem.run_pure, Result.andThen_ok]
  refine wpList_upd (v := .iface 58 (.agg #[])) (w1 := w) k2 g2 d2 (by rw [u1.size]; omega) ?_ fun a2 u2 => ?_
  · unfold execOp
    simp only [b2, u1.at_, mk58, Sem.run_bind, Sem.run_pure, Result.andThen_ok]
  refine h _ _ (hI.step (u2.size.trans u1.size) (u2.dfr.trans u1.dfr) (Chg.refl _ _) (fun i hi => ?_) _ hs ?_)
  · have := hd i hi
    rw [u2.off _ (by omega), u1.off _ (by omega)]
  · rw [e3, u2.at_]
    exact rfl
theorem step_text {a : Act} {w : World} {k : Nat} {o1 o2 : Oper} (hI : Inv w0 w a k) (k1 k2 : Nat) (hs : Sn.sigs[k]? = some .text) (hd : ∀ i, i < k → slot i < k1) (hk : k1 < k2 ∧ k2 < 241) (e3 : slot k = k2) (g1 : o1.guard = none) (g2 : o2.guard = none) (d1 : o1.dst = some k1) (d2 : o2.dst = some k2)
    (b1 : o1.op = .build 59 #[]) (b2 : o2.op = .makeInterface 59 (.tmp k1))
    (h : ∀ a' w', Inv w0 w' a' (k + 1) → wpList Tryd.prog ops Q rest a' w') : wpList Tryd.prog ops Q (o1 :: o2 :: rest) a w := by
  have hz := hI.size
  refine wpList_upd (v := .agg #[]) (w1 := w) k1 g1 d1 (by omega) ?_ fun a1 u1 => ?_
  · unfold execOp
    simp only [b1, List.map_toArray, List.map_nil, bld59, Sem.run_bind, Sem.run_pure, Result.andThen_ok]
  refine wpList_upd (v := .iface 59 (.agg #[])) (w1 := w) k2 g2 d2 (by rw [u1.size]; omega) ?_ fun a2 u2 => ?_
  · unfold execOp
    simp only [b2, u1.at_, mk59, Sem.run_bind, Sem.run_pure, Result.andThen_ok]
  refine h _ _ (hI.step (u2.size.trans u1.size) (u2.dfr.trans u1.dfr) (Chg.refl _ _) (fun i hi => ?_) _ hs ?_)
  · have := hd i hi
    rw [u2.off _ (by omega), u1.off _ (by omega)]
  · rw [e3, u2.at_]
    exact rfl
end
/-- A table of the signatures. -/
def TabAt (w : World) (g : Nat) : Prop := ∀ i, i < 51 → ∃ v s, w.cell? ⟨g, i, none⟩ = some v ∧ Sn.sigs[i]? = some s ∧ SigAt w v s
theorem TabAt.keep {w w' : World} {g : Nat} (h : TabAt w g) (hc : Chg Nowhere w w') : TabAt w' g := fun i hi => by
  obtain ⟨v, s, h1, h2, h3⟩ := h i hi
  exact ⟨v, s, hc.cell h1 (fun h => h), h2, h3.keep hc⟩
def TabOut (w : World) (e : Ending) (w' : World) : Prop := ∃ g, e = .returned (.slice (some ⟨g, 0, none⟩) 51 51) ∧ TabAt w' g ∧ Chg Nowhere w w'
theorem sig_iface {w : World} {v : Value} {s : Sn.Sig} (h : SigAt w v s) : ∃ t x, v = .iface t x := by
  cases s with
  | html l => obtain ⟨b, h1, _⟩ := h; exact ⟨_, _, h1⟩
  | exact l ct => obtain ⟨p, b, h1, _⟩ := h; exact ⟨_, _, h1⟩
  | masked m q sk ct => obtain ⟨p, b, c, h1, _⟩ := h; exact ⟨_, _, h1⟩
  | mp4 => exact ⟨_, _, h⟩
  | text => exact ⟨_, _, h⟩
theorem bs32 (t : Nat → TypeId) (x : Nat → Value) (w : World) : (Instr.buildSlice 32 51 ((List.range 51).map fun i => (i, Value.iface (t i) (x i))).toArray).run Tryd.prog w = .ok (.slice (some ⟨w.heap.size, 0, none⟩) 51 51) (w.alloc (.cells ((List.range 51).map fun i => Value.iface (t i) (x i)).toArray 35)) := by kernel_rfl
theorem step_fin {ops : Array Oper} {rest : List Oper} {Q : Exit → Act → World → Prop} {w0 w : World} {a : Act} {o : Oper} (hI : Inv w0 w a 51) (g1 : o.guard = none) (d1 : o.dst = some 240) (b1 : o.op = .buildSlice 32 51 ((List.range 51).map fun i => (i, Operand.tmp (slot i))).toArray)
    (h : ∀ a' w', a'.tmps.size = 241 → a'.defers = [] → a'.eval (.tmp 240) = .slice (some ⟨w.heap.size, 0, none⟩) 51 51 → TabAt w' w.heap.size → Chg Nowhere w0 w' → wpList Tryd.prog ops Q rest a' w') : wpList Tryd.prog ops Q (o :: rest) a w := by
  have hz := hI.size
  have hv : ∀ i, ∃ (t : TypeId) (x : Value), i < 51 → a.eval (.tmp (slot i)) = .iface t x := fun i => by
    by_cases hi : i < 51
    · obtain ⟨s, _, h2⟩ := hI.sig i hi
      obtain ⟨t, x, e⟩ := sig_iface h2
      exact ⟨t, x, fun _ => e⟩
    · exact ⟨0, .nilIface, fun h => absurd h hi⟩
  obtain ⟨t, hv⟩ := Classical.axiomOfChoice hv
  obtain ⟨x, hv⟩ := Classical.axiomOfChoice hv
  refine wpList_upd (v := .slice (some ⟨w.heap.size, 0, none⟩) 51 51) (w1 := w.alloc (.cells ((List.range 51).map fun i => Value.iface (t i) (x i)).toArray 35)) 240 g1 d1 (by omega) ?_ fun a' u => ?_
  · unfold execOp
    have e : (((List.range 51).map fun i => (i, Operand.tmp (slot i))).toArray.map fun (i, y) => (i, a.eval y)) = ((List.range 51).map fun i => (i, Value.iface (t i) (x i))).toArray := by
      rw [List.map_toArray, List.map_map]
      congr 1
      refine List.map_congr_left fun i hi => ?_
      show (i, a.eval (.tmp (slot i))) = _
      rw [hv i (List.mem_range.1 hi)]
    simp only [b1, e, bs32, Sem.run_bind, Sem.run_pure, Result.andThen_ok]
  · have hc : Chg Nowhere w (w.alloc (.cells ((List.range 51).map fun i => Value.iface (t i) (x i)).toArray 35)) := (Chg.refl _ w).alloc _
    refine h a' _ (u.size.trans hz) (u.dfr.trans hI.dfr) u.at_ (fun i hi => ?_) (hI.chg.trans hc (fun _ _ h => h))
    obtain ⟨s, h1, h2⟩ := hI.sig i hi
    refine ⟨_, s, ?_, h1, h2.keep hc⟩
    rw [cell_of_heap (heap_alloc_new w _), List.getElem?_toArray, List.getElem?_map, List.getElem?_range hi, hv i hi]
    rfl
theorem results1 {fn : Func} {t : Tmp} (h : fn.results = #[.tmp t]) (a : Act) (P : Program) (w : World) : (results fn a.tmps).run P w = .ok (a.eval (.tmp t)) w := by simp [results, h, Act.eval]
theorem start {ops : Array Oper} {l : List Oper} {Q : Exit → Act → World → Prop} {w0 : World} (h : ∀ a, Inv w0 w0 a 0 → wpList Tryd.prog ops Q l a w0) (a : Act) (hs : a.tmps.size = 241) (hd : a.defers = []) : wpList Tryd.prog ops Q l a w0 :=
  h a ⟨hs, hd, Chg.refl _ _, fun i hi => absurd hi (Nat.not_lt_zero i)⟩
set_option maxHeartbeats 8000000 in
theorem tab16 (w0 : World) : Calls Tryd.prog 16 #[] w0 (TabOut w0) := by
  go_enter Tryd.func16, Tryd.ntmps16
  go_upto_region 1 with fail
  refine wp_region_lit ?_
  refine start ?_ _ rfl rfl
  generalize List.toArray _ = opsA
  intro a hI
  refine step_html hI _ 1 2 3 ⟨rfl, rfl, rfl, rfl, rfl, fun _ _ => by kernel_rfl⟩ rfl (by decide) (by decide) (by decide) rfl rfl rfl ?_
  clear hI
  intro a w hI
  refine step_html hI _ 4 5 6 ⟨rfl, rfl, rfl, rfl, rfl, fun _ _ => by kernel_rfl⟩ rfl (by decide) (by decide) (by decide) rfl rfl rfl ?_
  clear hI
  intro a w hI
  refine step_html hI _ 7 8 9 ⟨rfl, rfl, rfl, rfl, rfl, fun _ _ => by kernel_rfl⟩ rfl (by decide) (by decide) (by decide) rfl rfl rfl ?_
  clear hI
  intro a w hI
  refine step_html hI _ 10 11 12 ⟨rfl, rfl, rfl, rfl, rfl, fun _ _ => by kernel_rfl⟩ rfl (by decide) (by decide) (by decide) rfl rfl rfl ?_
  clear hI
  intro a w hI
  refine step_html hI _ 13 14 15 ⟨rfl, rfl, rfl, rfl, rfl, fun _ _ => by kernel_rfl⟩ rfl (by decide) (by decide) (by decide) rfl rfl rfl ?_
  clear hI
  intro a w hI
  refine step_html hI _ 16 17 18 ⟨rfl, rfl, rfl, rfl, rfl, fun _ _ => by kernel_rfl⟩ rfl (by decide) (by decide) (by decide) rfl rfl rfl ?_
  clear hI
  intro a w hI
  refine step_html hI _ 19 20 21 ⟨rfl, rfl, rfl, rfl, rfl, fun _ _ => by kernel_rfl⟩ rfl (by decide) (by decide) (by decide) rfl rfl rfl ?_
  clear hI
  intro a w hI
  refine step_html hI _ 22 23 24 ⟨rfl, rfl, rfl, rfl, rfl, fun _ _ => by kernel_rfl⟩ rfl (by decide) (by decide) (by decide) rfl rfl rfl ?_
  clear hI
  intro a w hI
  refine step_html hI _ 25 26 27 ⟨rfl, rfl, rfl, rfl, rfl, fun _ _ => by kernel_rfl⟩ rfl (by decide) (by decide) (by decide) rfl rfl rfl ?_
  clear hI
  intro a w hI
  refine step_html hI _ 28 29 30 ⟨rfl, rfl, rfl, rfl, rfl, fun _ _ => by kernel_rfl⟩ rfl (by decide) (by decide) (by decide) rfl rfl rfl ?_
  clear hI
  intro a w hI
  refine step_html hI _ 31 32 33 ⟨rfl, rfl, rfl, rfl, rfl, fun _ _ => by kernel_rfl⟩ rfl (by decide) (by decide) (by decide) rfl rfl rfl ?_
  clear hI
  intro a w hI
  refine step_html hI _ 34 35 36 ⟨rfl, rfl, rfl, rfl, rfl, fun _ _ => by kernel_rfl⟩ rfl (by decide) (by decide) (by decide) rfl rfl rfl ?_
  clear hI
  intro a w hI
  refine step_html hI _ 37 38 39 ⟨rfl, rfl, rfl, rfl, rfl, fun _ _ => by kernel_rfl⟩ rfl (by decide) (by decide) (by decide) rfl rfl rfl ?_
  clear hI
  intro a w hI
  refine step_html hI _ 40 41 42 ⟨rfl, rfl, rfl, rfl, rfl, fun _ _ => by kernel_rfl⟩ rfl (by decide) (by decide) (by decide) rfl rfl rfl ?_
  clear hI
  intro a w hI
  refine step_html hI _ 43 44 45 ⟨rfl, rfl, rfl, rfl, rfl, fun _ _ => by kernel_rfl⟩ rfl (by decide) (by decide) (by decide) rfl rfl rfl ?_
  clear hI
  intro a w hI
  refine step_html hI _ 46 47 48 ⟨rfl, rfl, rfl, rfl, rfl, fun _ _ => by kernel_rfl⟩ rfl (by decide) (by decide) (by decide) rfl rfl rfl ?_
  clear hI
  intro a w hI
  refine step_html hI _ 49 50 51 ⟨rfl, rfl, rfl, rfl, rfl, fun _ _ => by kernel_rfl⟩ rfl (by decide) (by decide) (by decide) rfl rfl rfl ?_
  clear hI
  intro a w hI
  refine step_maskedT hI _ _ _ 52 53 54 55 56 57 58 ⟨rfl, rfl, rfl, rfl, rfl, fun _ _ => by kernel_rfl⟩ ⟨rfl, rfl, rfl, rfl, rfl, fun _ _ => by kernel_rfl⟩ rfl (by decide) (by decide) (by decide) rfl rfl rfl rfl rfl rfl rfl rfl rfl ?_
  clear hI
  intro a w hI
  refine step_exact hI _ _ 59 60 61 62 63 ⟨rfl, rfl, rfl, rfl, rfl, fun _ _ => by kernel_rfl⟩ rfl (by decide) (by decide) (by decide) rfl rfl rfl rfl rfl rfl rfl rfl rfl ?_
  clear hI
  intro a w hI
  refine step_exact hI _ _ 64 65 66 67 68 ⟨rfl, rfl, rfl, rfl, rfl, fun _ _ => by kernel_rfl⟩ rfl (by decide) (by decide) (by decide) rfl rfl rfl rfl rfl rfl rfl rfl rfl ?_
  clear hI
  intro a w hI
  refine step_masked hI _ _ _ 69 70 71 72 73 74 75 ⟨rfl, rfl, rfl, rfl, rfl, fun _ _ => by kernel_rfl⟩ ⟨rfl, rfl, rfl, rfl, rfl, fun _ _ => by kernel_rfl⟩ rfl (by decide) (by decide) (by decide) rfl rfl rfl rfl rfl rfl rfl rfl rfl ?_
  clear hI
  intro a w hI
  refine step_masked hI _ _ _ 76 77 78 79 80 81 82 ⟨rfl, rfl, rfl, rfl, rfl, fun _ _ => by kernel_rfl⟩ ⟨rfl, rfl, rfl, rfl, rfl, fun _ _ => by kernel_rfl⟩ rfl (by decide) (by decide) (by decide) rfl rfl rfl rfl rfl rfl rfl rfl rfl ?_
  clear hI
  intro a w hI
  refine step_masked hI _ _ _ 83 84 85 86 87 88 89 ⟨rfl, rfl, rfl, rfl, rfl, fun _ _ => by kernel_rfl⟩ ⟨rfl, rfl, rfl, rfl, rfl, fun _ _ => by kernel_rfl⟩ rfl (by decide) (by decide) (by decide) rfl rfl rfl rfl rfl rfl rfl rfl rfl ?_
  clear hI
  intro a w hI
  refine step_exact hI _ _ 90 91 92 93 94 ⟨rfl, rfl, rfl, rfl, rfl, fun _ _ => by kernel_rfl⟩ rfl (by decide) (by decide) (by decide) rfl rfl rfl rfl rfl rfl rfl rfl rfl ?_
  clear hI
  intro a w hI
  refine step_exact hI _ _ 95 96 97 98 99 ⟨rfl, rfl, rfl, rfl, rfl, fun _ _ => by kernel_rfl⟩ rfl (by decide) (by decide) (by decide) rfl rfl rfl rfl rfl rfl rfl rfl rfl ?_
  clear hI
  intro a w hI
  refine step_exact hI _ _ 100 101 102 103 104 ⟨rfl, rfl, rfl, rfl, rfl, fun _ _ => by kernel_rfl⟩ rfl (by decide) (by decide) (by decide) rfl rfl rfl rfl rfl rfl rfl rfl rfl ?_
  clear hI
  intro a w hI
  refine step_exact hI _ _ 105 106 107 108 109 ⟨rfl, rfl, rfl, rfl, rfl, fun _ _ => by kernel_rfl⟩ rfl (by decide) (by decide) (by decide) rfl rfl rfl rfl rfl rfl rfl rfl rfl ?_
  clear hI
  intro a w hI
  refine step_exact hI _ _ 110 111 112 113 114 ⟨rfl, rfl, rfl, rfl, rfl, fun _ _ => by kernel_rfl⟩ rfl (by decide) (by decide) (by decide) rfl rfl rfl rfl rfl rfl rfl rfl rfl ?_
  clear hI
  intro a w hI
  refine step_masked hI _ _ _ 115 116 117 118 119 120 121 ⟨rfl, rfl, rfl, rfl, rfl, fun _ _ => by kernel_rfl⟩ ⟨rfl, rfl, rfl, rfl, rfl, fun _ _ => by kernel_rfl⟩ rfl (by decide) (by decide) (by decide) rfl rfl rfl rfl rfl rfl rfl rfl rfl ?_
  clear hI
  intro a w hI
  refine step_exact hI _ _ 122 123 124 125 126 ⟨rfl, rfl, rfl, rfl, rfl, fun _ _ => by kernel_rfl⟩ rfl (by decide) (by decide) (by decide) rfl rfl rfl rfl rfl rfl rfl rfl rfl ?_
  clear hI
  intro a w hI
  refine step_exact hI _ _ 127 128 129 130 131 ⟨rfl, rfl, rfl, rfl, rfl, fun _ _ => by kernel_rfl⟩ rfl (by decide) (by decide) (by decide) rfl rfl rfl rfl rfl rfl rfl rfl rfl ?_
  clear hI
  intro a w hI
  refine step_masked hI _ _ _ 132 133 134 135 136 137 138 ⟨rfl, rfl, rfl, rfl, rfl, fun _ _ => by kernel_rfl⟩ ⟨rfl, rfl, rfl, rfl, rfl, fun _ _ => by kernel_rfl⟩ rfl (by decide) (by decide) (by decide) rfl rfl rfl rfl rfl rfl rfl rfl rfl ?_
  clear hI
  intro a w hI
  refine step_masked hI _ _ _ 139 140 141 142 143 144 145 ⟨rfl, rfl, rfl, rfl, rfl, fun _ _ => by kernel_rfl⟩ ⟨rfl, rfl, rfl, rfl, rfl, fun _ _ => by kernel_rfl⟩ rfl (by decide) (by decide) (by decide) rfl rfl rfl rfl rfl rfl rfl rfl rfl ?_
  clear hI
  intro a w hI
  refine step_masked hI _ _ _ 146 147 148 149 150 151 152 ⟨rfl, rfl, rfl, rfl, rfl, fun _ _ => by kernel_rfl⟩ ⟨rfl, rfl, rfl, rfl, rfl, fun _ _ => by kernel_rfl⟩ rfl (by decide) (by decide) (by decide) rfl rfl rfl rfl rfl rfl rfl rfl rfl ?_
  clear hI
  intro a w hI
  refine step_masked hI _ _ _ 153 154 155 156 157 158 159 ⟨rfl, rfl, rfl, rfl, rfl, fun _ _ => by kernel_rfl⟩ ⟨rfl, rfl, rfl, rfl, rfl, fun _ _ => by kernel_rfl⟩ rfl (by decide) (by decide) (by decide) rfl rfl rfl rfl rfl rfl rfl rfl rfl ?_
  clear hI
  intro a w hI
  refine step_masked hI _ _ _ 160 161 162 163 164 165 166 ⟨rfl, rfl, rfl, rfl, rfl, fun _ _ => by kernel_rfl⟩ ⟨rfl, rfl, rfl, rfl, rfl, fun _ _ => by kernel_rfl⟩ rfl (by decide) (by decide) (by decide) rfl rfl rfl rfl rfl rfl rfl rfl rfl ?_
  clear hI
  intro a w hI
  refine step_masked hI _ _ _ 167 168 169 170 171 172 173 ⟨rfl, rfl, rfl, rfl, rfl, fun _ _ => by kernel_rfl⟩ ⟨rfl, rfl, rfl, rfl, rfl, fun _ _ => by kernel_rfl⟩ rfl (by decide) (by decide) (by decide) rfl rfl rfl rfl rfl rfl rfl rfl rfl ?_
  clear hI
  intro a w hI
  refine step_mp4 hI 174 175 rfl (by decide) (by decide) (by decide) rfl rfl rfl rfl rfl rfl ?_
  clear hI
  intro a w hI
  refine step_exact hI _ _ 176 177 178 179 180 ⟨rfl, rfl, rfl, rfl, rfl, fun _ _ => by kernel_rfl⟩ rfl (by decide) (by decide) (by decide) rfl rfl rfl rfl rfl rfl rfl rfl rfl ?_
  clear hI
  intro a w hI
  refine step_maskedS hI _ _ _ 181 182 183 184 185 186 187 ⟨rfl, rfl, rfl, rfl, rfl, fun _ _ => by kernel_rfl⟩ ⟨rfl, rfl, rfl, rfl, rfl, fun _ _ => by kernel_rfl⟩ rfl (by decide) (by decide) (by decide) rfl rfl rfl rfl rfl rfl rfl rfl rfl ?_
  clear hI
  intro a w hI
  refine step_exact hI _ _ 188 189 190 191 192 ⟨rfl, rfl, rfl, rfl, rfl, fun _ _ => by kernel_rfl⟩ rfl (by decide) (by decide) (by decide) rfl rfl rfl rfl rfl rfl rfl rfl rfl ?_
  clear hI
  intro a w hI
  refine step_exact hI _ _ 193 194 195 196 197 ⟨rfl, rfl, rfl, rfl, rfl, fun _ _ => by kernel_rfl⟩ rfl (by decide) (by decide) (by decide) rfl rfl rfl rfl rfl rfl rfl rfl rfl ?_
  clear hI
  intro a w hI
  refine step_exact hI _ _ 198 199 200 201 202 ⟨rfl, rfl, rfl, rfl, rfl, fun _ _ => by kernel_rfl⟩ rfl (by decide) (by decide) (by decide) rfl rfl rfl rfl rfl rfl rfl rfl rfl ?_
  clear hI
  intro a w hI
  refine step_exact hI _ _ 203 204 205 206 207 ⟨rfl, rfl, rfl, rfl, rfl, fun _ _ => by kernel_rfl⟩ rfl (by decide) (by decide) (by decide) rfl rfl rfl rfl rfl rfl rfl rfl rfl ?_
  clear hI
  intro a w hI
  refine step_exact hI _ _ 208 209 210 211 212 ⟨rfl, rfl, rfl, rfl, rfl, fun _ _ => by kernel_rfl⟩ rfl (by decide) (by decide) (by decide) rfl rfl rfl rfl rfl rfl rfl rfl rfl ?_
  clear hI
  intro a w hI
  refine step_exact hI _ _ 213 214 215 216 217 ⟨rfl, rfl, rfl, rfl, rfl, fun _ _ => by kernel_rfl⟩ rfl (by decide) (by decide) (by decide) rfl rfl rfl rfl rfl rfl rfl rfl rfl ?_
  clear hI
  intro a w hI
  refine step_exact hI _ _ 218 219 220 221 222 ⟨rfl, rfl, rfl, rfl, rfl, fun _ _ => by kernel_rfl⟩ rfl (by decide) (by decide) (by decide) rfl rfl rfl rfl rfl rfl rfl rfl rfl ?_
  clear hI
  intro a w hI
  refine step_exact hI _ _ 223 224 225 226 227 ⟨rfl, rfl, rfl, rfl, rfl, fun _ _ => by kernel_rfl⟩ rfl (by decide) (by decide) (by decide) rfl rfl rfl rfl rfl rfl rfl rfl rfl ?_
  clear hI
  intro a w hI
  refine step_exact hI _ _ 228 229 230 231 232 ⟨rfl, rfl, rfl, rfl, rfl, fun _ _ => by kernel_rfl⟩ rfl (by decide) (by decide) (by decide) rfl rfl rfl rfl rfl rfl rfl rfl rfl ?_
  clear hI
  intro a w hI
  refine step_exact hI _ _ 233 234 235 236 237 ⟨rfl, rfl, rfl, rfl, rfl, fun _ _ => by kernel_rfl⟩ rfl (by decide) (by decide) (by decide) rfl rfl rfl rfl rfl rfl rfl rfl rfl ?_
  clear hI
  intro a w hI
  refine step_text hI 238 239 rfl (by decide) (by decide) (by decide) rfl rfl rfl rfl rfl rfl ?_
  clear hI
  intro a w hI
  refine step_fin hI rfl rfl rfl ?_
  clear hI
  intro a1 w1 z1 f1 v1 ht hc
  refine wpList_upd (v := .slice (some ⟨w.heap.size, 0, none⟩) 51 51) (w1 := w1) 0 rfl rfl (by omega) ?_ fun a2 u2 => ?_
  · show (execOp a1.eval _).run Tryd.prog w1 = _
    rw [← v1]
    rfl
  refine wpList_nil ?_
  refine ‹∀ (a : Act) (w : World), Code.wp _ _ _ a w → _› _ _ ?_
  apply wp_ret
  exact bodyPost_ret (v := .slice (some ⟨w.heap.size, 0, none⟩) 51 51) ((results1 (t := 0) (by rfl) a2 _ _).trans (by rw [u2.at_])) (u2.dfr.trans f1) ⟨_, rfl, ht, hc⟩
end Go.Proofs.YtflpmhjfchpplaaDoor
