/-
  Proved: append of a string to a row of bytes; a float as a whole number of 64 bits. No statement of the seat stands here.
-/
import Derived.Test.YtmlgfhdjdmfdbaaDoorNg
import Derived.Deep.AppendSrc
import Derived.Lib.AppendStr
import Derived.Laws.FloatArith
namespace Go.Proofs.YtmlgfhdjdmfdbaaDoor
open Go.RowKit Go.ChangeAt
set_option linter.unusedSimpArgs false
set_option linter.unusedVariables false
set_option maxRecDepth 100000
theorem str_cells (s : ByteArray) : Go.byteCells s = Lib.byteCells s.data.toList := rfl
theorem row_append_str (ty : TypeId) (B g off cap : Nat) (l : List UInt8) (w : World) (h : Row B g off cap l w) (s : ByteArray) (hb : l.length + s.size ≤ 100000) (hB : B ≤ w.heap.size) :
    ∃ g' off' cap' w', (Builtin.append_ #[26, 9] ty #[.slice (some ⟨g, off, none⟩) l.length cap, .string s]).run Tryd.prog w = .ok (.slice (some ⟨g', off', none⟩) (l.length + s.size) cap') w' ∧
      Row B g' off' cap' (l ++ s.data.toList) w' ∧ Chg (fun k => k = g) w w' := by
  obtain ⟨i0, hi, hz0, hz1, hz2⟩ := info_parts info5
  obtain ⟨cur, fz, h1, hfz, h2, h3⟩ := h.blk
  have hl := h.len
  have hsl : s.data.toList.length = s.size := by rw [Array.length_toList]; rfl
  have hsrc := Src.ofString (P := Tryd.prog) w Tryd.underlying9 s
  by_cases hr : l.length + s.size ≤ cap
  · have hrun := run_append_room_src (P := Tryd.prog) w 26 9 ty 5 i0 Tryd.underlying26 hi g off l.length cap (.string s) s.size (Go.byteCells s) (by rw [hz1]; exact hsrc) hr
      (fun j hj => by
        rw [byteCells_length] at hj
        rw [hz1, Nat.mul_one, cell_of_heap h1, Array.getElem?_eq_getElem (by omega)]
        rfl) (fun j hj => by rw [byteCells_length] at hj; rw [hz1, Nat.mul_one]; exact frozen_fz h1 hfz _ (by omega))
    rw [hz1, Nat.mul_one, str_cells] at hrun
    obtain ⟨cs', k1, k2, k3, k4⟩ := setCells_blk g 5 fz (Lib.byteCells s.data.toList) (off + l.length) w cur h1
    refine ⟨g, off, cap, _, hrun, ⟨h.base, ⟨cs', fz, k1, by rw [k2]; exact hfz, by omega, fun j u hj => ?_⟩, by rw [List.length_append, hsl]; exact hr, h.capb⟩, chg_setCells g w _ _ w (Chg.refl _ _)⟩
    rw [byteCells_app] at hj
    by_cases hjl : j < l.length
    · rw [List.getElem?_append_left (by rw [byteCells_len]; exact hjl)] at hj
      rw [k3 _ (by omega)]
      exact h3 j u hj
    · rw [List.getElem?_append_right (by rw [byteCells_len]; omega), byteCells_len] at hj
      have hjx : j - l.length < s.size := by have := (List.getElem?_eq_some_iff.1 hj).1; rwa [byteCells_len, hsl] at this
      have := k4 (j - l.length) u hj (by omega)
      rwa [show off + l.length + (j - l.length) = off + j by omega] at this
  · have hg : cap < l.length + s.size := by omega
    have hr2 := Lib.run_append_grow_string (P := Tryd.prog) w 26 9 ty 5 i0 (.int .u8 0) Tryd.underlying26 Tryd.underlying9 hi hz0 ⟨g, off, none⟩ l.length cap (Lib.byteCells l) (by rw [hz1, byteCells_len, Nat.mul_one])
      (fun j u hj => by rw [add_cell]; exact h.reads j u hj) s hg (by omega) (by rw [hz2]; exact growslice_fits hg (by omega))
    have hge := grownCap_ge w (l.length + s.size) cap 5
    have hcm := grownCap_le_maxLen w (l.length + s.size) cap 5 (by unfold maxLen; omega)
    refine ⟨_, _, _, _, hr2, ⟨hB, ⟨_, _, heap_alloc_new w.drew _, .inl rfl, ?_, fun j u hj => ?_⟩, by rw [List.length_append, hsl]; exact hge, hcm⟩, ((Chg.refl _ _).drew).alloc _⟩
    · rw [Nat.zero_add, Array.size_append, Array.size_append, List.size_toArray, List.size_toArray, size_zeroCells, byteCells_len, Lib.strCells_length]
      have e1 : (Value.int IntKind.u8 0).cells.size = 1 := rfl
      rw [e1]
      omega
    · have hjn := (List.getElem?_eq_some_iff.1 hj).1
      rw [byteCells_len, List.length_append, hsl] at hjn
      rw [Nat.zero_add, Array.getElem?_append_left (by rw [Array.size_append, List.size_toArray, List.size_toArray, byteCells_len, Lib.strCells_length]; exact hjn), ← hj, byteCells_app]
      have e2 : Lib.strCells s = Lib.byteCells s.data.toList := rfl
      rw [e2]
      simp
theorem wpList_row_append_str {ops : Array Oper} {rest : List Oper} {o : Oper} {a : Act} {w : World} {Q : Exit → Act → World → Prop} (hgd : o.guard = none) (sl x : Operand)
    (ho : o.op = .call { callee := .builtin .append, args := #[sl, x], argTypes := #[26, 9] })
    (B g off cap n : Nat) (l : List UInt8) (hs : a.eval sl = .slice (some ⟨g, off, none⟩) n cap) (hn : n = l.length) (hR : Row B g off cap l w) (s : ByteArray) (hx : a.eval x = .string s)
    (hb : l.length + s.size ≤ 100000) (hB : B ≤ w.heap.size)
    (h : ∀ g' off' cap' w', Row B g' off' cap' (l ++ s.data.toList) w' → Chg (fun k => k = g) w w' → wpList Tryd.prog ops Q rest (a.put o.dst (.slice (some ⟨g', off', none⟩) (n + s.size) cap')) w') : wpList Tryd.prog ops Q (o :: rest) a w := by
  subst hn
  refine wpList_plain hgd fun K hK => ?_
  obtain ⟨g', off', cap', w', hr, h2, h3⟩ := row_append_str o.type B g off cap l w hR s hb hB
  unfold Oper.wp execOp
  simp only [ho, resolve, invoke, builtin, Sem.run_bind, Sem.run_pure, Result.andThen_ok, List.map_toArray, List.map_cons, List.map_nil, hs, hx, hr]
  exact hK _ _ (h g' off' cap' w' h2 h3)
theorem conv_u64 (f : Nat) (w : World) : ∃ (n : Nat) (w' : World), (convert 22 39 (.float .f64 f)).run Tryd.prog w = .ok (.int .u64 (n : Int)) w' ∧ n < 18446744073709551616 ∧ (w' = w ∨ w' = w.drew) := by
  cases hv : floatToIntVal .f64 f .u64 with
  | some m =>
    have hw := floatToIntVal_wf hv
    have e1 : IntKind.u64.min = 0 := rfl
    have e2 : IntKind.u64.max = 18446744073709551615 := rfl
    simp [Lit.wf, e1, e2] at hw
    refine ⟨m.toNat, w, ?_, by omega, .inl rfl⟩
    rw [Int.toNat_of_nonneg hw.1]
    exact run_convert_float_int w 22 39 .f64 .u64 f m (by rw [Tryd.underlying22]; rfl) Tryd.underlying39 hv
  | none =>
    have key : (convert 22 39 (.float .f64 f)).run Tryd.prog w = (Conv.floatToInt .f64 f .u64).run Tryd.prog w := by
      simp [convert, run_underlying Tryd.underlying22, run_underlying Tryd.underlying39]
    have fin : ∀ z : Int, ∃ (n : Nat) (w' : World), (Result.ok (Value.int IntKind.u64 (IntKind.u64.wrap z)) w.drew : Result Value) = .ok (.int .u64 (n : Int)) w' ∧ n < 18446744073709551616 ∧ (w' = w ∨ w' = w.drew) := fun z => by
      have hz : 0 ≤ IntKind.u64.wrap z ∧ IntKind.u64.wrap z < 18446744073709551616 := by rw [IntKind.wrap_u64]; omega
      exact ⟨(IntKind.u64.wrap z).toNat, w.drew, by rw [Int.toNat_of_nonneg hz.1], by omega, .inr rfl⟩
    rw [key]
    unfold Conv.floatToInt
    unfold floatToIntVal at hv
    split at hv
    · rename_i m he
      split at hv
      · cases hv
      · rename_i hb
        simp only [he, if_neg hb]
        simp only [choose, Sem.run, Question.forced]
        exact fin _
    · rename_i he
      simp only [he]
      simp only [choose, Sem.run, Question.forced]
      exact fin _
end Go.Proofs.YtmlgfhdjdmfdbaaDoor
