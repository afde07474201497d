/-
  Proved: laws for the table's rows: a signature laid by some operations of a region. No statement of the seat stands here.
-/
import Derived.Test.YtflpmhjfchpplaaDoorBase
import Derived.Test.YtflpmhjfchpplaaDoorSn
import Derived.Lib.SlBytesConst
import Derived.Test.YtflpmhjfchpplaaDoorProg
namespace Go.Proofs.YtflpmhjfchpplaaDoor
open Go.RowKit Go.ChangeAt
set_option linter.unusedSimpArgs false
set_option linter.unusedVariables false
set_option maxRecDepth 100000
theorem wpList_val {P : Program} {ops : Array Oper} {rest : List Oper} {o : Oper} {a : Act} {w w1 : World} {Q : Exit → Act → World → Prop} {v : Value} (hg : o.guard = none) (hr : (execOp a.eval o).run P w = .ok (.value v) w1)
    (h : wpList P ops Q rest (a.put o.dst v) w1) : wpList P ops Q (o :: rest) a w :=
  wpList_plain hg fun K hK => by
    unfold Oper.wp
    rw [hr]
    exact hK _ _ h
theorem eval_put_same (a : Act) (k : Nat) (v : Value) (h : k < a.tmps.size) : (a.put (some k) v).eval (.tmp k) = v := by
  simp [Act.put, Act.eval, h]
theorem eval_put_other (a : Act) (k j : Nat) (v : Value) (h : k ≠ j) : (a.put (some k) v).eval (.tmp j) = a.eval (.tmp j) := by
  simp [Act.put, Act.eval, Array.getElem?_setIfInBounds_ne h]
theorem size_put (a : Act) (k : Nat) (v : Value) : (a.put (some k) v).tmps.size = a.tmps.size := by simp [Act.put]
/-- The cells of a row of bytes. -/
def cellsOf (l : List UInt8) : Array Value := (l.map fun x => Value.int .u8 (x.toNat : Int)).toArray
theorem cellsOf_size (l : List UInt8) : (cellsOf l).size = l.length := by simp [cellsOf]
def Cel (w : World) (b : Nat) (l : List UInt8) : Prop := ∀ i, i < l.length → w.cell? ⟨b, i, none⟩ = some (.int .u8 ((l.getD i 0).toNat : Int))
theorem Cel.keep {w w' : World} {b : Nat} {l : List UInt8} (h : Cel w b l) (hc : Chg Nowhere w w') : Cel w' b l := fun i hi => hc.cell (h i hi) (fun h => h)
theorem cel_new (W : World) (l : List UInt8) (fz : Nat × Nat) : Cel (W.alloc (.cells (cellsOf l) 5 fz)) W.heap.size l := fun i hi => by
  rw [cell_of_heap (heap_alloc_new W _)]
  unfold cellsOf
  rw [List.getElem?_toArray, List.getElem?_map, List.getElem?_eq_getElem hi, List.getD_eq_getElem?_getD, List.getElem?_eq_getElem hi]
  rfl
def strB (l : List UInt8) : ByteArray := ⟨l.toArray⟩
/-- The value v stands for the signature s. -/
def SigAt (w : World) (v : Value) : Sn.Sig → Prop
  | .html l => ∃ b, v = .iface 50 (.slice (some ⟨b, 0, none⟩) l.length l.length) ∧ Cel w b l
  | .exact l ct => ∃ p b, v = .iface 54 (.pointer (some ⟨p, 0, none⟩)) ∧ w.heap[p]? = some (.cells #[.slice (some ⟨b, 0, none⟩) l.length l.length, .string (strB ct)] 56 (0, 0)) ∧ Cel w b l
  | .masked m q sk ct => ∃ p b c, v = .iface 51 (.pointer (some ⟨p, 0, none⟩)) ∧ w.heap[p]? = some (.cells #[.slice (some ⟨b, 0, none⟩) m.length m.length, .slice (some ⟨c, 0, none⟩) q.length q.length, .bool sk, .string (strB ct)] 53 (0, 0)) ∧ Cel w b m ∧ Cel w c q
  | .mp4 => v = .iface 58 (.agg #[])
  | .text => v = .iface 59 (.agg #[])
theorem SigAt.keep {w w' : World} {v : Value} {s : Sn.Sig} (h : SigAt w v s) (hc : Chg Nowhere w w') : SigAt w' v s := by
  cases s with
  | html l => obtain ⟨b, h1, h2⟩ := h; exact ⟨b, h1, h2.keep hc⟩
  | exact l ct => obtain ⟨p, b, h1, h2, h3⟩ := h; exact ⟨p, b, h1, hc.heap h2 (fun h => h), h3.keep hc⟩
  | masked m q sk ct => obtain ⟨p, b, c, h1, h2, h3, h4⟩ := h; exact ⟨p, b, c, h1, hc.heap h2 (fun h => h), h3.keep hc, h4.keep hc⟩
  | mp4 => exact h
  | text => exact h
theorem mk_iface (t : TypeId) (v : Value) (w : World) (h : ∀ W, (Instr.makeInterface t v).run Tryd.prog W = .ok (.iface t v) W) : (Instr.makeInterface t v).run Tryd.prog w = .ok (.iface t v) w := h w
theorem mk50 (v : Value) (w : World) : (Instr.makeInterface 50 v).run Tryd.prog w = .ok (.iface 50 v) w := by kernel_rfl
theorem mk51 (v : Value) (w : World) : (Instr.makeInterface 51 v).run Tryd.prog w = .ok (.iface 51 v) w := by kernel_rfl
theorem mk54 (v : Value) (w : World) : (Instr.makeInterface 54 v).run Tryd.prog w = .ok (.iface 54 v) w := by kernel_rfl
theorem mk58 (v : Value) (w : World) : (Instr.makeInterface 58 v).run Tryd.prog w = .ok (.iface 58 v) w := by kernel_rfl
theorem mk59 (v : Value) (w : World) : (Instr.makeInterface 59 v).run Tryd.prog w = .ok (.iface 59 v) w := by kernel_rfl
theorem box56 (x : Option Addr) (n c : Nat) (s : ByteArray) (w : World) : (Instr.box 56 (.agg #[.slice x n c, .string s])).run Tryd.prog w = .ok (.pointer (some ⟨w.heap.size, 0, none⟩)) (w.alloc (.cells #[.slice x n c, .string s] 56)) := by kernel_rfl
theorem box53 (x y : Option Addr) (n c m d : Nat) (b : Bool) (s : ByteArray) (w : World) : (Instr.box 53 (.agg #[.slice x n c, .slice y m d, .bool b, .string s])).run Tryd.prog w = .ok (.pointer (some ⟨w.heap.size, 0, none⟩)) (w.alloc (.cells #[.slice x n c, .slice y m d, .bool b, .string s] 53)) := by kernel_rfl
theorem bld56 (x : Option Addr) (n c : Nat) (s : ByteArray) (w : World) : (Instr.build 56 #[(0, .slice x n c), (1, .string s)]).run Tryd.prog w = .ok (.agg #[.slice x n c, .string s]) w := by kernel_rfl
theorem bld53 (x y : Option Addr) (n c m d : Nat) (b : Bool) (s : ByteArray) (w : World) : (Instr.build 53 #[(0, .slice x n c), (1, .slice y m d), (2, .bool b), (3, .string s)]).run Tryd.prog w = .ok (.agg #[.slice x n c, .slice y m d, .bool b, .string s]) w := by kernel_rfl
theorem bld53' (x y : Option Addr) (n c m d : Nat) (s : ByteArray) (w : World) : (Instr.build 53 #[(0, .slice x n c), (1, .slice y m d), (3, .string s)]).run Tryd.prog w = .ok (.agg #[.slice x n c, .slice y m d, .bool false, .string s]) w := by kernel_rfl
theorem bld53s (x y : Option Addr) (n c m d : Nat) (s : ByteArray) (w : World) : (Instr.build 53 #[(1, .slice y m d), (0, .slice x n c), (3, .string s)]).run Tryd.prog w = .ok (.agg #[.slice x n c, .slice y m d, .bool false, .string s]) w := by kernel_rfl
theorem bld58 (w : World) : (Instr.build 58 #[]).run Tryd.prog w = .ok (.agg #[]) w := by kernel_rfl
theorem bld59 (w : World) : (Instr.build 59 #[]).run Tryd.prog w = .ok (.agg #[]) w := by kernel_rfl
end Go.Proofs.YtflpmhjfchpplaaDoor
