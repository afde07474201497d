/-
  Proved: contracts of the timer's methods and of the script's helpers. No statement of the seat stands here.
-/
import Derived.Test.YtaghkncaeedlkaaRows
import Derived.Test.YtaghkncaeedlkaaBase
import Derived.Outline
namespace Go.Proofs.Ytaghkncaeedlkaa
open Go.RowKit Go.ChangeAt
set_option linter.unusedSimpArgs false
set_option linter.unusedVariables false

abbrev Rec := ByteArray × Bool
def recCells (r : Rec) : List Value := [.int .u64 0, .int .i64 0, .pointer none, .string r.1, .bool r.2]
def cellsOf (rs : List Rec) : List Value := rs.flatMap recCells
theorem cellsOf_length (rs : List Rec) : (cellsOf rs).length = rs.length * 5 := by
  induction rs with
  | nil => rfl
  | cons r rs ih => simp [cellsOf, recCells] at ih ⊢; omega
theorem cellsOf_append (xs ys : List Rec) : cellsOf (xs ++ ys) = cellsOf xs ++ cellsOf ys := by simp [cellsOf]

structure Timer (w : World) (b : Nat) (ao : Option Addr) (cap : Nat) (rs : List Rec) : Prop where
  blk : w.heap[b]? = some (.cells #[.slice ao rs.length cap, .int .i32 0, .int .u32 0] 38 (0, 0))
  own : w.ownsRow 0 56 5 (.slice ao rs.length cap) rs.length (cellsOf rs)
  sep : ∀ x, ao = some x → x.block ≠ b

def foot (b : Nat) (ao : Option Addr) : Nat → Prop := fun k => k = b ∨ InRow ao k

/-- The timer has grown to rs; what changed lies in its own two blocks; its row is the old one or a new one. -/
def Grew (b : Nat) (ao : Option Addr) (rs : List Rec) (w : World) (e : Ending) (w' : World) : Prop :=
  e = .returned (.tuple #[]) ∧ Chg (foot b ao) w w' ∧ ∃ ao' cap', Timer w' b ao' cap' rs ∧ (ao' = ao ∨ ∃ g, ao' = some ⟨g, 0, none⟩ ∧ w.heap.size ≤ g)

theorem info56 : (Try.prog.info? 56).map (fun i => (i.zero, i.size, i.bytes)) = some (some (.agg #[.int .u64 0, .int .i64 0, .pointer none, .string ⟨#[]⟩, .bool false]), 5, 48) := by kernel_rfl

theorem add_cell (g o j : Nat) : (⟨g, o, none⟩ : Addr).add j = ⟨g, o + j, none⟩ := by unfold Addr.add; split <;> simp_all
theorem cells_new (w : World) (cs : Array Value) (e : TypeId) (a : Addr) (ha : some (⟨w.heap.size, 0, none⟩ : Addr) = some a) : ∀ j u, cs.toList[j]? = some u → (w.alloc (.cells cs e)).cell? (a.add j) = some u := by
  intro j u h
  injection ha with ha
  subst ha
  rw [add_cell, cell_of_heap (heap_alloc_new w _)]
  simpa using h
theorem rec_one (r : Rec) : ∀ u ∈ recCells r, u.oneCell' = true := by
  intro u hu
  simp [recCells] at hu
  rcases hu with rfl | rfl | rfl | rfl | rfl <;> rfl

theorem grew_close {b : Nat} {ao : Option Addr} {cap : Nat} {rs : List Rec} {news : List Rec} {w w0 w1 : World} (hT : Timer w b ao cap rs) (h0 : Chg (foot b ao) w w0) {vo' : Option Addr} {vc' n' : Nat} (hn : n' = (rs ++ news).length)
    (hown1 : w1.ownsRow 0 56 5 (.slice vo' n' vc') n' (cellsOf rs ++ cellsOf news)) (hg1 : Chg (InRow ao) w0 w1) (hf1 : vo' = ao ∨ vo' = some ⟨w0.heap.size, 0, none⟩)
    (hb1 : w1.heap[b]? = some (.cells #[.slice ao rs.length cap, .int .i32 0, .int .u32 0] 38 (0, 0))) :
    Grew b ao (rs ++ news) w (.returned (.tuple #[])) (w1.setCell ⟨b, 0, none⟩ (.slice vo' n' vc')) := by
  subst hn
  have hlt := heap_lt hT.blk
  have hsz := h0.size
  have hsep1 : ∀ x, vo' = some x → x.block ≠ b := by
    intro x hx
    rcases hf1 with h | h
    · exact hT.sep x (h ▸ hx)
    · rw [h] at hx
      injection hx with hx
      subst hx
      show w0.heap.size ≠ b
      omega
  have hc1 : Chg (foot b ao) w w1 := h0.trans hg1 (fun k _ h => .inr h)
  refine ⟨rfl, hc1.setCell (fun _ => .inl rfl) _, vo', vc', ⟨?_, ?_, hsep1⟩, ?_⟩
  · exact heap_setCell hb1 0 _
  · have h2 := (Chg.refl (fun k => k = b) w1).setCell (p := ⟨b, 0, none⟩) (fun _ => rfl) (.slice vo' (rs ++ news).length vc')
    rw [cellsOf_append]
    refine h2.owns hown1 ?_
    intro k hk
    cases vo' with
    | none => simp [Value.ownBlock] at hk
    | some x =>
      simp [Value.ownBlock] at hk
      subst hk
      exact hsep1 x rfl
  · rcases hf1 with h | h
    · exact .inl h
    · exact .inr ⟨_, h, hsz⟩

theorem begin_any (b : Nat) (ao : Option Addr) (cap : Nat) (rs : List Rec) (s : ByteArray) (w : World) (hT : Timer w b ao cap rs) (hn : rs.length ≤ 4194304) :
    Calls Try.prog 24 #[.pointer (some ⟨b, 0, none⟩), .string s] w (Grew b ao (rs ++ [(s, false)]) w) := by
  obtain ⟨i0, hi, hz0, hz1, hz2⟩ := info_parts info56
  have hblk := hT.blk
  have hown := hT.own
  have hsep := hT.sep
  have hc := cell_of_heap hblk 0
  simp at hc
  have hsz := heap_lt hblk
  have HT := Lib.hid hT
  clear hT
  go_enter Try.func24, Try.ntmps24
  go_wp2_with (at_builtin; go_loud (refine wpList_append_fresh _ rfl (.tmp 10) (.tmp 14) 29 rfl 0 56 i0 _ 5 48 Try.underlying29 hi hz0 hz1 hz2 rfl (by decide) ao rs.length cap (cellsOf rs) rfl (hown.alloc _) (some ⟨w.heap.size, 0, none⟩) 1 1 (recCells (s, false)) rfl rfl (by simp) (cells_new w _ _) (rec_one _) (by unfold maxLen; omega) (by omega) (by omega) ?_; intro vo' vc' w1 hown1 hg1 hf1; have hb1 := hg1.heap ((heap_alloc_old w _ hsz).trans hblk) (fun ⟨x, h1, h2⟩ => hsep x h1 h2); have c1 := cell_of_heap hb1 0; have f1 := frozen_of_heap hb1 0; simp only [List.getElem?_toArray, List.getElem?_cons_zero] at c1))
  go_end0
  exact grew_close HT.out (cap := cap) (news := [(s, false)]) ((Chg.refl _ _).alloc _) (by simp) (by simpa [cellsOf] using hown1) hg1 hf1 hb1
theorem end_any (b : Nat) (ao : Option Addr) (cap : Nat) (rs : List Rec) (s : ByteArray) (w : World) (hT : Timer w b ao cap rs) (hn : rs.length ≤ 4194304) :
    Calls Try.prog 23 #[.pointer (some ⟨b, 0, none⟩), .string s] w (Grew b ao (rs ++ [(s, true)]) w) := by
  obtain ⟨i0, hi, hz0, hz1, hz2⟩ := info_parts info56
  have hblk := hT.blk
  have hown := hT.own
  have hsep := hT.sep
  have hc := cell_of_heap hblk 0
  simp at hc
  have hsz := heap_lt hblk
  have HT := Lib.hid hT
  clear hT
  go_enter Try.func23, Try.ntmps23
  go_wp2_with (at_builtin; go_loud (refine wpList_append_fresh _ rfl (.tmp 10) (.tmp 14) 29 rfl 0 56 i0 _ 5 48 Try.underlying29 hi hz0 hz1 hz2 rfl (by decide) ao rs.length cap (cellsOf rs) rfl (hown.alloc _) (some ⟨w.heap.size, 0, none⟩) 1 1 (recCells (s, true)) rfl rfl (by simp) (cells_new w _ _) (rec_one _) (by unfold maxLen; omega) (by omega) (by omega) ?_; intro vo' vc' w1 hown1 hg1 hf1; have hb1 := hg1.heap ((heap_alloc_old w _ hsz).trans hblk) (fun ⟨x, h1, h2⟩ => hsep x h1 h2); have c1 := cell_of_heap hb1 0; have f1 := frozen_of_heap hb1 0; simp only [List.getElem?_toArray, List.getElem?_cons_zero] at c1))
  go_end0
  exact grew_close HT.out (cap := cap) (news := [(s, true)]) ((Chg.refl _ _).alloc _) (by simp) (by simpa [cellsOf] using hown1) hg1 hf1 hb1

theorem cellsOf_get (rs : List Rec) (k : Nat) (hk : k < rs.length) : (cellsOf rs)[k * 5 + 3]? = some (.string rs[k].1) ∧ (cellsOf rs)[k * 5 + 4]? = some (.bool rs[k].2) := by
  induction rs generalizing k with
  | nil => simp at hk
  | cons r rs ih =>
    cases k with
    | zero => simp [cellsOf, recCells]
    | succ k =>
      have := ih k (by simpa using hk)
      have e3 : (k + 1) * 5 + 3 = (k * 5 + 3) + 5 := by omega
      have e4 : (k + 1) * 5 + 4 = (k * 5 + 4) + 5 := by omega
      rw [e3, e4]
      simp only [cellsOf, List.flatMap_cons, List.getElem_cons_succ] at this ⊢
      rw [List.getElem?_append_right (by simp [recCells]), List.getElem?_append_right (by simp [recCells])]
      simpa [recCells] using this

theorem Timer.cells {w : World} {b : Nat} {ao : Option Addr} {cap : Nat} {rs : List Rec} (h : Timer w b ao cap rs) (k : Nat) (hk : k < rs.length) :
    ∃ g, ao = some ⟨g, 0, none⟩ ∧ w.cell? ⟨g, k * 5 + 3, none⟩ = some (.string rs[k].1) ∧ w.cell? ⟨g, k * 5 + 4, none⟩ = some (.bool rs[k].2) := by
  rcases ownsRow_addr h.own with ⟨_, h0, _⟩ | ⟨g, hg, _⟩
  · omega
  · subst hg
    have := cellsOf_get rs k hk
    exact ⟨g, rfl, by rw [h.own.cellAt _ (by omega)]; exact this.1, by rw [h.own.cellAt _ (by omega)]; exact this.2⟩

theorem len_any (b : Nat) (ao : Option Addr) (cap : Nat) (rs : List Rec) (w : World) (hT : Timer w b ao cap rs) :
    Calls Try.prog 13 #[.pointer (some ⟨b, 0, none⟩)] w fun e w' => e = .returned (.int .i64 rs.length) ∧ w = w' := by
  have hc := cell_of_heap hT.blk 0
  simp at hc
  clear hT
  go_enter Try.func13, Try.ntmps13
  go_wp2
  go_ret
  exact ⟨rfl, rfl⟩

theorem name_any (b : Nat) (ao : Option Addr) (cap : Nat) (rs : List Rec) (r : Rec) (k : Nat) (hr : rs[k]? = some r) (x : Int) (hx : x = k) (w : World) (hT : Timer w b ao cap rs) :
    Calls Try.prog 25 #[.pointer (some ⟨b, 0, none⟩), .int .i64 x] w fun e w' => e = .returned (.string r.1) ∧ w = w' := by
  subst hx
  obtain ⟨hk, rfl⟩ := List.getElem?_eq_some_iff.1 hr
  have hc := cell_of_heap hT.blk 0
  simp at hc
  obtain ⟨g, rfl, h3, h4⟩ := hT.cells k hk
  clear hT
  go_enter Try.func25, Try.ntmps25
  go_wp2
  go_ret
  exact ⟨rfl, rfl⟩

theorem isEnd_any (b : Nat) (ao : Option Addr) (cap : Nat) (rs : List Rec) (r : Rec) (k : Nat) (hr : rs[k]? = some r) (x : Int) (hx : x = k) (w : World) (hT : Timer w b ao cap rs) :
    Calls Try.prog 26 #[.pointer (some ⟨b, 0, none⟩), .int .i64 x] w fun e w' => e = .returned (.bool r.2) ∧ w = w' := by
  subst hx
  obtain ⟨hk, rfl⟩ := List.getElem?_eq_some_iff.1 hr
  have hc := cell_of_heap hT.blk 0
  simp at hc
  obtain ⟨g, rfl, h3, h4⟩ := hT.cells k hk
  clear hT
  go_enter Try.func26, Try.ntmps26
  go_wp2
  go_ret
  exact ⟨rfl, rfl⟩

def endAt (m : Nat) (es : Nat → Bool) (i : Nat) : Bool := decide (i < m) && es i

theorem endAt_any (a : Option Addr) (m cap : Nat) (es : Nat → Bool) (i : Nat) (hi : i ≤ 9223372036854775807) (w : World) (hR : Reads w a m fun i => .bool (es i)) :
    Calls Try.prog 22 #[.slice a m cap, .int .i64 i] w fun e w' => e = .returned (.bool (endAt m es i)) ∧ w = w' := by
  unfold endAt
  by_cases h : i < m
  · rcases hR with h0 | ⟨g, o, rfl, hR⟩
    · omega
    · have hc := hR i h
      have hx : (i : Int) < (m : Int) := by omega
      clear hR
      go_enter Try.func22, Try.ntmps22
      go_wp2
      go_ret
      exact ⟨by simp [h], rfl⟩
  · clear hR
    have hx : decide ((i : Int) < (m : Int)) = false := by simp; omega
    go_enter Try.func22, Try.ntmps22
    go_wp2
    go_ret
    exact ⟨by simp [h], rfl⟩

end Go.Proofs.Ytaghkncaeedlkaa
