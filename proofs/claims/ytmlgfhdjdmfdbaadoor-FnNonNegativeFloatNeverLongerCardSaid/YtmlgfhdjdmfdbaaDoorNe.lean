/-
  Proved: strconv.FormatUint in base 16 gives some text. No statement of the seat stands here.
-/
import Derived.Test.YtmlgfhdjdmfdbaaDoorNd
import Derived.Deep.CutRange
import Derived.Deep.DeepCutAuto
namespace Go.Proofs.YtmlgfhdjdmfdbaaDoor
open Go.RowKit Go.ChangeAt
set_option linter.unusedSimpArgs false
set_option linter.unusedVariables false
set_option maxRecDepth 100000
def Tab4 (w : World) : Prop := w.cell? ⟨6, 15, none⟩ = some (.int .u8 4)
theorem pow60 (w : World) : Calls Tryd.prog 60 #[.int .i64 16] w (Same' (.bool true) w) := by
  have k : (bits .and .i64 16 15 == 0) = true := by kernel_rfl
  go_enter Tryd.func60, Tryd.ntmps60
  go_wp2
  go_ret
  exact ⟨rfl, rfl⟩
set_option maxHeartbeats 4000000 in
theorem tz67 (w : World) (h : Tab4 w) : Calls Tryd.prog 67 #[.int .u64 16] w (Same' (.int .i64 4) w) := by
  have k : (IntKind.u64.wrap (bits .and .u64 16 (IntKind.u64.wrap (-16)) * 285870213051353865)) / 288230376151711744 = 15 := by kernel_rfl
  unfold Tab4 at h
  have hb := World.block_lt_of_cell? w _ h
  go_enter Tryd.func67, Tryd.ntmps67
  go_wp2_with fail
  go_ret
  exact ⟨rfl, rfl⟩
theorem tz61 (w : World) (h : Tab4 w) : Calls Tryd.prog 61 #[.int .u64 16] w (Same' (.int .i64 4) w) := by
  go_enter Tryd.func61, Tryd.ntmps61
  go_wp2_with fail
  refine (tz67 w h).mono ?_
  rintro ex w1 ⟨rfl, rfl⟩
  go_wp2_with fail
  go_ret
  exact ⟨rfl, rfl⟩
theorem and15 (x : Nat) (h : x < 18446744073709551616) : bits .and .u64 (x : Int) 15 = ((x % 16 : Nat) : Int) := by
  have h2 : (BitVec.ofInt 64 (x : Int)).toNat = x := by
    rw [BitVec.ofInt_natCast, BitVec.toNat_ofNat]; exact Nat.mod_eq_of_lt (by omega)
  show IntKind.u64.wrap ((BitVec.ofInt 64 (x : Int) &&& BitVec.ofInt 64 15).toNat : Int) = _
  have h3 : (BitVec.ofInt 64 15).toNat = 2 ^ 4 - 1 := by decide
  rw [BitVec.toNat_and, h2, h3, Nat.and_two_pow_sub_one_eq_mod]
  rw [IntKind.wrap_u64]
  omega
def hexD : ByteArray := ⟨#[48, 49, 50, 51, 52, 53, 54, 55, 56, 57, 97, 98, 99, 100, 101, 102, 103, 104, 105, 106, 107, 108, 109, 110, 111, 112, 113, 114, 115, 116, 117, 118, 119, 120, 121, 122]⟩
/-- Bytes in block K from place i on. -/
def From (K i : Nat) (l : List UInt8) (w : World) : Prop := ∀ j u, (Lib.byteCells l)[j]? = some u → w.cell? ⟨K, i + j, none⟩ = some u
structure HexAt (K i x : Nat) (w wr : World) : Prop where
  ib : 50 ≤ i ∧ i ≤ 65
  xb : x < 16 ^ (i - 49)
  bytes : ∃ l, l.length = 65 - i ∧ From K i l wr
  blk : ∃ cur, wr.heap[K]? = some (.cells cur 130 (0, 0)) ∧ cur.size = 65
  chg : Chg Nowhere w wr
theorem from_cons {K i : Nat} {l : List UInt8} {w : World} {cur : Array Value} {e : TypeId} (h : From K (i + 1) l w) (hb : w.heap[K]? = some (.cells cur e (0, 0))) (hi : i < cur.size) (d : UInt8) : From K i (d :: l) (w.setCell ⟨K, i, none⟩ (.int .u8 (d.toNat : Int))) := by
  intro j u hj
  have h1 := heap_setCell hb i (Value.int .u8 (d.toNat : Int))
  rw [cell_of_heap h1]
  cases j with
  | zero =>
    simp only [Lib.byteCells, List.map_cons, List.getElem?_cons_zero, Option.some.injEq] at hj
    rw [Nat.add_zero, Array.getElem?_setIfInBounds, if_pos rfl, if_pos hi, ← hj]
  | succ j =>
    rw [Array.getElem?_setIfInBounds_ne (by omega)]
    have h3 := h j u (by simpa [Lib.byteCells] using hj)
    rw [cell_of_heap hb] at h3
    rw [← h3]
    congr 1
    omega
theorem HexAt.next {K i x : Nat} {w wr : World} (h : HexAt K (i + 1) x w wr) (hK : w.heap.size ≤ K) (d : UInt8) : (∃ l, l.length = 65 - i ∧ From K i l (wr.setCell ⟨K, i, none⟩ (.int .u8 (d.toNat : Int)))) ∧
    (∃ cur, (wr.setCell ⟨K, i, none⟩ (.int .u8 (d.toNat : Int))).heap[K]? = some (.cells cur 130 (0, 0)) ∧ cur.size = 65) ∧ Chg Nowhere w (wr.setCell ⟨K, i, none⟩ (.int .u8 (d.toNat : Int))) := by
  obtain ⟨l, hl, hf⟩ := h.bytes
  obtain ⟨cur, hb, hs⟩ := h.blk
  have hi := h.ib
  refine ⟨⟨d :: l, by rw [List.length_cons, hl]; omega, from_cons hf hb (by omega) d⟩, ⟨_, heap_setCell hb i _, by simpa using hs⟩, ?_⟩
  exact (Chg.setCell (S := fun k => k = K) (p := ⟨K, i, none⟩) (h.chg.mono (fun _ _ h => h.elim)) (fun _ => rfl) _).mono (fun k hk hs => by omega)
def StrSome (w : World) (e : Ending) (w' : World) : Prop := ∃ s : ByteArray, e = .returned (.tuple #[.slice none 0 0, .string s]) ∧ s.size ≤ 100 ∧ Chg Nowhere w w'
set_option maxHeartbeats 8000000 in
theorem fmt39 (u : Nat) (hu : u < 18446744073709551616) (w : World) (h4 : Tab4 w) : Calls Tryd.prog 39 #[.slice none 0 0, .int .u64 u, .int .i64 16, .bool false, .bool false] w (StrSome w) := by
  have H4 := Lib.hid h4
  clear h4
  go_enter Tryd.func39, Tryd.ntmps39
  go_wp2_with fail
  refine (pow60 _).mono ?_
  rintro ex w1 ⟨rfl, rfl⟩
  go_wp2_with fail
  refine (tz61 _ (((Chg.refl Nowhere w).alloc _).cell H4.out (fun h => h))).mono ?_
  rintro ex w1 ⟨rfl, rfl⟩
  go_wp2_with fail
  go_loopw [1, 13] (fun c1 c13 wr => ∃ x i : Nat, c1 = .int .u64 x ∧ c13 = .int .i64 i ∧ HexAt w.heap.size i x w wr) (fun _ c13 _ => (intOf c13).toNat)
  case atStart =>
    refine ⟨u, 65, rfl, rfl, ⟨by omega, ?_, ⟨[], rfl, fun j u hj => by simp [Lib.byteCells] at hj⟩, ⟨_, heap_alloc_new w _, by rfl⟩, (Chg.refl Nowhere w).alloc _⟩⟩
    have h3 : (16 : Nat) ^ (65 - 49) = 18446744073709551616 := by decide
    rw [h3]; exact hu
  case round =>
    obtain ⟨x, i, rfl, rfl, hh⟩ := hrel
    have hib := hh.ib
    have hx64 : x < 18446744073709551616 := by
      have h1 := hh.xb
      have h2 : 16 ^ (i - 49) ≤ 16 ^ 16 := Nat.pow_le_pow_right (by decide) (by omega)
      have h3 : (16 : Nat) ^ 16 = 18446744073709551616 := by decide
      rw [h3] at h2
      exact Nat.lt_of_lt_of_le h1 h2
    have hge : 16 ≤ x → 51 ≤ i := fun h => by
      have h1 := hh.xb
      by_cases h2 : i = 50
      · subst h2
        have h3 : (16 : Nat) ^ (50 - 49) = 16 := by decide
        rw [h3] at h1
        omega
      · omega
    obtain ⟨i', rfl⟩ : ∃ i', i = i' + 1 := ⟨i - 1, by omega⟩
    have hKl : w.heap.size < wr.heap.size := by obtain ⟨cur, h1, _⟩ := hh.blk; exact heap_lt h1
    obtain ⟨v0, hcell⟩ : ∃ v, wr.cell? ⟨w.heap.size, i', none⟩ = some v := by
      obtain ⟨cur, h1, h2⟩ := hh.blk
      exact ⟨cur[i'], by rw [cell_of_heap h1, Array.getElem?_eq_getElem (by omega)]⟩
    have hfz : wr.frozen? ⟨w.heap.size, i', none⟩ = false := by obtain ⟨cur, h1, _⟩ := hh.blk; exact frozen_of_heap h1 _
    have ha := and15 x hx64
    have hy0 : (0 : Int) ≤ (i' : Int) := by omega
    have hy1 : (i' : Int) < 65 := by omega
    have hy2 : (i' : Int) ≤ 65 := by omega
    have hz0 : (0 : Int) ≤ ((x % 16 : Nat) : Int) := by omega
    have hz1 : ((x % 16 : Nat) : Int) < 36 := by omega
    have hnext := fun d => hh.next (Nat.le_refl _) d
    have Hx := Lib.hid hh.xb
    have Hn := Lib.hid hnext
    clear hnext hh
    by_cases h16 : 16 ≤ x
    · have hg : ((16 : Int) ≤ (x : Int)) = True := eq_true (by omega)
      have hi51 := hge h16
      go_wp2_with fail
      obtain ⟨k1, k2, k3⟩ := Hn.out _
      refine ⟨⟨x / 16, i', congrArg (Value.int .u64) (by omega), rfl, ⟨by omega, ?_, k1, k2, k3⟩⟩, by simp [intOf]⟩
      have h1 := Hx.out
      rw [show i' + 1 - 49 = (i' - 49) + 1 by omega, Nat.pow_succ] at h1
      exact Nat.div_lt_of_lt_mul (by rw [Nat.mul_comm]; exact h1)
    · have hg : ((16 : Int) ≤ (x : Int)) = False := eq_false (by omega)
      have hx0 : (0 : Int) ≤ (x : Int) := by omega
      have hx1 : (x : Int) < 36 := by omega
      have hconv : ∀ d : UInt8, ∃ s : ByteArray, (convert 26 9 (.slice (some ⟨w.heap.size, i', none⟩) (65 - i') (65 - i'))).run Tryd.prog (wr.setCell ⟨w.heap.size, i', none⟩ (.int .u8 (d.toNat : Int))) = .ok (.string s) (wr.setCell ⟨w.heap.size, i', none⟩ (.int .u8 (d.toNat : Int))) ∧ s.size ≤ 100 := fun d => by
        obtain ⟨⟨l, hl, hf⟩, _, _⟩ := Hn.out d
        have := run_convert_bytes_back (P := Tryd.prog) (wr.setCell ⟨w.heap.size, i', none⟩ (.int .u8 (d.toNat : Int))) 26 9 5 ⟨w.heap.size, i', none⟩ (65 - i') l Tryd.underlying26 Tryd.underlying5 Tryd.underlying9 fun j hj => by
          rw [add_cell]
          exact hf j _ (by simp [Lib.byteCells, hj])
        rw [hl] at this
        exact ⟨_, this, by show l.toArray.size ≤ 100; rw [List.size_toArray, hl]; omega⟩
      obtain ⟨s, hs, hs100⟩ := hconv (hexD[x]'(by show x < 36; omega))
      have Hc := Lib.hid (Hn.out (hexD[x]'(by show x < 36; omega))).2.2
      unfold hexD at hs Hc
      go_wp2_with fail
      go_ret2
      exact ⟨s, rfl, hs100, Hc.out⟩
def StrAny (w : World) (e : Ending) (w' : World) : Prop := ∃ s : ByteArray, e = .returned (.string s) ∧ s.size ≤ 100 ∧ Chg Nowhere w w'
theorem fmt15 (u : Nat) (hu : u < 18446744073709551616) (w : World) (h4 : Tab4 w) : Calls Tryd.prog 15 #[.int .u64 u, .int .i64 16] w (StrAny w) := by
  have h := fmt39 u hu w h4
  have h21 : Calls Tryd.prog 21 #[.int .u64 u, .int .i64 16] w (StrAny w) := by
    go_enter Tryd.func21, Tryd.ntmps21
    go_wp2_with fail
    refine h.mono ?_
    rintro ex w1 ⟨s, rfl, hs100, hc⟩
    have Hc := Lib.hid hc
    clear hc
    go_wp2_with fail
    go_ret
    exact ⟨s, rfl, hs100, Hc.out⟩
  go_enter Tryd.func15, Tryd.ntmps15
  go_wp2_with fail
  refine h21.mono ?_
  rintro ex w1 ⟨s, rfl, hs100, hc⟩
  have Hc := Lib.hid hc
  clear hc
  go_wp2_with fail
  go_ret
  exact ⟨s, rfl, hs100, Hc.out⟩
end Go.Proofs.YtmlgfhdjdmfdbaaDoor
