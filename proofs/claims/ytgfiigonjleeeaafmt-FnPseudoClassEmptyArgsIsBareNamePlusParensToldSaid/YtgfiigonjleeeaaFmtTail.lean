/-
  Proved: contracts of b3CloneBytes and b3Tail. No statement of the seat stands here.
-/
import Derived.Test.YtgfiigonjleeeaaFmtZz
import Derived.Laws.CopyRow
import Derived.RegionTactic
namespace Go.Proofs.YtgfiigonjleeeaaFmt
open Go.RowKit Go.ChangeAt
set_option linter.unusedSimpArgs false
set_option linter.unusedVariables false
set_option maxRecDepth 100000
def byteAt (l : List UInt8) (i : Nat) : Value := .int .u8 ((l.getD i 0).toNat : Int)
theorem make28 (n : Nat) (hn : n ≤ 2097152) (W : World) : (Instr.makeSlice 28 (.int .i64 n) (.int .i64 n)).run Tryf.prog W = .ok (.slice (some ⟨W.heap.size, 0, none⟩) n n) (W.alloc (.cells (madeCells #[.int .u8 0] n) 5)) := by
  obtain ⟨i0, hi, hz0, hz1, hz2⟩ := info_parts info5
  have h := run_make (P := Tryf.prog) W 28 5 i0 _ Tryf.underlying28 hi hz0 .i64 .i64 n n (by omega) (by omega) (by rw [hz2]; omega) (by omega)
  rw [h, hz1]
  simp [Value.cells]
def CloneOut (pre : List UInt8) (w : World) (e : Ending) (w' : World) : Prop :=
  ∃ vo vc, e = .returned (.slice vo pre.length vc) ∧ w'.ownsRow w.heap.size 5 1 (.slice vo pre.length vc) pre.length (Lib.byteCells pre) ∧ Chg Nowhere w w'
theorem byteCells_get (pre : List UInt8) (j : Nat) (v : Value) (h : (Lib.byteCells pre)[j]? = some v) : j < pre.length ∧ v = byteAt pre j := by
  simp only [Lib.byteCells, List.getElem?_map, Option.map_eq_some_iff] at h
  obtain ⟨x, hx, rfl⟩ := h
  have hj := (List.getElem?_eq_some_iff.1 hx).1
  refine ⟨hj, ?_⟩
  simp [byteAt, List.getD, hx]
theorem size5 : (Tryf.prog.info? 5).map (·.size) = some 1 := by kernel_rfl
theorem clone14 (a : Option Addr) (c : Nat) (pre : List UInt8) (w : World) (hnil : a = none → pre.length = 0) (hn : pre.length ≤ 1048576) (hR : Reads w a pre.length (byteAt pre)) :
    Calls Tryf.prog 14 #[.slice a pre.length c] w (CloneOut pre w) := by
  cases a with
  | none =>
    have h0 := hnil rfl
    have hp : pre = [] := List.eq_nil_of_length_eq_zero h0
    subst hp
    have hq := fun W : World => Lib.run_eql_slice_nil (P := Tryf.prog) W 28 5 none 0 c 0 0 Tryf.underlying28
    clear h0
    simp only [List.length_nil]
    go_enter Tryf.func14, Tryf.ntmps14
    go_wp2
    go_ret
    exact ⟨none, 0, rfl, ⟨rfl, .inl ⟨rfl, rfl⟩⟩, Chg.refl _ _⟩
  | some ad =>
    have hq := fun W : World => Lib.run_eql_slice_nil (P := Tryf.prog) W 28 5 (some ad) pre.length c 0 0 Tryf.underlying28
    have hmk := make28 pre.length (by omega) w
    have hlen : (Lib.byteCells pre).length = pre.length := by simp [Lib.byteCells]
    have hcp : (Builtin.copy_ #[28, 28] 3 #[.slice (some ⟨w.heap.size, 0, none⟩) pre.length pre.length, .slice (some ad) pre.length c]).run Tryf.prog (w.alloc (.cells (madeCells #[.int .u8 0] pre.length) 5)) =
        .ok (goInt pre.length) (w.alloc (.cells (Lib.byteCells pre).toArray 5)) := by
      have h := run_copy_row (P := Tryf.prog) (w.alloc (.cells (madeCells #[.int .u8 0] pre.length) 5)) 28 28 3 5 w.heap.size 0 pre.length pre.length ad pre.length c (madeCells #[.int .u8 0] pre.length) 5 (Lib.byteCells pre)
        Tryf.underlying28 size5 (heap_alloc_new w _) (by rw [hlen]; simp) (fun j v hv => by
          obtain ⟨hj, rfl⟩ := byteCells_get pre j v hv
          rcases hR with h0 | ⟨g, o, h1, h2⟩
          · omega
          · injection h1 with h1
            subst h1
            rw [add_cell]
            have hch : Chg Nowhere w (w.alloc (.cells (madeCells #[.int .u8 0] pre.length) 5)) := (Chg.refl _ w).alloc _
            exact hch.cell (h2 j hj) (fun h => h)) (by rw [hlen, size_madeCells]; omega) (by
          intro v hv
          simp [Lib.byteCells] at hv
          obtain ⟨x, _, rfl⟩ := hv
          rfl)
      rw [h, World.setRow_alloc_new, hlen]
      congr 3
      have hd : (madeCells #[Value.int .u8 0] pre.length).toList.drop (0 + pre.length) = [] := List.drop_eq_nil_of_le (by rw [Array.length_toList, size_madeCells]; omega)
      rw [hd]
      simp
    go_enter Tryf.func14, Tryf.ntmps14
    go_wp2
    go_ret
    refine ⟨some ⟨w.heap.size, 0, none⟩, pre.length, rfl, ⟨by simpa using hlen, .inr ⟨w.heap.size, pre.length, (Lib.byteCells pre).toArray, rfl, Nat.le_refl _, heap_alloc_new w _, Nat.le_refl _, by unfold maxLen; omega, by simpa using hlen, ?_⟩⟩, (Chg.refl _ w).alloc _⟩
    simp [hlen]
    rw [← hlen, List.take_length]
def TailOut (rest : List UInt8) (w : World) (e : Ending) (w' : World) : Prop := e = .returned (.tuple #[.string ⟨rest.toArray⟩, .bool true]) ∧ ∃ q, w' = w.drewN q
theorem tail16 (g1 c1 : Nat) (a2 : Option Addr) (c2 : Nat) (pre rest : List UInt8) (w : World) (hn : pre.length + rest.length ≤ 4194304)
    (h1 : ∀ i, i < pre.length + rest.length → w.cell? ⟨g1, i, none⟩ = some (byteAt (pre ++ rest) i)) (hr : 0 < rest.length) (hc1 : pre.length + rest.length ≤ c1) (hcm : c1 ≤ 9223372036854775807) (h2 : Reads w a2 pre.length (byteAt pre)) :
    Calls Tryf.prog 16 #[.slice (some ⟨g1, 0, none⟩) (pre.length + rest.length) c1, .slice a2 pre.length c2] w (TailOut rest w) := by
  have hne : ¬ c1 = pre.length := by omega
  have hl : ¬ ((pre.length + rest.length : Nat) : Int) < (pre.length : Int) := by omega
  have hcv : ∀ q c, (convert 28 9 (.slice (some ⟨g1, pre.length, none⟩) rest.length c)).run Tryf.prog (w.drewN q) = .ok (.string ⟨rest.toArray⟩) (w.drewN q) := fun q c =>
    run_convert_bytes_back (w.drewN q) 28 9 5 ⟨g1, pre.length, none⟩ c rest Tryf.underlying28 Tryf.underlying5 Tryf.underlying9 fun j hj => by
      have hdq : (w.drewN q).cell? ((⟨g1, pre.length, none⟩ : Addr).add j) = w.cell? ((⟨g1, pre.length, none⟩ : Addr).add j) := rfl
      rw [hdq, add_cell, h1 _ (by omega)]
      simp [byteAt, List.getD, List.getElem?_append_right, hj]
  have H1 := Lib.hid h1
  have H2 := Lib.hid h2
  clear h1 h2
  go_enter Tryf.func16, Tryf.ntmps16
  go_wp2
  go_loopw [6] (fun i wr => ∃ k : Nat, k ≤ pre.length ∧ i = .int .i64 k ∧ ∃ q, wr = w.drewN q) (fun i _ => pre.length - (intOf i).toNat)
  case atStart => exact ⟨0, by omega, rfl, 0, rfl⟩
  case round =>
    obtain ⟨k, hk, rfl, q0, rfl⟩ := hrel
    by_cases hlt : k < pre.length
    · rcases H2.out with h0 | ⟨g, o, rfl, hR1⟩
      · omega
      have d2 := hR1 k hlt
      have d1 := H1.out k (by omega)
      have e : byteAt (pre ++ rest) k = byteAt pre k := by simp [byteAt, List.getD, List.getElem?_append_left hlt]
      rw [e] at d1
      unfold byteAt at d1 d2
      generalize (pre.getD k 0).toNat = q at d1 d2
      clear hR1 e
      have hx1 : (k : Int) < (pre.length : Int) := by omega
      have hx2 : (k : Int) < ((pre.length + rest.length : Nat) : Int) := by omega
      have hx0 : (0 : Int) ≤ (k : Int) := by omega
      go_wp2
      go_region
      go_wp2
      go_roundw
      case rel => exact ⟨k + 1, by omega, by go_num, _, rfl⟩
      case measure => simp [intOf]; omega
    · obtain rfl : k = pre.length := by omega
      go_wp2
      go_ret2
      exact ⟨rfl, q0, rfl⟩
end Go.Proofs.YtgfiigonjleeeaaFmt
