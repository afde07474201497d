/-
  Proved: the contract of zzItoa. No statement of the seat stands here.
-/
import Derived.Test.YtambbfgmbfamkaaGreatDoorRep
import Derived.Deep.DeepCutAuto
namespace Go.Proofs.YtambbfgmbfamkaaGreatDoor
open Go.RowKit Go.ChangeAt
set_option linter.unusedSimpArgs false
set_option linter.unusedVariables false
set_option maxRecDepth 100000
def itoaAux (x : Nat) (acc : List UInt8) : List UInt8 := if h : x = 0 then acc else itoaAux (x / 10) (UInt8.ofNat (48 + x % 10) :: acc)
  termination_by x
  decreasing_by omega
def itoa (x : Nat) : ByteArray := ⟨(if x = 0 then [48] else itoaAux x []).toArray⟩
/-- The digits that stand at the row's end. -/
def Digs (wr : World) (b : Nat) (acc : List UInt8) : Prop := ∃ cur : Array Value, wr.heap[b]? = some (.cells cur 45 (0, 0)) ∧ cur.size = 24 ∧ ∀ (i : Nat) (c : UInt8), acc[i]? = some c → cur[24 - acc.length + i]? = some (.int .u8 c.toNat)
theorem itoaAux_step (x : Nat) (acc : List UInt8) (h : x ≠ 0) : itoaAux x acc = itoaAux (x / 10) (UInt8.ofNat (48 + x % 10) :: acc) := by
  rw [itoaAux, dif_neg h]
theorem itoaAux_zero (acc : List UInt8) : itoaAux 0 acc = acc := by rw [itoaAux, dif_pos rfl]
theorem Digs.start (w : World) (cs : Array Value) (h : cs.size = 24) : Digs (w.alloc (.cells cs 45)) w.heap.size [] :=
  ⟨cs, heap_alloc_new _ _, h, fun i c hc => by simp at hc⟩
theorem Digs.step {wr : World} {b : Nat} {acc : List UInt8} (h : Digs wr b acc) (c : UInt8) (hl : acc.length < 24) : Digs (wr.setCell ⟨b, 23 - acc.length, none⟩ (.int .u8 c.toNat)) b (c :: acc) := by
  obtain ⟨cur, h1, h2, h3⟩ := h
  refine ⟨_, heap_setCell h1 _ _, by simpa using h2, fun i d hd => ?_⟩
  rw [Array.getElem?_setIfInBounds]
  cases i with
  | zero =>
    have : c = d := by simpa using hd
    subst this
    rw [if_pos (by first | (simp; done) | (simp; omega))]
    first | rfl | (rw [if_pos (by omega)])
  | succ j =>
    have hd' : acc[j]? = some d := by simpa using hd
    rw [if_neg (by first | (simp; done) | (simp; omega)), ← h3 j d hd']
    congr 1
    first | (simp; omega) | simp
theorem Digs.cell {wr : World} {b : Nat} {acc : List UInt8} (h : Digs wr b acc) (j : Nat) (hj : j < 24) : ∃ v, wr.cell? ⟨b, j, none⟩ = some v := by
  obtain ⟨cur, h1, h2, h3⟩ := h
  exact ⟨cur[j]'(by omega), (cell_of_heap h1 j).trans (Array.getElem?_eq_getElem (by omega))⟩
theorem Digs.frozen {wr : World} {b : Nat} {acc : List UInt8} (h : Digs wr b acc) (j : Nat) : wr.frozen? ⟨b, j, none⟩ = false := by
  obtain ⟨cur, h1, h2, h3⟩ := h
  exact frozen_of_heap h1 j
set_option maxHeartbeats 4000000 in
theorem itoa7 (k : Nat) (w : World) (hk : k ≤ 1048576) : Calls Tryz.prog 7 #[.int .i64 k] w (TxtOut (itoa k) w) := by
  by_cases h0 : k = 0
  · subst h0
    go_enter Tryz.func7, Tryz.ntmps7
    go_wp2
    go_ret
    exact ⟨rfl, Chg.refl _ _⟩
  have hi : itoa k = ⟨(itoaAux k []).toArray⟩ := by unfold itoa; rw [if_neg h0]
  have HI := Lib.hid hi
  have hk0 : ((k : Int) == 0) = false := beq_eq_false_iff_ne.2 (by omega)
  clear hi
  go_enter Tryz.func7, Tryz.ntmps7
  go_wp2_with fail
  go_loopw [0, 4] (fun x p wr => ∃ X : Nat, ∃ acc : List UInt8, acc.length ≤ 7 ∧ x = .int .i64 X ∧ p = .int .i64 ((24 - acc.length : Nat) : Int) ∧ X < 10 ^ (7 - acc.length) ∧ (X = 0 → acc ≠ []) ∧ itoaAux X acc = itoaAux k [] ∧ Digs wr w.heap.size acc ∧ Chg Nowhere w wr) (fun x _ _ => (intOf x).toNat)
  case atStart => exact ⟨k, [], by simp, rfl, rfl, by simp; omega, fun h => absurd h h0, rfl, Digs.start w _ rfl, (Chg.refl _ _).alloc _⟩
  case round =>
    obtain ⟨X, acc, hl, rfl, rfl, hX, hne, hit, hd, hch⟩ := hrel
    have Hne := Lib.hid hne
    have Hit := Lib.hid hit
    have HX := Lib.hid hX
    have Hd := Lib.hid hd
    have Hch := Lib.hid hch
    rename World => wr
    by_cases hz : X = 0
    · subst hz
      clear hX hne hit hd hch
      obtain ⟨p, hp⟩ : ∃ p, p = 24 - acc.length := ⟨_, rfl⟩
      rw [← hp]
      have hp1 : (p : Int) ≤ 24 := by omega
      have hp2 : (0 : Int) ≤ (p : Int) := by omega
      have hac : acc.length = 24 - p := by omega
      have hcv : (convert 27 9 (.slice (some ⟨w.heap.size, p, none⟩) (24 - p) (24 - p))).run Tryz.prog wr = .ok (.string ⟨acc.toArray⟩) wr := by
        have hh := run_convert_bytes_back (P := Tryz.prog) wr 27 9 5 ⟨w.heap.size, p, none⟩ (24 - p) acc Tryz.underlying27 Tryz.underlying5 Tryz.underlying9 (fun j hj => by
          obtain ⟨cur, g1, g2, g3⟩ := Hd.out
          have := g3 j (acc[j]'hj) (List.getElem?_eq_getElem hj)
          rw [← hp] at this
          have ea : (⟨w.heap.size, p, none⟩ : Addr).add j = ⟨w.heap.size, p + j, none⟩ := by simp [Addr.add]
          rw [ea]
          exact (cell_of_heap g1 (p + j)).trans this)
        rw [hac] at hh
        exact hh
      have Hhp := Lib.hid (And.intro hp hac)
      have hpl : p < 24 := by
        have h1 := List.length_pos_iff.2 (Hne.out rfl)
        omega
      have hp4 : ¬ (24 - p = 0) := by omega
      have hp5 : ¬ (24 ≤ p) := by omega
      have hp6 : (p : Int) < 24 := by omega
      clear hp hac
      go_wp2_with fail
      all_goals (try omega)
      go_ret
      refine ⟨?_, Hch.out⟩
      rw [HI.out, ← Hit.out, itoaAux_zero]
      rfl
    · have hl6 : acc.length ≤ 6 := by
        refine Nat.le_of_not_lt fun h7 => hz ?_
        have : acc.length = 7 := by omega
        rw [this] at hX
        simp at hX
        exact hX
      have hXb : X ≤ 10000000 := by
        have := Nat.pow_le_pow_right (show 0 < 10 by omega) (show 7 - acc.length ≤ 7 by omega)
        have e7 : (10 : Nat) ^ 7 = 10000000 := by decide
        omega
      obtain ⟨v, hv⟩ := hd.cell (23 - acc.length) (by omega)
      have hfz := hd.frozen (23 - acc.length)
      clear hX hne hit hd hch
      have x1 : (X : Int) > 0 := by omega
      have x2 : ((24 - acc.length : Nat) : Int) - 1 = ((23 - acc.length : Nat) : Int) := by omega
      have x3 : ((23 - acc.length : Nat) : Int) < 24 := by omega
      have x4 : wrap64 ((X : Int) / 10) = ((X / 10 : Nat) : Int) := by
        have : ((X : Int) / 10) = ((X / 10 : Nat) : Int) := by omega
        rw [this]
        unfold wrap64; omega
      go_wp2_with fail
      go_roundw
      case rel =>
        have hc : ((UInt8.ofNat (48 + X % 10)).toNat : Int) = 48 + (X : Int) % 10 := by
          rw [UInt8.toNat_ofNat']
          omega
        refine ⟨X / 10, UInt8.ofNat (48 + X % 10) :: acc, by simp; omega, congrArg (Value.int .i64) (show (X : Int) / 10 = ((X / 10 : Nat) : Int) by omega), ?_, ?_, (fun _ h => by cases h), (itoaAux_step X acc hz).symm.trans Hit.out, ?_, Hch.out.setCell (fun h => absurd h (Nat.lt_irrefl _)) _⟩
        · congr 2; simp
        · have := HX.out
          rw [show 7 - acc.length = (6 - acc.length) + 1 by omega, Nat.pow_succ] at this
          rw [List.length_cons, show 7 - (acc.length + 1) = 6 - acc.length by omega]
          omega
        · rw [← hc]
          exact Hd.out.step _ (by omega)
      case measure =>
        show ((X : Int) / 10).toNat < ((X : Nat) : Int).toNat
        omega
end Go.Proofs.YtambbfgmbfamkaaGreatDoor
