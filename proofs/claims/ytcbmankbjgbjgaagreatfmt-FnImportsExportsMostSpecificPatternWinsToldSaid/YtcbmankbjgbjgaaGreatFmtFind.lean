/-
  Proved: contracts of zzIndexAny and findInvalidSegment. No statement of the seat stands here.
-/
import Derived.Test.YtcbmankbjgbjgaaGreatFmtBase
import Derived.Laws.RangeAny
import Derived.Lib.OthersKept
import Derived.Deep.DeepCutAuto
import Derived.WideShapes
import Derived.Test.YtcbmankbjgbjgaaGreatFmtChecked
namespace Go.Proofs.YtcbmankbjgbjgaaGreatFmt
open Go.RowKit Go.ChangeAt
open Go.Lib (run_next_any_at run_next_end_at iterAt_heap iterAt_other iterAt_size below_iterAt)
set_option linter.unusedSimpArgs false
set_option linter.unusedVariables false
set_option maxRecDepth 100000
def bt (s : ByteArray) (i : Nat) : Nat := if h : i < s.size then (s[i]'h).toNat else 0
theorem bt_eq (s : ByteArray) (i : Nat) (h : i < s.size) : (s[i]'h).toNat = bt s i := by unfold bt; rw [dif_pos h]
theorem bt_get (s : ByteArray) (i : Nat) (h : i < s.size) : (s.get! i).toNat = bt s i := by
  rw [← bt_eq s i h, ← get_at s i h]; rfl
/-- A separator stands at i. -/
def Sep (s : ByteArray) (i : Nat) : Prop := bt s i = 47 ∨ bt s i = 92
theorem decode_conts (s : ByteArray) (i j : Nat) (h0 : 0 < j) (h : j < (Utf8.decode s i).2) : i + j < s.size ∧ 128 ≤ (s.get! (i + j)).toNat := by
  simp only [Utf8.decode] at h
  repeat' split at h
  all_goals (try (exfalso; simp at h; omega))
  all_goals
    (simp only [Bool.and_eq_true, decide_eq_true_eq, beq_iff_eq] at *
     have : j = 1 ∨ j = 2 ∨ j = 3 := by omega
     rcases this with rfl | rfl | rfl <;> first | (exfalso; omega) | (refine ⟨by omega, by omega⟩))
theorem next_le (s : ByteArray) (k i : Nat) (hi : i < k) (hk : k ≤ s.size) (hat : k < s.size → Sep s k) : i + (Utf8.decode s i).2 ≤ k := by
  by_cases h : i + (Utf8.decode s i).2 ≤ k
  · exact h
  exfalso
  obtain ⟨h1, h2⟩ := decode_conts s i (k - i) (by omega) (by omega)
  have e : i + (k - i) = k := by omega
  rw [e] at h1 h2
  rw [bt_get s k h1] at h2
  rcases hat h1 with h3 | h3 <;> omega
theorem width_pos (s : ByteArray) (pos : Nat) (h : pos < s.size) : 1 ≤ (Utf8.decode s pos).2 := by
  by_cases ha : (s[pos]'h).toNat < 128
  · rw [decode_ascii s pos h ha]
    exact Nat.le_refl _
  · exact (decode_high s pos h (by omega)).2
theorem rune_no (s : ByteArray) (pos : Nat) (h : pos < s.size) (hn : ¬ Sep s pos) : (Utf8.decode s pos).1 ≠ 47 ∧ (Utf8.decode s pos).1 ≠ 92 := by
  by_cases ha : (s[pos]'h).toNat < 128
  · rw [decode_ascii s pos h ha, bt_eq]
    exact ⟨fun e => hn (.inl e), fun e => hn (.inr e)⟩
  · have := (decode_high s pos h (by omega)).1
    omega
theorem rune_sep (s : ByteArray) (pos : Nat) (h : pos < s.size) (hn : Sep s pos) : (Utf8.decode s pos).1 = bt s pos := by
  have ha : (s[pos]'h).toNat < 128 := by rw [bt_eq]; rcases hn with h | h <;> omega
  rw [decode_ascii s pos h ha, bt_eq]
theorem Chg.iterAt {S : Nat → Prop} {a w : World} (h : Chg S a w) {k : Nat} (hk : a.heap.size ≤ k) (s : ByteArray) (pos : Nat) : Chg S a (w.iterAt k s pos) :=
  h.trans (S' := fun j => j = k) (b := w) ⟨rfl, rfl, rfl, by rw [iterAt_size]; exact Nat.le_refl _, fun i hi hn => iterAt_other w k i s pos hn⟩ (fun j hj h => by omega)
theorem heap_at (w : World) (p : Obj) (k : Nat) (hk : k = w.heap.size) : (w.alloc p).heap[k]? = some p := by
  subst hk
  exact heap_alloc_new w p
theorem heap_keep {w : World} {k : Nat} {o : Obj} (h : w.heap[k]? = some o) (p : Obj) : (w.alloc p).heap[k]? = some o := (heap_alloc_old _ _ (heap_lt h)).trans h
def IdxOut (r : Int) (w : World) (e : Ending) (w' : World) : Prop := e = .returned (.int .i64 r) ∧ Chg Nowhere w w'
set_option maxHeartbeats 8000000 in
theorem any48 (s : ByteArray) (k : Nat) (r : Int) (w : World) (hk : k ≤ s.size) (hno : ∀ i, i < k → ¬ Sep s i) (hat : k < s.size → Sep s k) (hr1 : k < s.size → r = k) (hr2 : ¬ k < s.size → r = -1) :
    Calls Tryz.prog 48 #[.string s, .string ⟨#[47, 92]⟩] w (IdxOut r w) := by
  have Hno := Lib.hid hno
  have Hat := Lib.hid hat
  have Hr1 := Lib.hid hr1
  have Hr2 := Lib.hid hr2
  clear hno hat hr1 hr2
  go_enter Tryz.func48, Tryz.ntmps48
  go_wp2_with fail
  go_loopw [5] (fun _ wr => ∃ pos : Nat, pos ≤ k ∧ wr.heap[w.heap.size]? = some (.stringIter s pos) ∧ Chg Nowhere w wr) (fun _ wr => k + 1 - wr.iterPos w.heap.size)
  case atStart => exact ⟨0, by omega, World.iter_heap w s 0, (Chg.refl _ w).alloc _⟩
  case round =>
    obtain ⟨pos, hp, hit, hch⟩ := hrel
    revert wr
    intro wo hit hch
    by_cases hlt : pos < s.size
    · have hnx : ∀ ty, (Instr.next (.pointer (some ⟨w.heap.size, 0, none⟩)) true ty).run Tryz.prog wo = _ := fun ty => run_next_any_at wo w.heap.size s pos ty hit hlt
      have hch2 : Chg Nowhere w (wo.iterAt w.heap.size s (pos + (Utf8.decode s pos).2)) := hch.iterAt (Nat.le_refl _) _ _
      have hit2 := iterAt_heap wo w.heap.size s pos (pos + (Utf8.decode s pos).2) hit
      have hmu : wo.iterPos w.heap.size = pos := by unfold World.iterPos; rw [hit]
      generalize hq : wo.iterAt w.heap.size s (pos + (Utf8.decode s pos).2) = w1 at hnx hch2 hit2
      generalize hrr : ((Utf8.decode s pos).1 : Nat) = rr at hnx
      generalize hww : ((Utf8.decode s pos).2 : Nat) = ww at hit2
      have Hrr := Lib.hid hrr
      have Hww := Lib.hid hww
      have Hch2 := Lib.hid hch2
      have Hit2 := Lib.hid hit2
      have hsz1 := heap_lt hit2
      clear hq hrr hww hch2 hit2 hch
      go_wp2_with fail
      have hb1 := World.iter_heap w1 ⟨#[47, 92]⟩ 0
      have hc1 : Chg Nowhere w (w1.iter ⟨#[47, 92]⟩ 0) := Hch2.out.alloc _
      have hi1 : (w1.iter ⟨#[47, 92]⟩ 0).heap[w.heap.size]? = some (.stringIter s (pos + ww)) := heap_keep Hit2.out _
      generalize hw2 : w1.iter ⟨#[47, 92]⟩ 0 = w2 at hb1 hc1 hi1 ⊢
      have Hb1 := Lib.hid hb1
      have Hc1 := Lib.hid hc1
      have Hi1 := Lib.hid hi1
      clear hw2 hb1 hc1 hi1
      have hj : w1.heap.size ≠ w.heap.size := by omega
      have hjl : w.heap.size ≤ w1.heap.size := by omega
      have hn0 : ∀ (wr2 : World) ty, wr2.heap[w1.heap.size]? = some (.stringIter ⟨#[47, 92]⟩ 0) → (Instr.next (.pointer (some ⟨w1.heap.size, 0, none⟩)) true ty).run Tryz.prog wr2 = .ok (.tuple #[.bool true, .int .i64 0, .int .i32 47]) (wr2.iterAt w1.heap.size ⟨#[47, 92]⟩ 1) := fun wr2 ty h => run_next_any_at wr2 w1.heap.size ⟨#[47, 92]⟩ 0 ty h (by decide)
      have hn1 : ∀ (wr2 : World) ty, wr2.heap[w1.heap.size]? = some (.stringIter ⟨#[47, 92]⟩ 1) → (Instr.next (.pointer (some ⟨w1.heap.size, 0, none⟩)) true ty).run Tryz.prog wr2 = .ok (.tuple #[.bool true, .int .i64 1, .int .i32 92]) (wr2.iterAt w1.heap.size ⟨#[47, 92]⟩ 2) := fun wr2 ty h => run_next_any_at wr2 w1.heap.size ⟨#[47, 92]⟩ 1 ty h (by decide)
      have hn2 : ∀ (wr2 : World) ty, wr2.heap[w1.heap.size]? = some (.stringIter ⟨#[47, 92]⟩ 2) → (Instr.next (.pointer (some ⟨w1.heap.size, 0, none⟩)) true ty).run Tryz.prog wr2 = .ok (.tuple #[.bool false]) wr2 := fun wr2 ty h => run_next_end_at wr2 w1.heap.size ⟨#[47, 92]⟩ 2 ty h (by decide)
      have Hn0 := Lib.hid hn0
      have Hn1 := Lib.hid hn1
      have Hn2 := Lib.hid hn2
      clear hn0 hn1 hn2
      clear hnx hsz1 hit
      go_loopw [8] (fun _ wr2 => ∃ q : Nat, q ≤ 2 ∧ wr2.heap[w1.heap.size]? = some (.stringIter ⟨#[47, 92]⟩ q) ∧ wr2.heap[w.heap.size]? = some (.stringIter s (pos + ww)) ∧ Chg Nowhere w wr2 ∧ (1 ≤ q → rr ≠ 47) ∧ (2 ≤ q → rr ≠ 92)) (fun _ wr2 => 2 - wr2.iterPos w1.heap.size)
      case atStart => exact ⟨0, by omega, Hb1.out, Hi1.out, Hc1.out, fun h => by omega, fun h => by omega⟩
      case round =>
        obtain ⟨q, hq2, hb3, hi3, hc3, hne1, hne2⟩ := hrel
        have hmu3 : wr.iterPos w1.heap.size = q := by unfold World.iterPos; rw [hb3]
        have hq : q = 0 ∨ q = 1 ∨ q = 2 := by omega
        have Hhi3 := Lib.hid hi3
        have Hhc3 := Lib.hid hc3
        have Hb3 := Lib.hid hb3
        have Hne1 := Lib.hid hne1
        have Hne2 := Lib.hid hne2
        clear hb3 hi3 hc3 hne1 hne2
        rcases hq with rfl | rfl | rfl
        · have hnx := fun ty => Hn0.out wr ty Hb3.out
          have e2 := iterAt_heap wr w1.heap.size _ 0 1 Hb3.out
          have e3 := (iterAt_other wr w1.heap.size w.heap.size ⟨#[47, 92]⟩ 1 hj.symm).trans Hhi3.out
          have e4 := Hhc3.out.iterAt hjl ⟨#[47, 92]⟩ 1
          generalize hw5 : wr.iterAt w1.heap.size ⟨#[47, 92]⟩ 1 = w5 at hnx e2 e3 e4
          have E2 := Lib.hid e2
          have E3 := Lib.hid e3
          have E4 := Lib.hid e4
          clear hw5 e2 e3 e4
          have hmu5 : w5.iterPos w1.heap.size = 1 := by unfold World.iterPos; rw [E2.out]
          by_cases hr : rr = 47
          · have hbe : ((rr : Int) == 47) = true := beq_iff_eq.2 (by omega)
            have Hr := Lib.hid hr
            clear hr
            have hre : r = (pos : Int) := by
              have h0 : pos = k := Nat.le_antisymm hp (Nat.le_of_not_lt fun h1 => by
                have h2 := rune_no s pos hlt (Hno.out pos h1)
                rw [Hrr.out] at h2
                have := Hr.out
                omega)
              rw [Hr1.out (by omega), h0]
            go_wp2_with fail
            go_ret
            exact ⟨congrArg (fun z => Ending.returned (Value.int .i64 z)) hre.symm, E4.out⟩
          · have hbe : ((rr : Int) == 47) = false := beq_eq_false_iff_ne.2 (by omega)
            have Hr := Lib.hid hr
            clear hr
            go_wp2_with fail
            go_roundw
            case rel => exact ⟨1, by omega, E2.out, E3.out, E4.out, fun _ => Hr.out, fun h => by omega⟩
            case measure => simp [hmu3, hmu5]
        · have hnx := fun ty => Hn1.out wr ty Hb3.out
          have e2 := iterAt_heap wr w1.heap.size _ 1 2 Hb3.out
          have e3 := (iterAt_other wr w1.heap.size w.heap.size ⟨#[47, 92]⟩ 2 hj.symm).trans Hhi3.out
          have e4 := Hhc3.out.iterAt hjl ⟨#[47, 92]⟩ 2
          generalize hw5 : wr.iterAt w1.heap.size ⟨#[47, 92]⟩ 2 = w5 at hnx e2 e3 e4
          have E2 := Lib.hid e2
          have E3 := Lib.hid e3
          have E4 := Lib.hid e4
          clear hw5 e2 e3 e4
          have hmu5 : w5.iterPos w1.heap.size = 2 := by unfold World.iterPos; rw [E2.out]
          by_cases hr : rr = 92
          · have hbe : ((rr : Int) == 92) = true := beq_iff_eq.2 (by omega)
            have Hr := Lib.hid hr
            clear hr
            have hre : r = (pos : Int) := by
              have h0 : pos = k := Nat.le_antisymm hp (Nat.le_of_not_lt fun h1 => by
                have h2 := rune_no s pos hlt (Hno.out pos h1)
                rw [Hrr.out] at h2
                have := Hr.out
                omega)
              rw [Hr1.out (by omega), h0]
            go_wp2_with fail
            go_ret
            exact ⟨congrArg (fun z => Ending.returned (Value.int .i64 z)) hre.symm, E4.out⟩
          · have hbe : ((rr : Int) == 92) = false := beq_eq_false_iff_ne.2 (by omega)
            have Hr := Lib.hid hr
            clear hr
            go_wp2_with fail
            go_roundw
            case rel => exact ⟨2, by omega, E2.out, E3.out, E4.out, fun _ => Hne1.out (by omega), fun _ => Hr.out⟩
            case measure => simp [hmu3, hmu5]
        · have hnx := fun ty => Hn2.out wr ty Hb3.out
          have hpk : pos < k := Nat.lt_of_le_of_ne hp fun h1 => by
            subst h1
            have h2 := rune_sep s pos hlt (Hat.out hlt)
            have h3 := Hat.out hlt
            unfold Sep at h3
            rw [Hrr.out] at h2
            have h4 := Hne1.out (by omega)
            have h5 := Hne2.out (by omega)
            omega
          have hle := next_le s k pos hpk hk Hat.out
          have hwp := width_pos s pos hlt
          rw [Hww.out] at hle hwp
          have hmuo : wr.iterPos w.heap.size = pos + ww := by unfold World.iterPos; rw [Hhi3.out]
          go_wp2_with fail
          go_roundw
          case rel => exact ⟨pos + ww, hle, Hhi3.out, Hhc3.out⟩
          case measure => rw [hmuo, hmu]; omega
    · have hnx : ∀ ty, (Instr.next (.pointer (some ⟨w.heap.size, 0, none⟩)) true ty).run Tryz.prog wo = _ := fun ty => run_next_end_at wo w.heap.size s pos ty hit hlt
      have Hch := Lib.hid hch
      have hre : r = -1 := Hr2.out (by omega)
      have Hre := Lib.hid hre
      clear hch hre
      go_wp2_with fail
      go_ret
      exact ⟨congrArg (fun z => Ending.returned (Value.int .i64 z)) Hre.out.symm, Hch.out⟩
end Go.Proofs.YtcbmankbjgbjgaaGreatFmt
