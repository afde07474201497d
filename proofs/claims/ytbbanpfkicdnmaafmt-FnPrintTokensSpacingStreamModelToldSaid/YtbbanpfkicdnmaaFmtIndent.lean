/-
  Proved: contract of the css printer's printIndent where there is no line limit. No statement of the seat stands here.
-/
import Derived.Test.YtbbanpfkicdnmaaFmtPen
namespace Go.Proofs.YtbbanpfkicdnmaaFmt
open Go.RowKit Go.ChangeAt
set_option linter.unusedSimpArgs false
set_option linter.unusedVariables false
set_option maxRecDepth 100000
def spaces : Nat → List UInt8
  | 0 => []
  | k + 1 => spaces k ++ [32, 32]
theorem spaces_length (k : Nat) : (spaces k).length = 2 * k := by
  induction k with
  | zero => rfl
  | succ k ih => simp [spaces, ih]; omega
def At (B b : Nat) (m : Bool) (vo : Option Addr) (out : List UInt8) (w wr : World) : Prop := ∃ vo', Pr B b m false vo' out wr ∧ Wrote b vo vo' w wr
set_option maxHeartbeats 4000000 in
theorem indent17 (B b : Nat) (m : Bool) (ind : Int) (out : List UInt8) (w : World) (vo : Option Addr) (h : Pr B b m false vo out w) (ho : out.length ≤ 130000000000) (hi1 : ind ≤ 65537) (hi0 : -2147483648 ≤ ind) :
    Calls Tryf.prog 17 #[.pointer (some ⟨b, 0, none⟩), .int .i32 ind] w (Wrt B b m false vo (out ++ spaces ind.toNat) w) := by
  obtain ⟨i0, hi, hz0, hz1, hz2⟩ := info_parts info5
  have p3 := h.cell 3 (by decide)
  simp [pc] at p3
  have hbs := h.lt_size
  have Hp := Lib.hid h
  clear h
  have hwi : IntKind.i64.wrap ind = ind := IntWalk.i64_in _ (by omega)
  go_enter Tryf.func17, Tryf.ntmps17
  go_wp2_with fail
  go_loopw [5] (fun i wr => ∃ k : Nat, k ≤ ind.toNat ∧ i = .int .i64 k ∧ At B b m vo (out ++ spaces k) w wr) (fun i _ => ind.toNat - (intOf i).toNat)
  case atStart => exact ⟨0, by omega, rfl, vo, by simpa only [spaces, List.append_nil] using Hp.out, Wrote.refl b vo w⟩
  case round =>
    obtain ⟨k, hk, rfl, vr, hpr, hwr⟩ := hrel
    by_cases hlt : k < ind.toNat
    · have hx1 : (k : Int) < ind := by omega
      obtain ⟨vc, hblk, hown⟩ := hpr.row
      have hc15 := cell_of_heap hblk 15
      obtain ⟨L, hL⟩ : ∃ L, L = (out ++ spaces k).length := ⟨_, rfl⟩
      rw [← hL] at hblk hown hc15
      simp only [pc, List.getElem?_toArray, List.getElem?_cons_succ, List.getElem?_cons_zero] at hc15
      have hnl : L ≤ 130000200000 := by rw [hL, List.length_append, spaces_length]; omega
      have hle := hpr.le
      have hsz := heap_lt hblk
      have HL := Lib.hid hL
      have Hpr := Lib.hid hpr
      have Hwr := Lib.hid hwr
      have Hblk := Lib.hid hblk
      have Hown := Lib.hid hown
      clear hpr hwr hblk hown hL
      go_wp2_with (at_builtin; go_loud (refine wpList_append_str_fresh _ rfl (.tmp 39) (.const (.string ⟨#[32, 32]⟩)) 22 9 rfl B 5 i0 Tryf.underlying22 Tryf.underlying9 hi hz0 hz1 hz2 vr L vc _ rfl Hown.out ⟨#[32, 32]⟩ rfl (by unfold maxLen; simp [ByteArray.size]; omega) (by simp [ByteArray.size]; omega) hle ?_; intro vo' vc' w1 hown1 hg1 hf1; have Hg1 := Lib.hid hg1; have Hown1 := Lib.hid hown1; have Hf1 := Lib.hid hf1; have hb1 := hg1.heap Hblk.out Hpr.out.ne; have hc1 := cell_of_heap hb1 15; have hz1 := frozen_of_heap hb1 15; simp only [pc, List.getElem?_toArray, List.getElem?_cons_succ, List.getElem?_cons_zero] at hc1; clear hg1 hown1 hf1 hb1))
      go_roundw
      case rel =>
        have hL := HL.out
        subst hL
        obtain ⟨_, v2, hp2, hw2⟩ := printed_mk Hpr.out Hblk.out Hg1.out Hown1.out Hf1.out
        exact ⟨k + 1, by omega, by go_num, v2, by
          simp only [spaces, List.append_assoc] at hp2 ⊢
          exact hp2, Hwr.out.trans hw2⟩
      case measure => simp [intOf]; omega
    · have hx1 : ¬ (k : Int) < ind := by omega
      have hk2 : k = ind.toNat := by omega
      have Hpr := Lib.hid hpr
      have Hwr := Lib.hid hwr
      have Hk := Lib.hid hk2
      clear hpr hwr hk2
      go_wp2_with fail
      go_end0
      exact ⟨rfl, vr, by rw [← Hk.out]; exact Hpr.out, Hwr.out⟩
end Go.Proofs.YtbbanpfkicdnmaaFmt
