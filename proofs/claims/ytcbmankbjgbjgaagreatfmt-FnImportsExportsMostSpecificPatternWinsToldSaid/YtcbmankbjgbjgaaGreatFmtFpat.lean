/-
  Proved: contract of findInvalidSegment at a pattern './d/*'. No statement of the seat stands here.
-/
import Derived.Test.YtcbmankbjgbjgaaGreatFmtSeg
namespace Go.Proofs.YtcbmankbjgbjgaaGreatFmt
open Go.RowKit Go.ChangeAt
set_option linter.unusedSimpArgs false
set_option linter.unusedVariables false
set_option maxRecDepth 100000
/-- './' d '/*' and 'd/*'. -/
def patM (d : ByteArray) : ByteArray := d ++ ⟨#[47, 42]⟩
def patS (d : ByteArray) : ByteArray := dotted (patM d)
theorem patM_size (d : ByteArray) : (patM d).size = d.size + 2 := by unfold patM; rw [ByteArray.size_append]; rfl
theorem patS_size (d : ByteArray) : (patS d).size = d.size + 4 := by unfold patS; rw [dotted_size, patM_size]
theorem bt_right (a f : ByteArray) (i : Nat) (h : i < f.size) : bt (a ++ f) (a.size + i) = bt f i := by
  have h2 : a.size + i < (a ++ f).size := by rw [ByteArray.size_append]; omega
  rw [← bt_eq _ _ h2, ← bt_eq _ _ h, ByteArray.getElem_append_right (by omega)]
  simp
theorem ext_left (a f : ByteArray) : (a ++ f).extract 0 a.size = a := by
  rw [ByteArray.extract_append_eq_left rfl]
theorem ext_right (a f : ByteArray) (k n : Nat) (hk : k = a.size) (hn : n = (a ++ f).size) : (a ++ f).extract k n = f := by
  exact ByteArray.extract_append_eq_right hk (by rw [hn, ByteArray.size_append])
structure Pat (s m d : ByteArray) : Prop where
  ss : s.size = d.size + 4
  ms : m.size = d.size + 2
  e1 : ∀ n, n = s.size → s.extract 2 n = m
  e2 : m.extract 0 d.size = d
  e3 : ∀ n, n = m.size → m.extract (d.size + 1) n = ⟨#[42]⟩
  s0 : ∀ i, i < 1 → ¬ Sep s i
  s1 : Sep s 1
  m0 : ∀ i, i < d.size → ¬ Sep m i
  m1 : Sep m d.size
theorem pat_of (d : ByteArray) (hd : NoSep d) : Pat (patS d) (patM d) d := by
  refine ⟨patS_size d, patM_size d, fun n hn => dotted_rest _ n hn, ext_left _ _, fun n hn => ?_, fun i hi => ?_, .inl (dotted_1 _), fun i hi => ?_, .inl ?_⟩
  · have e : patM d = (d ++ ⟨#[47]⟩) ++ ⟨#[42]⟩ := by
      unfold patM
      rw [ByteArray.append_assoc]
      congr 1
    rw [e]
    exact ext_right _ _ _ _ (by rw [ByteArray.size_append]; rfl) (by rw [hn, e])
  · obtain rfl : i = 0 := by omega
    unfold Sep patS; rw [dotted_0]; omega
  · unfold Sep patM; rw [bt_left _ _ _ hi]; exact hd i hi
  · have := bt_right d ⟨#[47, 42]⟩ 0 (by decide)
    rw [Nat.add_zero] at this
    unfold patM; rw [this]; rfl
set_option maxHeartbeats 8000000 in
theorem find38_pat (s m d : ByteArray) (w : World) (hP : Pat s m d) (hnb : ¬ Bad d) (hsz : d.size ≤ 4194304) : Calls Tryz.prog 38 #[.string s] w (StrOut ⟨#[]⟩ w) := by
  have h1 := any48 s 1 1 w (by have := hP.ss; omega) hP.s0 (fun _ => hP.s1) (fun h => rfl) (fun h => by have := hP.ss; omega)
  have h2 := fun w => any48 m d.size d.size w (by have := hP.ms; omega) hP.m0 (fun _ => hP.m1) (fun h => rfl) (fun h => by have := hP.ms; omega)
  have h3 := fun w => any48 ⟨#[42]⟩ 1 (-1) w (by decide) (fun i hi => by obtain rfl : i = 0 := by omega
                                                                         unfold Sep bt; decide) (fun h => absurd h (by decide)) (fun h => absurd h (by decide)) (fun _ => rfl)
  have hms := hP.ms
  have hss := hP.ss
  have hne : (m.toList == []) = false := by
    refine beq_eq_false_iff_ne.2 fun e => ?_
    rw [ByteArray.toList_eq] at e
    have := congrArg List.length e
    rw [Array.length_toList] at this
    have h5 : m.size = 0 := this
    omega
  have a1 : ((m.extract 0 d.size).toList == [46]) = false := by rw [hP.e2]; exact lit_ne (l := #[46]) fun h => hnb (.inl h)
  have a2 : ((m.extract 0 d.size).toList == [46, 46]) = false := by rw [hP.e2]; exact lit_ne (l := #[46, 46]) fun h => hnb (.inr (.inl h))
  have a3 : ((m.extract 0 d.size).toList == [110, 111, 100, 101, 95, 109, 111, 100, 117, 108, 101, 115]) = false := by rw [hP.e2]; exact lit_ne (l := #[110, 111, 100, 101, 95, 109, 111, 100, 117, 108, 101, 115]) fun h => hnb (.inr (.inr h))
  have HP := Lib.hid hP
  have H1 := Lib.hid h1
  have H2 := Lib.hid h2
  have H3 := Lib.hid h3
  have e1 : ∀ n, n = s.size → Value.string (s.extract 2 n) = .string m := fun n hn => congrArg _ (hP.e1 n hn)
  have e3 : ∀ n, n = m.size → Value.string (m.extract (d.size + 1) n) = .string ⟨#[42]⟩ := fun n hn => congrArg _ (hP.e3 n hn)
  have E3 := Lib.hid e3
  have E1 := Lib.hid e1
  clear hP h1 h2 h3 hnb e1 e3
  go_enter Tryz.func38, Tryz.ntmps38
  go_wp2_with fail
  refine H1.out.mono ?_
  rintro e1 w1 ⟨rfl, hc⟩
  have Hc := Lib.hid hc
  clear hc
  have x2 : (2 : Int) ≤ (s.size : Int) := by omega
  go_wp2_with fail
  go_loopw [0] (fun p wr => (p = .string m ∨ p = .string ⟨#[42]⟩ ∨ p = .string ⟨#[]⟩) ∧ Chg Nowhere w wr) (fun p _ => szOf p)
  case atStart => exact ⟨.inl (E1.out _ (by first | rfl | omega)), Hc.out⟩
  case round =>
    obtain ⟨hp, hch⟩ := hrel
    have Hch := Lib.hid hch
    clear hch
    rcases hp with rfl | rfl | rfl
    · go_wp2_with fail
      refine (H2.out _).mono ?_
      rintro e1 w2 ⟨rfl, hc2⟩
      have Hc2 := Lib.hid (Hch.out.trans hc2 (fun _ _ h => h))
      clear hc2
      have x3 : ((d.size : Int) == -1) = false := by simp
      have x4 : (0 : Int) ≤ (d.size : Int) := by omega
      have x5 : (d.size : Int) ≤ (m.size : Int) := by omega
      have x6 : (d.size : Int) + 1 ≤ (m.size : Int) := by omega
      go_wp2_with fail
      go_roundw
      case rel => exact ⟨.inr (.inl (E3.out _ (by first | rfl | omega))), Hc2.out⟩
      case measure => 
        have : ∀ n, n = m.size → szOf (Value.string (m.extract (d.size + 1) n)) < szOf (Value.string m) := fun n hn => by
          rw [E3.out n hn]
          simp only [szOf]
          have : (ByteArray.mk #[42]).size = 1 := rfl
          omega
        exact this _ (by first | rfl | omega)
    · go_wp2_with fail
      refine (H3.out _).mono ?_
      rintro e1 w2 ⟨rfl, hc2⟩
      have Hc2 := Lib.hid (Hch.out.trans hc2 (fun _ _ h => h))
      clear hc2
      go_wp2_with fail
      go_roundw
      case rel => exact ⟨.inr (.inr rfl), Hc2.out⟩
      case measure => decide
    · go_wp2_with fail
      go_ret
      exact ⟨rfl, Hch.out⟩
end Go.Proofs.YtcbmankbjgbjgaaGreatFmt
