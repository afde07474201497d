/-
  Proved: contracts of the law's tests on numbers and constants. No statement of the seat stands here.
-/
import Derived.Test.YtgfeaejpleppkaaDoorQh
namespace Go.Proofs.YtgfeaejpleppkaaDoor
open Go.RowKit Go.ChangeAt
set_option linter.unusedSimpArgs false
set_option linter.unusedVariables false
set_option maxRecDepth 100000
def AnyB (w : World) (e : Ending) (w' : World) : Prop := ∃ r : Bool, e = .returned (.bool r) ∧ w = w'
theorem zb14 (v1 v2 v3 : Value) (a : Option Addr) (n c : Nat) (s : ByteArray) (w : World) : Calls Tryd.prog 14 #[v1, v2, v3, .slice a n c, .string s] w (AnyB w) := by
  by_cases h1 : (1048576 : Int) < (n : Int)
  · go_enter Tryd.func14, Tryd.ntmps14
    go_wp2_with fail
    go_ret
    exact ⟨_, rfl, rfl⟩
  by_cases h2 : (1048576 : Int) < (s.size : Int)
  · go_enter Tryd.func14, Tryd.ntmps14
    go_wp2_with fail
    go_ret
    exact ⟨_, rfl, rfl⟩
  have e1 : wrap64 (0 + (n : Int)) = (n : Int) := by unfold wrap64; omega
  have e2 : wrap64 ((n : Int) + (s.size : Int)) = (n : Int) + (s.size : Int) := by unfold wrap64; omega
  by_cases h3 : (1048576 : Int) < (n : Int) + (s.size : Int)
  · go_enter Tryd.func14, Tryd.ntmps14
    go_wp2_with fail
    go_ret
    exact ⟨_, rfl, rfl⟩
  · go_enter Tryd.func14, Tryd.ntmps14
    go_wp2_with fail
    go_ret
    exact ⟨_, rfl, rfl⟩
theorem ordE : (FloatKind.f64.format.order 0 0 == some .eq) = true := by decide
theorem ordI : (FloatKind.f64.format.order 9218868437227405312 0 == some .gt) = true := by decide
theorem quo0 (w : World) : (binOp .quo 22 (.float .f64 4607182418800017408) (.float .f64 0)).run Tryd.prog w = .ok (.float .f64 9218868437227405312) w := run_float_arith w .quo 22 .f64 _ 0 _ (by kernel_rfl)
theorem kindOnly16 (k : Int) (w : World) : Calls Tryd.prog 16 #[.agg #[.float .f64 0, .slice none 0 0, .int .u8 k], .int .u8 k] w (fun e w' => e = .returned (.bool true) ∧ Chg Nowhere w w') := by
  have h1 := eqNil none 0 0
  have h2 := ordE
  have h3 := ordI
  have h4 := quo0
  go_enter Tryd.func16, Tryd.ntmps16
  go_wp2_with fail
  go_ret
  exact ⟨rfl, (Chg.refl _ w).alloc _⟩
theorem isInf26 (b : Nat) (w : World) : Calls Tryd.prog 26 #[.float .f64 b] w (Same (.bool ((FloatKind.f64.format.order b 9218868437227405311 == some .gt) || (FloatKind.f64.format.order b 18442240474082181119 == some .lt))) w) := by
  cases c1 : (FloatKind.f64.format.order b 9218868437227405311 == some .gt)
  · go_enter Tryd.func26, Tryd.ntmps26
    go_wp2_with fail
    go_ret
    exact ⟨by simp, rfl⟩
  · go_enter Tryd.func26, Tryd.ntmps26
    go_wp2_with fail
    go_ret
    exact ⟨rfl, rfl⟩
theorem sub_self (a : Nat) (s : Bool) (m : Nat) (e : Int) (hr : Ieee.double.read a = .number s m e) : floatBits .sub .f64 a a = some 0 := by
  show ((Ieee.double.read a).sum (Ieee.double.read a).opposite).map Ieee.double.write = some 0
  rw [hr]
  have ht : Ieee.signed s m (e - min e e).toNat + Ieee.signed (!s) m (e - min e e).toNat = 0 := by
    unfold Ieee.signed
    cases s <;> simp <;> omega
  simp only [Ieee.Datum.opposite, Ieee.Datum.sum, ht, Option.map_some, Ieee.Format.write]
  cases s <;> simp [Ieee.Format.nearest, Ieee.Format.word]
def wholeB (b : Nat) : Bool := decide (0 ≤ fe1 b - 1075) || decide (fMant b % 2 ^ (-(fe1 b - 1075)).toNat = 0)
theorem whole_of (b : Nat) (h : wholeB b = true) : Whole b := by
  unfold wholeB at h
  by_cases c : 0 ≤ fe1 b - 1075
  · exact .inl c
  · rw [decide_eq_false c, Bool.false_or] at h
    exact .inr ⟨(-(fe1 b - 1075)).toNat, by omega, by omega, of_decide_eq_true h⟩
theorem neg22 (b : Nat) : Op.unary .neg (.float .f64 b) = pure (.float .f64 (Op.negFloat .f64 b)) := rfl
set_option maxHeartbeats 2000000 in
theorem integral27 (b : Nat) (hf : Fin b) (w : World) : Calls Tryd.prog 27 #[.float .f64 b] w (Same (.bool (wholeB b)) w) := by
  have key : ∀ (a : Nat) (s : Bool), Amt b a s → ((FloatKind.f64.format.order b 0 == some .lt) = true ∧ a = Op.negFloat .f64 b ∨ (FloatKind.f64.format.order b 0 == some .lt) = false ∧ a = b) → Calls Tryd.prog 27 #[.float .f64 b] w (Same (.bool (wholeB b)) w) := by
    intro a s ha hc
    have hge := ge52 b a s hf ha
    have h00 := ordE
    have hneg := neg22 b
    by_cases c : 0 ≤ fe1 b - 1075
    · rw [decide_eq_true c] at hge
      have hw : wholeB b = true := by unfold wholeB; rw [decide_eq_true c]; rfl
      have hsub : ∀ w, (binOp .sub 22 (.float .f64 a) (.float .f64 a)).run Tryd.prog w = .ok (.float .f64 0) w := fun w => run_float_arith w .sub 22 .f64 a a 0 (sub_self a _ _ _ ha.rd)
      rw [hw]
      have HH := Lib.hid (And.intro hf ha)
      clear hf ha hw
      rcases hc with ⟨hc, rfl⟩ | ⟨hc, rfl⟩
      · go_enter Tryd.func27, Tryd.ntmps27
        go_wp2_with fail
        go_ret
        exact ⟨rfl, rfl⟩
      · go_enter Tryd.func27, Tryd.ntmps27
        go_wp2_with fail
        go_ret
        exact ⟨rfl, rfl⟩
    · rw [decide_eq_false c] at hge
      obtain ⟨k, hk⟩ : ∃ k : Nat, fe1 b - 1075 = -(k : Int) := ⟨(-(fe1 b - 1075)).toNat, by omega⟩
      have hrd := ha.rd
      rw [hk] at hrd
      obtain ⟨t1, t, q1, q2, q3⟩ := round52 a (fMant b) k s hrd ha.sg (by omega) hf.m
      have hw : wholeB b = decide (fMant b % 2 ^ k = 0) := by
        unfold wholeB
        rw [decide_eq_false c, Bool.false_or, hk, show (- -(k : Int)).toNat = k by omega]
      have hadd : ∀ w, (binOp .add 22 (.float .f64 a) (.float .f64 4841369599423283200)).run Tryd.prog w = .ok (.float .f64 t1) w := fun w => run_float_arith w .add 22 .f64 _ _ _ q1
      have hsub : ∀ w, (binOp .sub 22 (.float .f64 t1) (.float .f64 4841369599423283200)).run Tryd.prog w = .ok (.float .f64 t) w := fun w => run_float_arith w .sub 22 .f64 _ _ _ q2
      rw [hw, ← q3]
      have HH := Lib.hid (And.intro hf ha)
      clear hf ha hw q1 q2 q3 hrd c hk
      rcases hc with ⟨hc, rfl⟩ | ⟨hc, rfl⟩
      · go_enter Tryd.func27, Tryd.ntmps27
        go_wp2_with fail
        go_ret
        exact ⟨rfl, rfl⟩
      · go_enter Tryd.func27, Tryd.ntmps27
        go_wp2_with fail
        go_ret
        exact ⟨rfl, rfl⟩
  cases hc : (FloatKind.f64.format.order b 0 == some .lt)
  · exact key b _ (amt_pos b hf hc) (.inr ⟨hc, rfl⟩)
  · exact key _ _ (amt_neg b hf hc) (.inl ⟨hc, rfl⟩)
def ModOut (b : Nat) (K I : Bool) : Prop := (K = true → I = true → ¬ NotInl b) ∧ (K = true → I = false → NotS b) ∧ ∀ w, Calls Tryd.prog 15 #[.float .f64 b] w (Same (.tuple #[.bool K, .bool I]) w)
theorem inl_not {b : Nat} (h : Inl b) : ¬ NotInl b := fun hn => by
  rcases h with ⟨n, h1, h2⟩ | h
  · have := hn.1 n h1; rw [this] at h2; cases h2
  · have := hn.2; omega
set_option maxHeartbeats 4000000 in
theorem model15 (b : Nat) (hb : b < 18446744073709551616) : ∃ K I, ModOut b K I := by
  have h47 : fE b = 2047 → ¬ NotInl b := fun h => inl_not (.inr (inf_text b h))
  cases cN : (FloatKind.f64.format.order b b != some .eq)
  case true =>
    have hE : fE b = 2047 := by
      rcases Nat.decEq (fE b) 2047 with h | h
      · exfalso
        have hf := fin_of b hb h
        have : FloatKind.f64.format.order b b = some .eq := by rw [ord_num hf.rd hf.rd, cmp_self rfl]
        rw [this] at cN; cases cN
      · exact h
    have HH := Lib.hid (h47 hE)
    clear h47 hE
    refine ⟨true, true, fun _ _ => HH.out, (fun _ h => by cases h), ?_⟩
    intro w
    go_enter Tryd.func15, Tryd.ntmps15
    go_wp2_with fail
    go_ret2
    exact ⟨rfl, rfl⟩
  case false =>
    have H47 := Lib.hid (And.intro hb h47)
    clear hb h47
    cases cI : ((FloatKind.f64.format.order b 9218868437227405311 == some .gt) || (FloatKind.f64.format.order b 18442240474082181119 == some .lt))
    case true =>
      have hE : fE b = 2047 := by
        rcases Nat.decEq (fE b) 2047 with h | h
        · exfalso
          have hf := fin_of b H47.out.1 h
          obtain ⟨q1, q2⟩ := fin_not_inf b hf
          rw [q1, q2] at cI; cases cI
        · exact h
      have HH := Lib.hid (H47.out.2 hE)
      clear hE
      refine ⟨true, true, fun _ _ => HH.out, (fun _ h => by cases h), ?_⟩
      intro w
      go_enter Tryd.func15, Tryd.ntmps15
      go_wp2_with fail
      refine (isInf26 b w).mono ?_
      rintro e1 w1 ⟨rfl, rfl⟩
      go_wp2_with fail
      go_ret2
      exact ⟨rfl, rfl⟩
    case false =>
      have hf : Fin b := by
        refine fin_of b H47.out.1 fun h => ?_
        rcases inf_or_nan b H47.out.1 h with q | q | q
        · rw [cN] at q; cases q
        · rw [q] at cI; cases cI
        · rw [q, Bool.or_true] at cI; cases cI
      have HF := Lib.hid hf
      clear hf
      cases cW : wholeB b
      case true =>
        cases c1 : (FloatKind.f64.format.order b 14114281232179134464 == some .gt || FloatKind.f64.format.order b 14114281232179134464 == some .eq)
        · refine ⟨false, false, (fun h => by cases h), (fun h => by cases h), ?_⟩
          intro w
          go_enter Tryd.func15, Tryd.ntmps15
          go_wp2_with fail
          refine (isInf26 b w).mono ?_
          rintro e1 w1 ⟨rfl, rfl⟩
          go_wp2_with fail
          refine (integral27 b HF.out w).mono ?_
          rintro e2 w2 ⟨rfl, rfl⟩
          go_wp2_with fail
          go_ret2
          exact ⟨rfl, rfl⟩
        · cases c2 : (FloatKind.f64.format.order b 4890909195324358656 == some .lt)
          · refine ⟨false, false, (fun h => by cases h), (fun h => by cases h), ?_⟩
            intro w
            go_enter Tryd.func15, Tryd.ntmps15
            go_wp2_with fail
            refine (isInf26 b w).mono ?_
            rintro e1 w1 ⟨rfl, rfl⟩
            go_wp2_with fail
            refine (integral27 b HF.out w).mono ?_
            rintro e2 w2 ⟨rfl, rfl⟩
            go_wp2_with fail
            go_ret2
            exact ⟨rfl, rfl⟩
          · have HI := Lib.hid (inl_not (inl_whole b HF.out (whole_of b cW) c1 c2))
            refine ⟨true, true, fun _ _ => HI.out, (fun _ h => by cases h), ?_⟩
            intro w
            go_enter Tryd.func15, Tryd.ntmps15
            go_wp2_with fail
            refine (isInf26 b w).mono ?_
            rintro e1 w1 ⟨rfl, rfl⟩
            go_wp2_with fail
            refine (integral27 b HF.out w).mono ?_
            rintro e2 w2 ⟨rfl, rfl⟩
            go_wp2_with fail
            go_ret2
            exact ⟨rfl, rfl⟩
      case false =>
        have hneg := neg22 b
        obtain ⟨hk0, hk1⟩ : ¬ 0 ≤ fe1 b - 1075 ∧ fMant b % 2 ^ (-(fe1 b - 1075)).toNat ≠ 0 := by
          unfold wholeB at cW
          simpa using cW
        have HK := Lib.hid (And.intro hk0 hk1)
        clear hk0 hk1
        have fin : ∀ a s, Amt b a s → (FloatKind.f64.format.order a 4696837146684686336 == some .gt || FloatKind.f64.format.order a 4696837146684686336 == some .eq) = true → NotS b := fun a s ha hc => by
          have hk : fe1 b - 1075 = -(((-(fe1 b - 1075)).toNat : Nat) : Int) := by have := HK.out.1; omega
          exact not_whole b _ HF.out hk (by have := HK.out.1; omega) HK.out.2 (ge1e6 b a _ s HF.out ha hk hc)
        have HN := Lib.hid fin
        clear fin
        cases hc : (FloatKind.f64.format.order b 0 == some .lt)
        · cases c3 : (FloatKind.f64.format.order b 4696837146684686336 == some .gt || FloatKind.f64.format.order b 4696837146684686336 == some .eq)
          · refine ⟨false, false, (fun h => by cases h), (fun h => by cases h), ?_⟩
            intro w
            go_enter Tryd.func15, Tryd.ntmps15
            go_wp2_with fail
            refine (isInf26 b w).mono ?_
            rintro e1 w1 ⟨rfl, rfl⟩
            go_wp2_with fail
            refine (integral27 b HF.out w).mono ?_
            rintro e2 w2 ⟨rfl, rfl⟩
            go_wp2_with fail
            go_ret2
            exact ⟨rfl, rfl⟩
          · have HI := Lib.hid (HN.out _ _ (amt_pos b HF.out hc) c3)
            refine ⟨true, false, (fun _ h => by cases h), (fun _ _ => HI.out), ?_⟩
            intro w
            go_enter Tryd.func15, Tryd.ntmps15
            go_wp2_with fail
            refine (isInf26 b w).mono ?_
            rintro e1 w1 ⟨rfl, rfl⟩
            go_wp2_with fail
            refine (integral27 b HF.out w).mono ?_
            rintro e2 w2 ⟨rfl, rfl⟩
            go_wp2_with fail
            go_ret2
            exact ⟨rfl, rfl⟩
        · cases c3 : (FloatKind.f64.format.order (Op.negFloat .f64 b) 4696837146684686336 == some .gt || FloatKind.f64.format.order (Op.negFloat .f64 b) 4696837146684686336 == some .eq)
          · refine ⟨false, false, (fun h => by cases h), (fun h => by cases h), ?_⟩
            intro w
            go_enter Tryd.func15, Tryd.ntmps15
            go_wp2_with fail
            refine (isInf26 b w).mono ?_
            rintro e1 w1 ⟨rfl, rfl⟩
            go_wp2_with fail
            refine (integral27 b HF.out w).mono ?_
            rintro e2 w2 ⟨rfl, rfl⟩
            go_wp2_with fail
            go_ret2
            exact ⟨rfl, rfl⟩
          · have HI := Lib.hid (HN.out _ _ (amt_neg b HF.out hc) c3)
            refine ⟨true, false, (fun _ h => by cases h), (fun _ _ => HI.out), ?_⟩
            intro w
            go_enter Tryd.func15, Tryd.ntmps15
            go_wp2_with fail
            refine (isInf26 b w).mono ?_
            rintro e1 w1 ⟨rfl, rfl⟩
            go_wp2_with fail
            refine (integral27 b HF.out w).mono ?_
            rintro e2 w2 ⟨rfl, rfl⟩
            go_wp2_with fail
            go_ret2
            exact ⟨rfl, rfl⟩
theorem zero_bits (b : Nat) (hb : b < 18446744073709551616) (hE : fE b ≠ 2047) (hm : fMant b = 0) : b = 0 ∨ b = 9223372036854775808 := by
  unfold fMant at hm
  split at hm
  · rename_i h0
    unfold fE at h0
    unfold fM at hm
    omega
  · omega
theorem hz_of (b : Nat) (hb : b < 18446744073709551616) : (∃ n, floatToIntVal .f64 b .i64 = some n ∧ (FloatKind.f64.format.order b (floatOfInt .f64 n) == some .eq) = true) ∨ fE b = 2047 ∨ fMant b ≠ 0 := by
  by_cases hE : fE b = 2047
  · exact .inr (.inl hE)
  by_cases hm : fMant b = 0
  · rcases zero_bits b hb hE hm with rfl | rfl
    · exact .inl ⟨0, by kernel_rfl, by kernel_rfl⟩
    · exact .inl ⟨0, by kernel_rfl, by kernel_rfl⟩
  · exact .inr (.inr hm)
end Go.Proofs.YtgfeaejpleppkaaDoor
