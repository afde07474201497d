/-
  Proved: FnNilTimerIsInert: on a nil timer scripts, joins and forks do nothing; joining nil into a live timer, or the live one into nil, leaves it as it was. Condition: the law's own.
-/
import Derived.Test.YtaghkncaeedlkaaMany
import Derived.SliceStrings
import Derived.Deep.Grids
namespace Go.Proofs.Ytaghkncaeedlkaa
open Go.ChangeShapes Go.WideShapes Go.ChangeAt Go.RowKit
open Go.ChangeMaps (open_string shut_string)
set_option linter.unusedSimpArgs false
set_option linter.unusedVariables false

theorem early4 (a0 : Option Addr) (n0 c0 : Nat) (f0 : Nat → ByteArray) (a1 : Option Addr) (n1 c1 : Nat) (f1 : Nat → Bool) (w : World)
    (hnil0 : a0 = none → n0 = 0 ∧ c0 = 0) (hc0 : n0 ≤ c0) (hn0 : c0 ≤ 9223372036854775807) (hR0 : Reads w a0 n0 fun i => .string (f0 i)) (hs0 : ∀ i, (f0 i).size ≤ maxLen)
    (hnil1 : a1 = none → n1 = 0 ∧ c1 = 0) (hc1 : n1 ≤ c1) (hn1 : c1 ≤ 9223372036854775807) (hR1 : Reads w a1 n1 fun i => .bool (f1 i))
    (hneg : 65536 < n0 ∨ 1048576 < n1) :
    Calls Try.prog 4 #[.slice a0 n0 c0, .slice a1 n1 c1] w fun e w' => e = .returned (.bool true) ∧ Below w.heap.size w w' := by
  have HR0 := Lib.hid hR0
  have HR1 := Lib.hid hR1
  clear hR0 hnil0 hR1 hnil1
  rcases hneg with hneg | hneg
  all_goals (
    go_enter Try.func4, Try.ntmps4
    go_wp2_with fail
    refine (bytes15_any a0 n0 c0 f0 a1 n1 c1 w HR0.out (by omega) (by omega)).mono ?_
    rintro e w' ⟨r, rfl, rfl⟩
    cases r
    · go_wp2_with (go_at_call 9; refine (sbytes_any _ _ _ _ _ _ _ w (by first | exact HR0.out | exact HR2.out | exact HR4.out) (by omega)).mono ?_; rintro e w' ⟨y, rfl, rfl⟩)
      all_goals (go_ret; exact ⟨rfl, Below.refl _ _⟩)
    · go_wp2_with (go_at_call 9; refine (sbytes_any _ _ _ _ _ _ _ w (by first | exact HR0.out | exact HR2.out | exact HR4.out) (by omega)).mono ?_; rintro e w' ⟨y, rfl, rfl⟩)
      all_goals (go_ret; exact ⟨rfl, Below.refl _ _⟩)
  )

theorem walk4 (a0 : Option Addr) (n0 c0 : Nat) (f0 : Nat → ByteArray) (a1 : Option Addr) (n1 c1 : Nat) (f1 : Nat → Bool) (w : World)
    (hnil0 : a0 = none → n0 = 0 ∧ c0 = 0) (hc0 : n0 ≤ c0) (hn0 : c0 ≤ 9223372036854775807) (hR0 : Reads w a0 n0 fun i => .string (f0 i)) (hs0 : ∀ i, (f0 i).size ≤ maxLen)
    (hnil1 : a1 = none → n1 = 0 ∧ c1 = 0) (hc1 : n1 ≤ c1) (hn1 : c1 ≤ 9223372036854775807) (hR1 : Reads w a1 n1 fun i => .bool (f1 i)) :
    Calls Try.prog 4 #[.slice a0 n0 c0, .slice a1 n1 c1] w fun e w' => e = .returned (.bool true) ∧ Below w.heap.size w w' := by
  by_cases hb : n0 ≤ 65536 ∧ n1 ≤ 1048576
  · obtain ⟨hb0, hb1⟩ := hb
    have HR0 := Lib.hid hR0; have Hnil0 := Lib.hid hnil0
    have HR1 := Lib.hid hR1; have Hnil1 := Lib.hid hnil1
    clear hR0 hnil0 hR1 hnil1
    go_enter Try.func4, Try.ntmps4
    go_wp2_with fail
    refine (bytes15_any a0 n0 c0 f0 a1 n1 c1 w HR0.out (by omega) (by omega)).mono ?_
    rintro e w' ⟨r, rfl, rfl⟩
    cases r
    · go_wp2
      go_ret
      exact ⟨rfl, Below.refl _ _⟩
    go_wp2_with fail
    refine (sbytes_any a0 n0 c0 f0 a1 n1 c1 w HR0.out (by omega)).mono ?_
    rintro e w' ⟨y0, rfl, rfl⟩
    by_cases hy : 1048576 < y0
    · go_wp2
      go_ret
      exact ⟨rfl, Below.refl _ _⟩
    have C0 := Lib.hid (Chg.refl Nowhere w)
    go_wp2_with fail
    refine (cloneS_any a0 n0 c0 f0 w (fun h => (Hnil0.out h).1) (by omega) (HR0.out.kept C0.out fun _ _ _ h => h)).mono ?_
    rintro e v0 ⟨b0, d0, rfl, hr, hk, hl⟩
    have R0_0 := Lib.hid hr; have K := Lib.hid hk; have L0_0 : Hid (∀ g o, b0 = some ⟨g, o, none⟩ → g < v0.heap.size) := fun g o h => (hl g o h).2
    have C1 := Lib.hid (C0.out.trans hk fun _ _ h => h)
    clear hr hk hl K
    go_wp2_with fail
    refine (cloneB_any a1 n1 c1 f1 v0 (fun h => (Hnil1.out h).1) (by omega) (HR1.out.kept C1.out fun _ _ _ h => h)).mono ?_
    rintro e v1 ⟨b1, d1, rfl, hr, hk, hl⟩
    have R1_1 := Lib.hid hr; have K := Lib.hid hk; have L1_1 : Hid (∀ g o, b1 = some ⟨g, o, none⟩ → g < v1.heap.size) := fun g o h => (hl g o h).2
    have C2 := Lib.hid (C1.out.trans hk fun _ _ h => h)
    have R0_1 := Lib.hid (R0_0.out.kept hk fun _ _ _ h => h); have L0_1 : Hid (∀ g o, b0 = some ⟨g, o, none⟩ → g < v1.heap.size) := fun g o h => Nat.lt_of_lt_of_le (L0_0.out g o h) hk.size; clear R0_0 L0_0
    clear hr hk hl K
    have B0 := Lib.hid (Below.refl v1.heap.size v1)
    go_wp2_with fail
    refine (run_nil b0 n0 d0 f0 b1 n1 d1 f1 _ (by omega) (R0_1.out.below B0.out L0_1.out) (R1_1.out.below B0.out L1_1.out)).mono ?_
    rintro e w' ⟨rfl, rfl⟩
    go_wp2_with fail
    refine (fork_nil _).mono ?_
    rintro e w' ⟨rfl, rfl⟩
    go_wp2_with fail
    refine (join_nil1 _ _).mono ?_
    rintro e w' ⟨rfl, rfl⟩
    have B1 := Lib.hid (B0.out.alloc B0.out.size TIM)
    have LOf_1 : Hid (∀ k, foot v1.heap.size none k → v1.heap.size ≤ k) := fun k h => foot_none h
    have Tf_1 := Lib.hid (Timer.fresh v1); have BBf : Hid (v1.heap.size ≤ v1.heap.size) := B0.out.size
    go_wp2_with fail
    refine (run_any v1.heap.size none 0 ([] : List Rec) b0 n0 d0 f0 b1 n1 d1 f1 _ Tf_1.out (by simp [script_length]; try omega) (by omega) (R0_1.out.below B1.out L0_1.out) (fun g o h => not_foot_lt LOf_1.out (Nat.lt_of_lt_of_le (L0_1.out g o h) BBf.out)) (R1_1.out.below B1.out L1_1.out) (fun g o h => not_foot_lt LOf_1.out (Nat.lt_of_lt_of_le (L1_1.out g o h) BBf.out))).mono ?_
    rintro e W2 ⟨rfl, hk, ao2, cap2, hT, hf⟩
    have Tf_2 := Lib.hid hT; have K2 := Lib.hid hk; have F2 := Lib.hid hf
    clear hT hk hf
    have B2 := Lib.hid (below_step B1.out K2.out LOf_1.out BBf.out)
    have LOf_2 := Lib.hid (step_lo LOf_1.out F2.out (Nat.le_of_lt (Tf_1.out.lt (.inl rfl)) |> fun h => Nat.le_trans (LOf_1.out _ (.inl rfl)) h))
    clear K2 F2
    go_wp2_with fail
    refine (join_nil1 _ _).mono ?_
    rintro e w' ⟨rfl, rfl⟩
    go_wp2_with fail
    refine (join_nil2 _ _).mono ?_
    rintro e w' ⟨rfl, rfl⟩
    go_wp2_with fail
    refine (join_nil2 _ _).mono ?_
    rintro e w' ⟨rfl, rfl⟩
    go_wp2_with fail
    refine (len_any _ _ _ _ _ Tf_2.out).mono ?_
    rintro e w' ⟨rfl, rfl⟩
    have hl3 : ((([] : List Rec) ++ script f0 n1 f1 n0)).length = n0 := by simp [script_length]; try omega
    rw [hl3]
    clear hl3
    go_wp2_with fail
    refine (match_any v1.heap.size ao2 cap2 (([] : List Rec) ++ script f0 n1 f1 n0) (0) b0 n0 d0 f0 b1 n1 d1 f1 _ Tf_2.out (by omega) (by omega) (fun i hi => by have := seg_get [] [] f0 n1 f1 n0 (0) (by simp [script_length]; try omega) i hi; simpa using this) (R0_1.out.below B2.out L0_1.out) (R1_1.out.below B2.out L1_1.out)).mono ?_
    rintro e w' ⟨rfl, q4, rfl⟩
    have Tf_4 := Lib.hid (Tf_2.out.drewN (q4))
    have B4 := Lib.hid (below_drewN B2.out (q4))
    go_wp2
    go_ret
    exact ⟨rfl, below_all C2.out B4.out⟩
  · exact early4 a0 n0 c0 f0 a1 n1 c1 f1 w hnil0 hc0 hn0 hR0 hs0 hnil1 hc1 hn1 hR1 (by omega)

theorem own : ownKnob Try.prog.godebug = none := by kernel_rfl
theorem laidOut : laidOutB Try.prog = true := by kernel_rfl

set_option maxRecDepth 100000 in
theorem lifted (os : Os) (started : os.Started) (H : Type) (enc : TypeId × Value → H) :
    ReturnsInHanded {} Try.checked os 4 .any (Rows.fnNilTimerIsInertSpec.pre6 enc Try.prog Try.f4 Rows.fnNilTimerIsInertRow.domain false) (Rows.fnNilTimerIsInertSpec.post enc Try.prog Try.f4 false true false false) := by
  refine returnsInHanded_of_change (C := Try.checked) own started (by kernel_rfl) Try.func4
    (ChangeSpec.witness6 (enc := enc) (C := Try.checked) false ⟨#[], #[.slice none 0 0, .slice none 0 0], []⟩ 8 (by kernel_rfl) (by kernel_rfl) (by kernel_rfl) (by kernel_rfl)) ?_
  intro W base args ds gs before hval0 hW hcnd _
  have hval : ∀ (j : Nat) t v, Try.f4.params[j]? = some t → args[j]? = some v → Value.okWide Try.prog W .any base t v := hval0
  have hW' := hW
  obtain ⟨p, q, hA0, hV, rfl, hfz, hnd⟩ := hW
  have hA : DataW.TrodAll enc Try.prog W 0 (fun _ => true) true Try.f4.params.toList args.toList ds p := hA0
  rw [Try.params4] at hA hval
  obtain ⟨v0, vs0, d0, ds0, p0, q0, hargs, rfl, rfl, h0, r0⟩ := trodAll_cons hA
  obtain ⟨v1, vs1, d1, ds1, p1, q1, rfl, rfl, rfl, h1, r1⟩ := trodAll_cons r0
  obtain ⟨rfl, rfl, rfl⟩ := trodAll_nil r1
  obtain rfl : args = #[v0, v1] := by cases args; simp_all
  obtain ⟨rfl, rfl⟩ := trodVars_none hV
  obtain ⟨a0, n0, c0, rfl⟩ := okWide_slice Try.underlying22 (hval 0 22 v0 rfl rfl)
  have k0 := h0
  have lt0 : ∀ x ∈ p0, x.block < W.heap.size := by obtain ⟨m, hm⟩ := k0; exact DataW.trod_lt m _ _ _ hm
  obtain ⟨z0, nil0, cap0, max0, w0, e0⟩ : ∃ zs : List ByteArray, (a0 = none → n0 = 0 ∧ c0 = 0) ∧ n0 ≤ c0 ∧ c0 ≤ 9223372036854775807 ∧ Reads W a0 n0 (fun i => .string (zs.getD i ByteArray.empty)) ∧ (∀ i, (zs.getD i ByteArray.empty).size ≤ maxLen) := by
    obtain ⟨fuel, hf⟩ := h0
    rcases open_strings Try.underlying22 Try.underlying9 (by kernel_rfl) hf with ⟨hcs, _⟩ | ⟨x, l, c, zs, hcs, _, hl, hm, hz, _, hcell, hwz⟩
    · simp [Value.cells] at hcs
      obtain ⟨rfl, rfl, rfl⟩ := hcs
      exact ⟨[], by simp, by simp, by simp, .inl rfl, by intro i; simp⟩
    · simp [Value.cells] at hcs
      obtain ⟨rfl, rfl, rfl⟩ := hcs
      have hz1 : zs.length = c0 := by simpa using hz
      exact ⟨zs, (fun h => by cases h), hl, (by unfold maxLen at hm; omega), reads_of_cells (fun i hi => hcell i (by omega)), getD_all hwz (Nat.zero_le _)⟩
  obtain ⟨a1, n1, c1, rfl⟩ := okWide_slice Try.underlying23 (hval 1 23 v1 rfl rfl)
  have k1 := h1
  have lt1 : ∀ x ∈ p1, x.block < W.heap.size := by obtain ⟨m, hm⟩ := k1; exact DataW.trod_lt m _ _ _ hm
  obtain ⟨z1, nil1, cap1, max1, w1, e1⟩ : ∃ zs : Nat → Bool, (a1 = none → n1 = 0 ∧ c1 = 0) ∧ n1 ≤ c1 ∧ c1 ≤ 9223372036854775807 ∧ Reads W a1 n1 (fun i => .bool (zs i)) ∧ (True) := by
    obtain ⟨fuel, hf⟩ := h1
    rcases Go.Deep.open_bools Try.underlying23 Try.underlying4 (by kernel_rfl) hf with ⟨hcs, _⟩ | ⟨x, l, c, zs, hcs, _, hl, hm, _, hcell⟩
    · simp [Value.cells] at hcs
      obtain ⟨rfl, rfl, rfl⟩ := hcs
      exact ⟨fun _ => false, by simp, by simp, by simp, .inl rfl, trivial⟩
    · simp [Value.cells] at hcs
      obtain ⟨rfl, rfl, rfl⟩ := hcs
      exact ⟨zs, (fun h => by cases h), hl, (by unfold maxLen at hm; omega), reads_of_cells (fun i hi => hcell i (by omega)), trivial⟩
  clear hA0 hval0
  refine (walk4 a0 n0 c0 (fun i => z0.getD i ByteArray.empty) a1 n1 c1 z1 W nil0 cap0 max0 w0 e0 nil1 cap1 max1 w1).mono fun e W' ⟨he, bel⟩ => ?_
  subst he
  exact ⟨_, rfl, _, _, _, [], _, [], hW', trodAll_mk1 (shut_bool Try.underlying4 _), (trodAll_cons_mk (Below.trod laidOut (by kernel_rfl) (of_decide_eq_true (by kernel_rfl)) k0 bel lt0) (trodAll_cons_mk (Below.trod laidOut (by kernel_rfl) (of_decide_eq_true (by kernel_rfl)) k1 bel lt1) trodAll_mk0)), rfl, bel.frame _, fun h => by cases h⟩

theorem proved : Rows.FnNilTimerIsInertSaid :=
  OpenClaim.holds_of_wide 4 Try.f4 rfl rfl rfl rfl rfl rfl rfl ⟨rfl, rfl, rfl, rfl, rfl⟩ rfl rfl rfl rfl rfl (by kernel_rfl) Try.func4 (by kernel_rfl)
    (of_decide_eq_true (by kernel_rfl)) (by unfold Func.isWrapper; first | (rw [if_pos (by decide +kernel)]; kernel_rfl) | (rw [if_neg (by decide +kernel)]; exact ⟨rfl, rfl⟩))
    (fun os started H enc _ => lifted os started H enc)
#print axioms proved

end Go.Proofs.Ytaghkncaeedlkaa
