/-
  Proved: FnForkIsFreshEmptyAndSeparate: a fork of a live timer is new, not nil and empty, and scripts run afterwards land each in their own timer. Condition: the law's own.
-/
import Derived.Test.YtaghkncaeedlkaaMany
import Derived.SliceStrings
import Derived.Deep.Grids
namespace Go.Proofs.Ytaghkncaeedlkaa
open Go.ChangeShapes Go.WideShapes Go.ChangeAt Go.RowKit
open Go.ChangeMaps (open_string shut_string)
set_option linter.unusedSimpArgs false
set_option linter.unusedVariables false

theorem early6 (a0 : Option Addr) (n0 c0 : Nat) (f0 : Nat → ByteArray) (a1 : Option Addr) (n1 c1 : Nat) (f1 : Nat → Bool) (a2 : Option Addr) (n2 c2 : Nat) (f2 : Nat → ByteArray) (a3 : Option Addr) (n3 c3 : Nat) (f3 : Nat → Bool) (w : World)
    (hnil0 : a0 = none → n0 = 0 ∧ c0 = 0) (hc0 : n0 ≤ c0) (hn0 : c0 ≤ 9223372036854775807) (hR0 : Reads w a0 n0 fun i => .string (f0 i)) (hs0 : ∀ i, (f0 i).size ≤ maxLen)
    (hnil1 : a1 = none → n1 = 0 ∧ c1 = 0) (hc1 : n1 ≤ c1) (hn1 : c1 ≤ 9223372036854775807) (hR1 : Reads w a1 n1 fun i => .bool (f1 i))
    (hnil2 : a2 = none → n2 = 0 ∧ c2 = 0) (hc2 : n2 ≤ c2) (hn2 : c2 ≤ 9223372036854775807) (hR2 : Reads w a2 n2 fun i => .string (f2 i)) (hs2 : ∀ i, (f2 i).size ≤ maxLen)
    (hnil3 : a3 = none → n3 = 0 ∧ c3 = 0) (hc3 : n3 ≤ c3) (hn3 : c3 ≤ 9223372036854775807) (hR3 : Reads w a3 n3 fun i => .bool (f3 i))
    (hneg : 65536 < n0 ∨ 1048576 < n1 ∨ 65536 < n2 ∨ 1048576 < n3) :
    Calls Try.prog 6 #[.slice a0 n0 c0, .slice a1 n1 c1, .slice a2 n2 c2, .slice a3 n3 c3] w fun e w' => e = .returned (.bool true) ∧ Below w.heap.size w w' := by
  have HR0 := Lib.hid hR0
  have HR1 := Lib.hid hR1
  have HR2 := Lib.hid hR2
  have HR3 := Lib.hid hR3
  clear hR0 hnil0 hR1 hnil1 hR2 hnil2 hR3 hnil3
  rcases hneg with hneg | hneg | hneg | hneg
  all_goals (
    go_enter Try.func6, Try.ntmps6
    go_wp2_with fail
    refine (bytes19_any a0 n0 c0 f0 a1 n1 c1 a2 n2 c2 f2 a3 n3 c3 w HR0.out (by omega) (by omega) HR2.out (by omega) (by omega)).mono ?_
    rintro e w' ⟨r, rfl, rfl⟩
    cases r
    · go_wp2_with (go_at_call 9; refine (sbytes_any _ _ _ _ _ _ _ w (by first | exact HR0.out | exact HR2.out | exact HR4.out) (by omega)).mono ?_; rintro e w' ⟨y, rfl, rfl⟩)
      all_goals (go_ret; exact ⟨rfl, Below.refl _ _⟩)
    · go_wp2_with (go_at_call 9; refine (sbytes_any _ _ _ _ _ _ _ w (by first | exact HR0.out | exact HR2.out | exact HR4.out) (by omega)).mono ?_; rintro e w' ⟨y, rfl, rfl⟩)
      all_goals (go_ret; exact ⟨rfl, Below.refl _ _⟩)
  )

theorem walk6 (a0 : Option Addr) (n0 c0 : Nat) (f0 : Nat → ByteArray) (a1 : Option Addr) (n1 c1 : Nat) (f1 : Nat → Bool) (a2 : Option Addr) (n2 c2 : Nat) (f2 : Nat → ByteArray) (a3 : Option Addr) (n3 c3 : Nat) (f3 : Nat → Bool) (w : World)
    (hnil0 : a0 = none → n0 = 0 ∧ c0 = 0) (hc0 : n0 ≤ c0) (hn0 : c0 ≤ 9223372036854775807) (hR0 : Reads w a0 n0 fun i => .string (f0 i)) (hs0 : ∀ i, (f0 i).size ≤ maxLen)
    (hnil1 : a1 = none → n1 = 0 ∧ c1 = 0) (hc1 : n1 ≤ c1) (hn1 : c1 ≤ 9223372036854775807) (hR1 : Reads w a1 n1 fun i => .bool (f1 i))
    (hnil2 : a2 = none → n2 = 0 ∧ c2 = 0) (hc2 : n2 ≤ c2) (hn2 : c2 ≤ 9223372036854775807) (hR2 : Reads w a2 n2 fun i => .string (f2 i)) (hs2 : ∀ i, (f2 i).size ≤ maxLen)
    (hnil3 : a3 = none → n3 = 0 ∧ c3 = 0) (hc3 : n3 ≤ c3) (hn3 : c3 ≤ 9223372036854775807) (hR3 : Reads w a3 n3 fun i => .bool (f3 i)) :
    Calls Try.prog 6 #[.slice a0 n0 c0, .slice a1 n1 c1, .slice a2 n2 c2, .slice a3 n3 c3] w fun e w' => e = .returned (.bool true) ∧ Below w.heap.size w w' := by
  by_cases hb : n0 ≤ 65536 ∧ n1 ≤ 1048576 ∧ n2 ≤ 65536 ∧ n3 ≤ 1048576
  · obtain ⟨hb0, hb1, hb2, hb3⟩ := hb
    have HR0 := Lib.hid hR0; have Hnil0 := Lib.hid hnil0
    have HR1 := Lib.hid hR1; have Hnil1 := Lib.hid hnil1
    have HR2 := Lib.hid hR2; have Hnil2 := Lib.hid hnil2
    have HR3 := Lib.hid hR3; have Hnil3 := Lib.hid hnil3
    clear hR0 hnil0 hR1 hnil1 hR2 hnil2 hR3 hnil3
    go_enter Try.func6, Try.ntmps6
    go_wp2_with fail
    refine (bytes19_any a0 n0 c0 f0 a1 n1 c1 a2 n2 c2 f2 a3 n3 c3 w HR0.out (by omega) (by omega) HR2.out (by omega) (by omega)).mono ?_
    rintro e w' ⟨r, rfl, rfl⟩
    cases r
    · go_wp2
      go_ret
      exact ⟨rfl, Below.refl _ _⟩
    go_wp2_with fail
    refine (sbytes_any a0 n0 c0 f0 a1 n1 c1 w HR0.out (by omega)).mono ?_
    rintro e w' ⟨y0, rfl, rfl⟩
    go_wp2_with fail
    refine (sbytes_any a2 n2 c2 f2 a3 n3 c3 w HR2.out (by omega)).mono ?_
    rintro e w' ⟨y1, rfl, rfl⟩
    by_cases hy : 1048576 < wrap64 (y0 + y1)
    · go_wp2
      go_ret
      exact ⟨rfl, Below.refl _ _⟩
    have C0 := Lib.hid (Chg.refl Nowhere w)
    go_wp2_with fail
    refine (cloneS_any a0 n0 c0 f0 w (fun h => (Hnil0.out h).1) (by omega) (HR0.out.kept C0.out fun _ _ _ h => h)).mono ?_
    rintro e v0 ⟨b0, d0, rfl, hr, hk, hl⟩
    have R0_0 := Lib.hid hr; have K := Lib.hid hk; have L0_0 : Hid (∀ g o, b0 = some ⟨g, o, none⟩ → g < v0.heap.size) := fun g o h => (hl g o h).2
    have C1 := Lib.hid (C0.out.trans hk fun _ _ h => h)
    clear hr hk hl K
    go_wp2_with fail
    refine (cloneB_any a1 n1 c1 f1 v0 (fun h => (Hnil1.out h).1) (by omega) (HR1.out.kept C1.out fun _ _ _ h => h)).mono ?_
    rintro e v1 ⟨b1, d1, rfl, hr, hk, hl⟩
    have R1_1 := Lib.hid hr; have K := Lib.hid hk; have L1_1 : Hid (∀ g o, b1 = some ⟨g, o, none⟩ → g < v1.heap.size) := fun g o h => (hl g o h).2
    have C2 := Lib.hid (C1.out.trans hk fun _ _ h => h)
    have R0_1 := Lib.hid (R0_0.out.kept hk fun _ _ _ h => h); have L0_1 : Hid (∀ g o, b0 = some ⟨g, o, none⟩ → g < v1.heap.size) := fun g o h => Nat.lt_of_lt_of_le (L0_0.out g o h) hk.size; clear R0_0 L0_0
    clear hr hk hl K
    go_wp2_with fail
    refine (cloneS_any a2 n2 c2 f2 v1 (fun h => (Hnil2.out h).1) (by omega) (HR2.out.kept C2.out fun _ _ _ h => h)).mono ?_
    rintro e v2 ⟨b2, d2, rfl, hr, hk, hl⟩
    have R2_2 := Lib.hid hr; have K := Lib.hid hk; have L2_2 : Hid (∀ g o, b2 = some ⟨g, o, none⟩ → g < v2.heap.size) := fun g o h => (hl g o h).2
    have C3 := Lib.hid (C2.out.trans hk fun _ _ h => h)
    have R0_2 := Lib.hid (R0_1.out.kept hk fun _ _ _ h => h); have L0_2 : Hid (∀ g o, b0 = some ⟨g, o, none⟩ → g < v2.heap.size) := fun g o h => Nat.lt_of_lt_of_le (L0_1.out g o h) hk.size; clear R0_1 L0_1
    have R1_2 := Lib.hid (R1_1.out.kept hk fun _ _ _ h => h); have L1_2 : Hid (∀ g o, b1 = some ⟨g, o, none⟩ → g < v2.heap.size) := fun g o h => Nat.lt_of_lt_of_le (L1_1.out g o h) hk.size; clear R1_1 L1_1
    clear hr hk hl K
    go_wp2_with fail
    refine (cloneB_any a3 n3 c3 f3 v2 (fun h => (Hnil3.out h).1) (by omega) (HR3.out.kept C3.out fun _ _ _ h => h)).mono ?_
    rintro e v3 ⟨b3, d3, rfl, hr, hk, hl⟩
    have R3_3 := Lib.hid hr; have K := Lib.hid hk; have L3_3 : Hid (∀ g o, b3 = some ⟨g, o, none⟩ → g < v3.heap.size) := fun g o h => (hl g o h).2
    have C4 := Lib.hid (C3.out.trans hk fun _ _ h => h)
    have R0_3 := Lib.hid (R0_2.out.kept hk fun _ _ _ h => h); have L0_3 : Hid (∀ g o, b0 = some ⟨g, o, none⟩ → g < v3.heap.size) := fun g o h => Nat.lt_of_lt_of_le (L0_2.out g o h) hk.size; clear R0_2 L0_2
    have R1_3 := Lib.hid (R1_2.out.kept hk fun _ _ _ h => h); have L1_3 : Hid (∀ g o, b1 = some ⟨g, o, none⟩ → g < v3.heap.size) := fun g o h => Nat.lt_of_lt_of_le (L1_2.out g o h) hk.size; clear R1_2 L1_2
    have R2_3 := Lib.hid (R2_2.out.kept hk fun _ _ _ h => h); have L2_3 : Hid (∀ g o, b2 = some ⟨g, o, none⟩ → g < v3.heap.size) := fun g o h => Nat.lt_of_lt_of_le (L2_2.out g o h) hk.size; clear R2_2 L2_2
    clear hr hk hl K
    have B0 := Lib.hid (Below.refl v3.heap.size v3)
    have B1 := Lib.hid (B0.out.alloc B0.out.size TIM)
    have LOt_1 : Hid (∀ k, foot v3.heap.size none k → v3.heap.size ≤ k) := fun k h => foot_none h
    have Tt_1 := Lib.hid (Timer.fresh v3); have BBt : Hid (v3.heap.size ≤ v3.heap.size) := B0.out.size
    go_wp2_with fail
    refine (run_any v3.heap.size none 0 ([] : List Rec) b0 n0 d0 f0 b1 n1 d1 f1 _ Tt_1.out (by simp [script_length]; try omega) (by omega) (R0_3.out.below B1.out L0_3.out) (fun g o h => not_foot_lt LOt_1.out (Nat.lt_of_lt_of_le (L0_3.out g o h) BBt.out)) (R1_3.out.below B1.out L1_3.out) (fun g o h => not_foot_lt LOt_1.out (Nat.lt_of_lt_of_le (L1_3.out g o h) BBt.out))).mono ?_
    rintro e W2 ⟨rfl, hk, ao2, cap2, hT, hf⟩
    have Tt_2 := Lib.hid hT; have K2 := Lib.hid hk; have F2 := Lib.hid hf
    clear hT hk hf
    have B2 := Lib.hid (below_step B1.out K2.out LOt_1.out BBt.out)
    have LOt_2 := Lib.hid (step_lo LOt_1.out F2.out (Nat.le_of_lt (Tt_1.out.lt (.inl rfl)) |> fun h => Nat.le_trans (LOt_1.out _ (.inl rfl)) h))
    clear K2 F2
    go_wp2_with fail
    refine (fork_any _ _).mono ?_
    rintro e w' ⟨rfl, rfl⟩
    have HItf_3 : Hid (∀ k, foot v3.heap.size ao2 k → k < W2.heap.size) := fun k h => Tt_2.out.lt h
    have HPtf_3 : Hid (v3.heap.size < W2.heap.size) := HItf_3 _ (.inl rfl)
    have Tt_3 := Lib.hid (Tt_2.out.alloc TIM)
    have B3 := Lib.hid (B2.out.alloc B2.out.size TIM)
    have LOf_3 : Hid (∀ k, foot W2.heap.size none k → W2.heap.size ≤ k) := fun k h => foot_none h
    have Tf_3 := Lib.hid (Timer.fresh W2); have BBf : Hid (v3.heap.size ≤ W2.heap.size) := B2.out.size
    obtain ⟨j0, hj, hj0, hj1, hj2⟩ := info_parts info38
    have hne : (binOp .eql 28 (.pointer (some ⟨W2.heap.size, 0, none⟩)) (.pointer (some ⟨v3.heap.size, 0, none⟩))).run Try.prog (W2.alloc (.cells #[.slice none 0 0, .int .i32 0, .int .u32 0] 38)) = .ok (.bool false) (W2.alloc (.cells #[.slice none 0 0, .int .i32 0, .int .u32 0] 38)) := run_eql_ptr_other _ Try.underlying28 hj (by omega) (by intro h; injection h with h; have := HPtf_3.out; omega) Tf_3.out.blk Tt_3.out.blk
    clear hj hj0 hj1 hj2
    go_wp2_with fail
    refine (len_any _ _ _ _ _ Tf_3.out).mono ?_
    rintro e w' ⟨rfl, rfl⟩
    have hl4 : (([] : List Rec)).length = 0 := by simp [script_length]; try omega
    rw [hl4]
    clear hl4
    clear hne
    go_wp2_with fail
    refine (fork_any _ _).mono ?_
    rintro e w' ⟨rfl, rfl⟩
    have HItx_5 : Hid (∀ k, foot v3.heap.size ao2 k → k < (W2.alloc TIM).heap.size) := fun k h => Tt_3.out.lt h
    have HPtx_5 : Hid (v3.heap.size < (W2.alloc TIM).heap.size) := HItx_5 _ (.inl rfl)
    have Tt_5 := Lib.hid (Tt_3.out.alloc TIM)
    have HIfx_5 : Hid (∀ k, foot W2.heap.size none k → k < (W2.alloc TIM).heap.size) := fun k h => Tf_3.out.lt h
    have HPfx_5 : Hid (W2.heap.size < (W2.alloc TIM).heap.size) := HIfx_5 _ (.inl rfl)
    have Tf_5 := Lib.hid (Tf_3.out.alloc TIM)
    have B5 := Lib.hid (B3.out.alloc B3.out.size TIM)
    have LOx_5 : Hid (∀ k, foot (W2.alloc TIM).heap.size none k → (W2.alloc TIM).heap.size ≤ k) := fun k h => foot_none h
    have Tx_5 := Lib.hid (Timer.fresh (W2.alloc TIM)); have BBx : Hid (v3.heap.size ≤ (W2.alloc TIM).heap.size) := B3.out.size
    go_wp2_with fail
    refine (run_any W2.heap.size none 0 ([] : List Rec) b2 n2 d2 f2 b3 n3 d3 f3 _ Tf_5.out (by simp [script_length]; try omega) (by omega) (R2_3.out.below B5.out L2_3.out) (fun g o h => not_foot_lt LOf_3.out (Nat.lt_of_lt_of_le (L2_3.out g o h) BBf.out)) (R3_3.out.below B5.out L3_3.out) (fun g o h => not_foot_lt LOf_3.out (Nat.lt_of_lt_of_le (L3_3.out g o h) BBf.out))).mono ?_
    rintro e W6 ⟨rfl, hk, ao6, cap6, hT, hf⟩
    have Tf_6 := Lib.hid hT; have K6 := Lib.hid hk; have F6 := Lib.hid hf
    clear hT hk hf
    have B6 := Lib.hid (below_step B5.out K6.out LOf_3.out BBf.out)
    have Tt_6 := Lib.hid (Tt_5.out.kept K6.out (fun k h1 h2 => disj_lo HItf_3.out LOf_3.out h1 h2))
    have LOf_6 := Lib.hid (step_lo LOf_3.out F6.out (Nat.le_of_lt (Tf_5.out.lt (.inl rfl)) |> fun h => Nat.le_trans (LOf_3.out _ (.inl rfl)) h))
    clear K6 F6
    go_wp2_with fail
    refine (len_any _ _ _ _ _ Tt_6.out).mono ?_
    rintro e w' ⟨rfl, rfl⟩
    have hl7 : ((([] : List Rec) ++ script f0 n1 f1 n0)).length = n0 := by simp [script_length]; try omega
    rw [hl7]
    clear hl7
    go_wp2_with fail
    refine (len_any _ _ _ _ _ Tf_6.out).mono ?_
    rintro e w' ⟨rfl, rfl⟩
    have hl8 : ((([] : List Rec) ++ script f2 n3 f3 n2)).length = n2 := by simp [script_length]; try omega
    rw [hl8]
    clear hl8
    go_wp2_with fail
    refine (match_any v3.heap.size ao2 cap2 (([] : List Rec) ++ script f0 n1 f1 n0) (0) b0 n0 d0 f0 b1 n1 d1 f1 _ Tt_6.out (by omega) (by omega) (fun i hi => by have := seg_get [] [] f0 n1 f1 n0 (0) (by simp [script_length]; try omega) i hi; simpa using this) (R0_3.out.below B6.out L0_3.out) (R1_3.out.below B6.out L1_3.out)).mono ?_
    rintro e w' ⟨rfl, q9, rfl⟩
    have Tt_9 := Lib.hid (Tt_6.out.drewN (q9))
    have Tf_9 := Lib.hid (Tf_6.out.drewN (q9))
    have B9 := Lib.hid (below_drewN B6.out (q9))
    go_wp2_with fail
    refine (match_any W2.heap.size ao6 cap6 (([] : List Rec) ++ script f2 n3 f3 n2) (0) b2 n2 d2 f2 b3 n3 d3 f3 _ Tf_9.out (by omega) (by omega) (fun i hi => by have := seg_get [] [] f2 n3 f3 n2 (0) (by simp [script_length]; try omega) i hi; simpa using this) (R2_3.out.below B9.out L2_3.out) (R3_3.out.below B9.out L3_3.out)).mono ?_
    rintro e w' ⟨rfl, q10, rfl⟩
    have Tt_10 := Lib.hid (Tt_6.out.drewN (q9 + q10))
    have Tf_10 := Lib.hid (Tf_6.out.drewN (q9 + q10))
    have B10 := Lib.hid (below_drewN B6.out (q9 + q10))
    go_wp2
    go_ret
    exact ⟨rfl, below_all C4.out B10.out⟩
  · exact early6 a0 n0 c0 f0 a1 n1 c1 f1 a2 n2 c2 f2 a3 n3 c3 f3 w hnil0 hc0 hn0 hR0 hs0 hnil1 hc1 hn1 hR1 hnil2 hc2 hn2 hR2 hs2 hnil3 hc3 hn3 hR3 (by omega)

theorem own : ownKnob Try.prog.godebug = none := by kernel_rfl
theorem laidOut : laidOutB Try.prog = true := by kernel_rfl

set_option maxRecDepth 100000 in
theorem lifted (os : Os) (started : os.Started) (H : Type) (enc : TypeId × Value → H) :
    ReturnsInHanded {} Try.checked os 6 .any (Rows.fnForkIsFreshEmptyAndSeparateSpec.pre6 enc Try.prog Try.f6 Rows.fnForkIsFreshEmptyAndSeparateRow.domain false) (Rows.fnForkIsFreshEmptyAndSeparateSpec.post enc Try.prog Try.f6 false true false false) := by
  refine returnsInHanded_of_change (C := Try.checked) own started (by kernel_rfl) Try.func6
    (ChangeSpec.witness6 (enc := enc) (C := Try.checked) false ⟨#[], #[.slice none 0 0, .slice none 0 0, .slice none 0 0, .slice none 0 0], []⟩ 8 (by kernel_rfl) (by kernel_rfl) (by kernel_rfl) (by kernel_rfl)) ?_
  intro W base args ds gs before hval0 hW hcnd _
  have hval : ∀ (j : Nat) t v, Try.f6.params[j]? = some t → args[j]? = some v → Value.okWide Try.prog W .any base t v := hval0
  have hW' := hW
  obtain ⟨p, q, hA0, hV, rfl, hfz, hnd⟩ := hW
  have hA : DataW.TrodAll enc Try.prog W 0 (fun _ => true) true Try.f6.params.toList args.toList ds p := hA0
  rw [Try.params6] at hA hval
  obtain ⟨v0, vs0, d0, ds0, p0, q0, hargs, rfl, rfl, h0, r0⟩ := trodAll_cons hA
  obtain ⟨v1, vs1, d1, ds1, p1, q1, rfl, rfl, rfl, h1, r1⟩ := trodAll_cons r0
  obtain ⟨v2, vs2, d2, ds2, p2, q2, rfl, rfl, rfl, h2, r2⟩ := trodAll_cons r1
  obtain ⟨v3, vs3, d3, ds3, p3, q3, rfl, rfl, rfl, h3, r3⟩ := trodAll_cons r2
  obtain ⟨rfl, rfl, rfl⟩ := trodAll_nil r3
  obtain rfl : args = #[v0, v1, v2, v3] := by cases args; simp_all
  obtain ⟨rfl, rfl⟩ := trodVars_none hV
  obtain ⟨a0, n0, c0, rfl⟩ := okWide_slice Try.underlying22 (hval 0 22 v0 rfl rfl)
  have k0 := h0
  have lt0 : ∀ x ∈ p0, x.block < W.heap.size := by obtain ⟨m, hm⟩ := k0; exact DataW.trod_lt m _ _ _ hm
  obtain ⟨z0, nil0, cap0, max0, w0, e0⟩ : ∃ zs : List ByteArray, (a0 = none → n0 = 0 ∧ c0 = 0) ∧ n0 ≤ c0 ∧ c0 ≤ 9223372036854775807 ∧ Reads W a0 n0 (fun i => .string (zs.getD i ByteArray.empty)) ∧ (∀ i, (zs.getD i ByteArray.empty).size ≤ maxLen) := by
    obtain ⟨fuel, hf⟩ := h0
    rcases open_strings Try.underlying22 Try.underlying9 (by kernel_rfl) hf with ⟨hcs, _⟩ | ⟨x, l, c, zs, hcs, _, hl, hm, hz, _, hcell, hwz⟩
    · simp [Value.cells] at hcs
      obtain ⟨rfl, rfl, rfl⟩ := hcs
      exact ⟨[], by simp, by simp, by simp, .inl rfl, by intro i; simp⟩
    · simp [Value.cells] at hcs
      obtain ⟨rfl, rfl, rfl⟩ := hcs
      have hz1 : zs.length = c0 := by simpa using hz
      exact ⟨zs, (fun h => by cases h), hl, (by unfold maxLen at hm; omega), reads_of_cells (fun i hi => hcell i (by omega)), getD_all hwz (Nat.zero_le _)⟩
  obtain ⟨a1, n1, c1, rfl⟩ := okWide_slice Try.underlying23 (hval 1 23 v1 rfl rfl)
  have k1 := h1
  have lt1 : ∀ x ∈ p1, x.block < W.heap.size := by obtain ⟨m, hm⟩ := k1; exact DataW.trod_lt m _ _ _ hm
  obtain ⟨z1, nil1, cap1, max1, w1, e1⟩ : ∃ zs : Nat → Bool, (a1 = none → n1 = 0 ∧ c1 = 0) ∧ n1 ≤ c1 ∧ c1 ≤ 9223372036854775807 ∧ Reads W a1 n1 (fun i => .bool (zs i)) ∧ (True) := by
    obtain ⟨fuel, hf⟩ := h1
    rcases Go.Deep.open_bools Try.underlying23 Try.underlying4 (by kernel_rfl) hf with ⟨hcs, _⟩ | ⟨x, l, c, zs, hcs, _, hl, hm, _, hcell⟩
    · simp [Value.cells] at hcs
      obtain ⟨rfl, rfl, rfl⟩ := hcs
      exact ⟨fun _ => false, by simp, by simp, by simp, .inl rfl, trivial⟩
    · simp [Value.cells] at hcs
      obtain ⟨rfl, rfl, rfl⟩ := hcs
      exact ⟨zs, (fun h => by cases h), hl, (by unfold maxLen at hm; omega), reads_of_cells (fun i hi => hcell i (by omega)), trivial⟩
  obtain ⟨a2, n2, c2, rfl⟩ := okWide_slice Try.underlying22 (hval 2 22 v2 rfl rfl)
  have k2 := h2
  have lt2 : ∀ x ∈ p2, x.block < W.heap.size := by obtain ⟨m, hm⟩ := k2; exact DataW.trod_lt m _ _ _ hm
  obtain ⟨z2, nil2, cap2, max2, w2, e2⟩ : ∃ zs : List ByteArray, (a2 = none → n2 = 0 ∧ c2 = 0) ∧ n2 ≤ c2 ∧ c2 ≤ 9223372036854775807 ∧ Reads W a2 n2 (fun i => .string (zs.getD i ByteArray.empty)) ∧ (∀ i, (zs.getD i ByteArray.empty).size ≤ maxLen) := by
    obtain ⟨fuel, hf⟩ := h2
    rcases open_strings Try.underlying22 Try.underlying9 (by kernel_rfl) hf with ⟨hcs, _⟩ | ⟨x, l, c, zs, hcs, _, hl, hm, hz, _, hcell, hwz⟩
    · simp [Value.cells] at hcs
      obtain ⟨rfl, rfl, rfl⟩ := hcs
      exact ⟨[], by simp, by simp, by simp, .inl rfl, by intro i; simp⟩
    · simp [Value.cells] at hcs
      obtain ⟨rfl, rfl, rfl⟩ := hcs
      have hz1 : zs.length = c2 := by simpa using hz
      exact ⟨zs, (fun h => by cases h), hl, (by unfold maxLen at hm; omega), reads_of_cells (fun i hi => hcell i (by omega)), getD_all hwz (Nat.zero_le _)⟩
  obtain ⟨a3, n3, c3, rfl⟩ := okWide_slice Try.underlying23 (hval 3 23 v3 rfl rfl)
  have k3 := h3
  have lt3 : ∀ x ∈ p3, x.block < W.heap.size := by obtain ⟨m, hm⟩ := k3; exact DataW.trod_lt m _ _ _ hm
  obtain ⟨z3, nil3, cap3, max3, w3, e3⟩ : ∃ zs : Nat → Bool, (a3 = none → n3 = 0 ∧ c3 = 0) ∧ n3 ≤ c3 ∧ c3 ≤ 9223372036854775807 ∧ Reads W a3 n3 (fun i => .bool (zs i)) ∧ (True) := by
    obtain ⟨fuel, hf⟩ := h3
    rcases Go.Deep.open_bools Try.underlying23 Try.underlying4 (by kernel_rfl) hf with ⟨hcs, _⟩ | ⟨x, l, c, zs, hcs, _, hl, hm, _, hcell⟩
    · simp [Value.cells] at hcs
      obtain ⟨rfl, rfl, rfl⟩ := hcs
      exact ⟨fun _ => false, by simp, by simp, by simp, .inl rfl, trivial⟩
    · simp [Value.cells] at hcs
      obtain ⟨rfl, rfl, rfl⟩ := hcs
      exact ⟨zs, (fun h => by cases h), hl, (by unfold maxLen at hm; omega), reads_of_cells (fun i hi => hcell i (by omega)), trivial⟩
  clear hA0 hval0
  refine (walk6 a0 n0 c0 (fun i => z0.getD i ByteArray.empty) a1 n1 c1 z1 a2 n2 c2 (fun i => z2.getD i ByteArray.empty) a3 n3 c3 z3 W nil0 cap0 max0 w0 e0 nil1 cap1 max1 w1 nil2 cap2 max2 w2 e2 nil3 cap3 max3 w3).mono fun e W' ⟨he, bel⟩ => ?_
  subst he
  exact ⟨_, rfl, _, _, _, [], _, [], hW', trodAll_mk1 (shut_bool Try.underlying4 _), (trodAll_cons_mk (Below.trod laidOut (by kernel_rfl) (of_decide_eq_true (by kernel_rfl)) k0 bel lt0) (trodAll_cons_mk (Below.trod laidOut (by kernel_rfl) (of_decide_eq_true (by kernel_rfl)) k1 bel lt1) (trodAll_cons_mk (Below.trod laidOut (by kernel_rfl) (of_decide_eq_true (by kernel_rfl)) k2 bel lt2) (trodAll_cons_mk (Below.trod laidOut (by kernel_rfl) (of_decide_eq_true (by kernel_rfl)) k3 bel lt3) trodAll_mk0)))), rfl, bel.frame _, fun h => by cases h⟩

theorem proved : Rows.FnForkIsFreshEmptyAndSeparateSaid :=
  OpenClaim.holds_of_wide 6 Try.f6 rfl rfl rfl rfl rfl rfl rfl ⟨rfl, rfl, rfl, rfl, rfl⟩ rfl rfl rfl rfl rfl (by kernel_rfl) Try.func6 (by kernel_rfl)
    (of_decide_eq_true (by kernel_rfl)) (by unfold Func.isWrapper; first | (rw [if_pos (by decide +kernel)]; kernel_rfl) | (rw [if_neg (by decide +kernel)]; exact ⟨rfl, rfl⟩))
    (fun os started H enc _ => lifted os started H enc)
#print axioms proved

end Go.Proofs.Ytaghkncaeedlkaa
