/-
  Proved: FnJoinAssociativeWithNilIdentity: joining v into u and u into t gives the same records as joining u, nil and v into t. Condition: the law's own.
-/
import Derived.Test.YtaghkncaeedlkaaMany
import Derived.SliceStrings
import Derived.Deep.Grids
namespace Go.Proofs.Ytaghkncaeedlkaa
open Go.ChangeShapes Go.WideShapes Go.ChangeAt Go.RowKit
open Go.ChangeMaps (open_string shut_string)
set_option linter.unusedSimpArgs false
set_option linter.unusedVariables false

set_option maxHeartbeats 4000000 in
theorem early7 (a0 : Option Addr) (n0 c0 : Nat) (f0 : Nat → ByteArray) (a1 : Option Addr) (n1 c1 : Nat) (f1 : Nat → Bool) (a2 : Option Addr) (n2 c2 : Nat) (f2 : Nat → ByteArray) (a3 : Option Addr) (n3 c3 : Nat) (f3 : Nat → Bool) (a4 : Option Addr) (n4 c4 : Nat) (f4 : Nat → ByteArray) (a5 : Option Addr) (n5 c5 : Nat) (f5 : Nat → Bool) (w : World)
    (hnil0 : a0 = none → n0 = 0 ∧ c0 = 0) (hc0 : n0 ≤ c0) (hn0 : c0 ≤ 9223372036854775807) (hR0 : Reads w a0 n0 fun i => .string (f0 i)) (hs0 : ∀ i, (f0 i).size ≤ maxLen)
    (hnil1 : a1 = none → n1 = 0 ∧ c1 = 0) (hc1 : n1 ≤ c1) (hn1 : c1 ≤ 9223372036854775807) (hR1 : Reads w a1 n1 fun i => .bool (f1 i))
    (hnil2 : a2 = none → n2 = 0 ∧ c2 = 0) (hc2 : n2 ≤ c2) (hn2 : c2 ≤ 9223372036854775807) (hR2 : Reads w a2 n2 fun i => .string (f2 i)) (hs2 : ∀ i, (f2 i).size ≤ maxLen)
    (hnil3 : a3 = none → n3 = 0 ∧ c3 = 0) (hc3 : n3 ≤ c3) (hn3 : c3 ≤ 9223372036854775807) (hR3 : Reads w a3 n3 fun i => .bool (f3 i))
    (hnil4 : a4 = none → n4 = 0 ∧ c4 = 0) (hc4 : n4 ≤ c4) (hn4 : c4 ≤ 9223372036854775807) (hR4 : Reads w a4 n4 fun i => .string (f4 i)) (hs4 : ∀ i, (f4 i).size ≤ maxLen)
    (hnil5 : a5 = none → n5 = 0 ∧ c5 = 0) (hc5 : n5 ≤ c5) (hn5 : c5 ≤ 9223372036854775807) (hR5 : Reads w a5 n5 fun i => .bool (f5 i))
    (hneg : 65536 < n0 ∨ 1048576 < n1 ∨ 65536 < n2 ∨ 1048576 < n3 ∨ 65536 < n4 ∨ 1048576 < n5) :
    Calls Try.prog 7 #[.slice a0 n0 c0, .slice a1 n1 c1, .slice a2 n2 c2, .slice a3 n3 c3, .slice a4 n4 c4, .slice a5 n5 c5] w fun e w' => e = .returned (.bool true) ∧ Below w.heap.size w w' := by
  have HR0 := Lib.hid hR0
  have HR1 := Lib.hid hR1
  have HR2 := Lib.hid hR2
  have HR3 := Lib.hid hR3
  have HR4 := Lib.hid hR4
  have HR5 := Lib.hid hR5
  clear hR0 hnil0 hR1 hnil1 hR2 hnil2 hR3 hnil3 hR4 hnil4 hR5 hnil5
  rcases hneg with hneg | hneg | hneg | hneg | hneg | hneg
  all_goals (
    go_enter Try.func7, Try.ntmps7
    go_wp2_with fail
    refine (bytes20_any a0 n0 c0 f0 a1 n1 c1 a2 n2 c2 f2 a3 n3 c3 a4 n4 c4 f4 a5 n5 c5 w HR0.out (by omega) (by omega) HR2.out (by omega) (by omega) HR4.out (by omega) (by omega)).mono ?_
    rintro e w' ⟨r, rfl, rfl⟩
    cases r
    · go_wp2_with (go_at_call 9; refine (sbytes_any _ _ _ _ _ _ _ w (by first | exact HR0.out | exact HR2.out | exact HR4.out) (by omega)).mono ?_; rintro e w' ⟨y, rfl, rfl⟩)
      all_goals (go_ret; exact ⟨rfl, Below.refl _ _⟩)
    · go_wp2_with (go_at_call 9; refine (sbytes_any _ _ _ _ _ _ _ w (by first | exact HR0.out | exact HR2.out | exact HR4.out) (by omega)).mono ?_; rintro e w' ⟨y, rfl, rfl⟩)
      all_goals (go_ret; exact ⟨rfl, Below.refl _ _⟩)
  )

set_option maxHeartbeats 4000000 in
theorem walk7 (a0 : Option Addr) (n0 c0 : Nat) (f0 : Nat → ByteArray) (a1 : Option Addr) (n1 c1 : Nat) (f1 : Nat → Bool) (a2 : Option Addr) (n2 c2 : Nat) (f2 : Nat → ByteArray) (a3 : Option Addr) (n3 c3 : Nat) (f3 : Nat → Bool) (a4 : Option Addr) (n4 c4 : Nat) (f4 : Nat → ByteArray) (a5 : Option Addr) (n5 c5 : Nat) (f5 : Nat → Bool) (w : World)
    (hnil0 : a0 = none → n0 = 0 ∧ c0 = 0) (hc0 : n0 ≤ c0) (hn0 : c0 ≤ 9223372036854775807) (hR0 : Reads w a0 n0 fun i => .string (f0 i)) (hs0 : ∀ i, (f0 i).size ≤ maxLen)
    (hnil1 : a1 = none → n1 = 0 ∧ c1 = 0) (hc1 : n1 ≤ c1) (hn1 : c1 ≤ 9223372036854775807) (hR1 : Reads w a1 n1 fun i => .bool (f1 i))
    (hnil2 : a2 = none → n2 = 0 ∧ c2 = 0) (hc2 : n2 ≤ c2) (hn2 : c2 ≤ 9223372036854775807) (hR2 : Reads w a2 n2 fun i => .string (f2 i)) (hs2 : ∀ i, (f2 i).size ≤ maxLen)
    (hnil3 : a3 = none → n3 = 0 ∧ c3 = 0) (hc3 : n3 ≤ c3) (hn3 : c3 ≤ 9223372036854775807) (hR3 : Reads w a3 n3 fun i => .bool (f3 i))
    (hnil4 : a4 = none → n4 = 0 ∧ c4 = 0) (hc4 : n4 ≤ c4) (hn4 : c4 ≤ 9223372036854775807) (hR4 : Reads w a4 n4 fun i => .string (f4 i)) (hs4 : ∀ i, (f4 i).size ≤ maxLen)
    (hnil5 : a5 = none → n5 = 0 ∧ c5 = 0) (hc5 : n5 ≤ c5) (hn5 : c5 ≤ 9223372036854775807) (hR5 : Reads w a5 n5 fun i => .bool (f5 i)) :
    Calls Try.prog 7 #[.slice a0 n0 c0, .slice a1 n1 c1, .slice a2 n2 c2, .slice a3 n3 c3, .slice a4 n4 c4, .slice a5 n5 c5] w fun e w' => e = .returned (.bool true) ∧ Below w.heap.size w w' := by
  by_cases hb : n0 ≤ 65536 ∧ n1 ≤ 1048576 ∧ n2 ≤ 65536 ∧ n3 ≤ 1048576 ∧ n4 ≤ 65536 ∧ n5 ≤ 1048576
  · obtain ⟨hb0, hb1, hb2, hb3, hb4, hb5⟩ := hb
    have HR0 := Lib.hid hR0; have Hnil0 := Lib.hid hnil0
    have HR1 := Lib.hid hR1; have Hnil1 := Lib.hid hnil1
    have HR2 := Lib.hid hR2; have Hnil2 := Lib.hid hnil2
    have HR3 := Lib.hid hR3; have Hnil3 := Lib.hid hnil3
    have HR4 := Lib.hid hR4; have Hnil4 := Lib.hid hnil4
    have HR5 := Lib.hid hR5; have Hnil5 := Lib.hid hnil5
    clear hR0 hnil0 hR1 hnil1 hR2 hnil2 hR3 hnil3 hR4 hnil4 hR5 hnil5
    go_enter Try.func7, Try.ntmps7
    go_wp2_with fail
    refine (bytes20_any a0 n0 c0 f0 a1 n1 c1 a2 n2 c2 f2 a3 n3 c3 a4 n4 c4 f4 a5 n5 c5 w HR0.out (by omega) (by omega) HR2.out (by omega) (by omega) HR4.out (by omega) (by omega)).mono ?_
    rintro e w' ⟨r, rfl, rfl⟩
    cases r
    · go_wp2
      go_ret
      exact ⟨rfl, Below.refl _ _⟩
    go_wp2_with fail
    refine (sbytes_any a0 n0 c0 f0 a1 n1 c1 w HR0.out (by omega)).mono ?_
    rintro e w' ⟨y0, rfl, rfl⟩
    go_wp2_with fail
    refine (sbytes_any a2 n2 c2 f2 a3 n3 c3 w HR2.out (by omega)).mono ?_
    rintro e w' ⟨y1, rfl, rfl⟩
    go_wp2_with fail
    refine (sbytes_any a4 n4 c4 f4 a5 n5 c5 w HR4.out (by omega)).mono ?_
    rintro e w' ⟨y2, rfl, rfl⟩
    by_cases hy : 1048576 < wrap64 (wrap64 (y0 + y1) + y2)
    · go_wp2
      go_ret
      exact ⟨rfl, Below.refl _ _⟩
    have C0 := Lib.hid (Chg.refl Nowhere w)
    go_wp2_with fail
    refine (cloneS_any a0 n0 c0 f0 w (fun h => (Hnil0.out h).1) (by omega) (HR0.out.kept C0.out fun _ _ _ h => h)).mono ?_
    rintro e v0 ⟨b0, d0, rfl, hr, hk, hl⟩
    have R0_0 := Lib.hid hr; have K := Lib.hid hk; have L0_0 : Hid (∀ g o, b0 = some ⟨g, o, none⟩ → g < v0.heap.size) := fun g o h => (hl g o h).2
    have C1 := Lib.hid (C0.out.trans hk fun _ _ h => h)
    clear hr hk hl K
    go_wp2_with fail
    refine (cloneB_any a1 n1 c1 f1 v0 (fun h => (Hnil1.out h).1) (by omega) (HR1.out.kept C1.out fun _ _ _ h => h)).mono ?_
    rintro e v1 ⟨b1, d1, rfl, hr, hk, hl⟩
    have R1_1 := Lib.hid hr; have K := Lib.hid hk; have L1_1 : Hid (∀ g o, b1 = some ⟨g, o, none⟩ → g < v1.heap.size) := fun g o h => (hl g o h).2
    have C2 := Lib.hid (C1.out.trans hk fun _ _ h => h)
    have R0_1 := Lib.hid (R0_0.out.kept hk fun _ _ _ h => h); have L0_1 : Hid (∀ g o, b0 = some ⟨g, o, none⟩ → g < v1.heap.size) := fun g o h => Nat.lt_of_lt_of_le (L0_0.out g o h) hk.size; clear R0_0 L0_0
    clear hr hk hl K
    go_wp2_with fail
    refine (cloneS_any a2 n2 c2 f2 v1 (fun h => (Hnil2.out h).1) (by omega) (HR2.out.kept C2.out fun _ _ _ h => h)).mono ?_
    rintro e v2 ⟨b2, d2, rfl, hr, hk, hl⟩
    have R2_2 := Lib.hid hr; have K := Lib.hid hk; have L2_2 : Hid (∀ g o, b2 = some ⟨g, o, none⟩ → g < v2.heap.size) := fun g o h => (hl g o h).2
    have C3 := Lib.hid (C2.out.trans hk fun _ _ h => h)
    have R0_2 := Lib.hid (R0_1.out.kept hk fun _ _ _ h => h); have L0_2 : Hid (∀ g o, b0 = some ⟨g, o, none⟩ → g < v2.heap.size) := fun g o h => Nat.lt_of_lt_of_le (L0_1.out g o h) hk.size; clear R0_1 L0_1
    have R1_2 := Lib.hid (R1_1.out.kept hk fun _ _ _ h => h); have L1_2 : Hid (∀ g o, b1 = some ⟨g, o, none⟩ → g < v2.heap.size) := fun g o h => Nat.lt_of_lt_of_le (L1_1.out g o h) hk.size; clear R1_1 L1_1
    clear hr hk hl K
    go_wp2_with fail
    refine (cloneB_any a3 n3 c3 f3 v2 (fun h => (Hnil3.out h).1) (by omega) (HR3.out.kept C3.out fun _ _ _ h => h)).mono ?_
    rintro e v3 ⟨b3, d3, rfl, hr, hk, hl⟩
    have R3_3 := Lib.hid hr; have K := Lib.hid hk; have L3_3 : Hid (∀ g o, b3 = some ⟨g, o, none⟩ → g < v3.heap.size) := fun g o h => (hl g o h).2
    have C4 := Lib.hid (C3.out.trans hk fun _ _ h => h)
    have R0_3 := Lib.hid (R0_2.out.kept hk fun _ _ _ h => h); have L0_3 : Hid (∀ g o, b0 = some ⟨g, o, none⟩ → g < v3.heap.size) := fun g o h => Nat.lt_of_lt_of_le (L0_2.out g o h) hk.size; clear R0_2 L0_2
    have R1_3 := Lib.hid (R1_2.out.kept hk fun _ _ _ h => h); have L1_3 : Hid (∀ g o, b1 = some ⟨g, o, none⟩ → g < v3.heap.size) := fun g o h => Nat.lt_of_lt_of_le (L1_2.out g o h) hk.size; clear R1_2 L1_2
    have R2_3 := Lib.hid (R2_2.out.kept hk fun _ _ _ h => h); have L2_3 : Hid (∀ g o, b2 = some ⟨g, o, none⟩ → g < v3.heap.size) := fun g o h => Nat.lt_of_lt_of_le (L2_2.out g o h) hk.size; clear R2_2 L2_2
    clear hr hk hl K
    go_wp2_with fail
    refine (cloneS_any a4 n4 c4 f4 v3 (fun h => (Hnil4.out h).1) (by omega) (HR4.out.kept C4.out fun _ _ _ h => h)).mono ?_
    rintro e v4 ⟨b4, d4, rfl, hr, hk, hl⟩
    have R4_4 := Lib.hid hr; have K := Lib.hid hk; have L4_4 : Hid (∀ g o, b4 = some ⟨g, o, none⟩ → g < v4.heap.size) := fun g o h => (hl g o h).2
    have C5 := Lib.hid (C4.out.trans hk fun _ _ h => h)
    have R0_4 := Lib.hid (R0_3.out.kept hk fun _ _ _ h => h); have L0_4 : Hid (∀ g o, b0 = some ⟨g, o, none⟩ → g < v4.heap.size) := fun g o h => Nat.lt_of_lt_of_le (L0_3.out g o h) hk.size; clear R0_3 L0_3
    have R1_4 := Lib.hid (R1_3.out.kept hk fun _ _ _ h => h); have L1_4 : Hid (∀ g o, b1 = some ⟨g, o, none⟩ → g < v4.heap.size) := fun g o h => Nat.lt_of_lt_of_le (L1_3.out g o h) hk.size; clear R1_3 L1_3
    have R2_4 := Lib.hid (R2_3.out.kept hk fun _ _ _ h => h); have L2_4 : Hid (∀ g o, b2 = some ⟨g, o, none⟩ → g < v4.heap.size) := fun g o h => Nat.lt_of_lt_of_le (L2_3.out g o h) hk.size; clear R2_3 L2_3
    have R3_4 := Lib.hid (R3_3.out.kept hk fun _ _ _ h => h); have L3_4 : Hid (∀ g o, b3 = some ⟨g, o, none⟩ → g < v4.heap.size) := fun g o h => Nat.lt_of_lt_of_le (L3_3.out g o h) hk.size; clear R3_3 L3_3
    clear hr hk hl K
    go_wp2_with fail
    refine (cloneB_any a5 n5 c5 f5 v4 (fun h => (Hnil5.out h).1) (by omega) (HR5.out.kept C5.out fun _ _ _ h => h)).mono ?_
    rintro e v5 ⟨b5, d5, rfl, hr, hk, hl⟩
    have R5_5 := Lib.hid hr; have K := Lib.hid hk; have L5_5 : Hid (∀ g o, b5 = some ⟨g, o, none⟩ → g < v5.heap.size) := fun g o h => (hl g o h).2
    have C6 := Lib.hid (C5.out.trans hk fun _ _ h => h)
    have R0_5 := Lib.hid (R0_4.out.kept hk fun _ _ _ h => h); have L0_5 : Hid (∀ g o, b0 = some ⟨g, o, none⟩ → g < v5.heap.size) := fun g o h => Nat.lt_of_lt_of_le (L0_4.out g o h) hk.size; clear R0_4 L0_4
    have R1_5 := Lib.hid (R1_4.out.kept hk fun _ _ _ h => h); have L1_5 : Hid (∀ g o, b1 = some ⟨g, o, none⟩ → g < v5.heap.size) := fun g o h => Nat.lt_of_lt_of_le (L1_4.out g o h) hk.size; clear R1_4 L1_4
    have R2_5 := Lib.hid (R2_4.out.kept hk fun _ _ _ h => h); have L2_5 : Hid (∀ g o, b2 = some ⟨g, o, none⟩ → g < v5.heap.size) := fun g o h => Nat.lt_of_lt_of_le (L2_4.out g o h) hk.size; clear R2_4 L2_4
    have R3_5 := Lib.hid (R3_4.out.kept hk fun _ _ _ h => h); have L3_5 : Hid (∀ g o, b3 = some ⟨g, o, none⟩ → g < v5.heap.size) := fun g o h => Nat.lt_of_lt_of_le (L3_4.out g o h) hk.size; clear R3_4 L3_4
    have R4_5 := Lib.hid (R4_4.out.kept hk fun _ _ _ h => h); have L4_5 : Hid (∀ g o, b4 = some ⟨g, o, none⟩ → g < v5.heap.size) := fun g o h => Nat.lt_of_lt_of_le (L4_4.out g o h) hk.size; clear R4_4 L4_4
    clear hr hk hl K
    have B0 := Lib.hid (Below.refl v5.heap.size v5)
    have B1 := Lib.hid (B0.out.alloc B0.out.size TIM)
    have LOt_1 : Hid (∀ k, foot v5.heap.size none k → v5.heap.size ≤ k) := fun k h => foot_none h
    have Tt_1 := Lib.hid (Timer.fresh v5); have BBt : Hid (v5.heap.size ≤ v5.heap.size) := B0.out.size
    go_wp2_with fail
    refine (run_any v5.heap.size none 0 ([] : List Rec) b0 n0 d0 f0 b1 n1 d1 f1 _ Tt_1.out (by simp [script_length]; try omega) (by omega) (R0_5.out.below B1.out L0_5.out) (fun g o h => not_foot_lt LOt_1.out (Nat.lt_of_lt_of_le (L0_5.out g o h) BBt.out)) (R1_5.out.below B1.out L1_5.out) (fun g o h => not_foot_lt LOt_1.out (Nat.lt_of_lt_of_le (L1_5.out g o h) BBt.out))).mono ?_
    rintro e W2 ⟨rfl, hk, ao2, cap2, hT, hf⟩
    have Tt_2 := Lib.hid hT; have K2 := Lib.hid hk; have F2 := Lib.hid hf
    clear hT hk hf
    have B2 := Lib.hid (below_step B1.out K2.out LOt_1.out BBt.out)
    have LOt_2 := Lib.hid (step_lo LOt_1.out F2.out (Nat.le_of_lt (Tt_1.out.lt (.inl rfl)) |> fun h => Nat.le_trans (LOt_1.out _ (.inl rfl)) h))
    clear K2 F2
    go_wp2_with fail
    refine (fork_any _ _).mono ?_
    rintro e w' ⟨rfl, rfl⟩
    have HItu_3 : Hid (∀ k, foot v5.heap.size ao2 k → k < W2.heap.size) := fun k h => Tt_2.out.lt h
    have HPtu_3 : Hid (v5.heap.size < W2.heap.size) := HItu_3 _ (.inl rfl)
    have Tt_3 := Lib.hid (Tt_2.out.alloc TIM)
    have B3 := Lib.hid (B2.out.alloc B2.out.size TIM)
    have LOu_3 : Hid (∀ k, foot W2.heap.size none k → W2.heap.size ≤ k) := fun k h => foot_none h
    have Tu_3 := Lib.hid (Timer.fresh W2); have BBu : Hid (v5.heap.size ≤ W2.heap.size) := B2.out.size
    go_wp2_with fail
    refine (run_any W2.heap.size none 0 ([] : List Rec) b2 n2 d2 f2 b3 n3 d3 f3 _ Tu_3.out (by simp [script_length]; try omega) (by omega) (R2_5.out.below B3.out L2_5.out) (fun g o h => not_foot_lt LOu_3.out (Nat.lt_of_lt_of_le (L2_5.out g o h) BBu.out)) (R3_5.out.below B3.out L3_5.out) (fun g o h => not_foot_lt LOu_3.out (Nat.lt_of_lt_of_le (L3_5.out g o h) BBu.out))).mono ?_
    rintro e W4 ⟨rfl, hk, ao4, cap4, hT, hf⟩
    have Tu_4 := Lib.hid hT; have K4 := Lib.hid hk; have F4 := Lib.hid hf
    clear hT hk hf
    have B4 := Lib.hid (below_step B3.out K4.out LOu_3.out BBu.out)
    have Tt_4 := Lib.hid (Tt_3.out.kept K4.out (fun k h1 h2 => disj_lo HItu_3.out LOu_3.out h1 h2))
    have LOu_4 := Lib.hid (step_lo LOu_3.out F4.out (Nat.le_of_lt (Tu_3.out.lt (.inl rfl)) |> fun h => Nat.le_trans (LOu_3.out _ (.inl rfl)) h))
    clear K4 F4
    go_wp2_with fail
    refine (fork_any _ _).mono ?_
    rintro e w' ⟨rfl, rfl⟩
    have HItv_5 : Hid (∀ k, foot v5.heap.size ao2 k → k < W4.heap.size) := fun k h => Tt_4.out.lt h
    have HPtv_5 : Hid (v5.heap.size < W4.heap.size) := HItv_5 _ (.inl rfl)
    have Tt_5 := Lib.hid (Tt_4.out.alloc TIM)
    have HIuv_5 : Hid (∀ k, foot W2.heap.size ao4 k → k < W4.heap.size) := fun k h => Tu_4.out.lt h
    have HPuv_5 : Hid (W2.heap.size < W4.heap.size) := HIuv_5 _ (.inl rfl)
    have Tu_5 := Lib.hid (Tu_4.out.alloc TIM)
    have B5 := Lib.hid (B4.out.alloc B4.out.size TIM)
    have LOv_5 : Hid (∀ k, foot W4.heap.size none k → W4.heap.size ≤ k) := fun k h => foot_none h
    have Tv_5 := Lib.hid (Timer.fresh W4); have BBv : Hid (v5.heap.size ≤ W4.heap.size) := B4.out.size
    go_wp2_with fail
    refine (run_any W4.heap.size none 0 ([] : List Rec) b4 n4 d4 f4 b5 n5 d5 f5 _ Tv_5.out (by simp [script_length]; try omega) (by omega) (R4_5.out.below B5.out L4_5.out) (fun g o h => not_foot_lt LOv_5.out (Nat.lt_of_lt_of_le (L4_5.out g o h) BBv.out)) (R5_5.out.below B5.out L5_5.out) (fun g o h => not_foot_lt LOv_5.out (Nat.lt_of_lt_of_le (L5_5.out g o h) BBv.out))).mono ?_
    rintro e W6 ⟨rfl, hk, ao6, cap6, hT, hf⟩
    have Tv_6 := Lib.hid hT; have K6 := Lib.hid hk; have F6 := Lib.hid hf
    clear hT hk hf
    have B6 := Lib.hid (below_step B5.out K6.out LOv_5.out BBv.out)
    have Tt_6 := Lib.hid (Tt_5.out.kept K6.out (fun k h1 h2 => disj_lo HItv_5.out LOv_5.out h1 h2))
    have Tu_6 := Lib.hid (Tu_5.out.kept K6.out (fun k h1 h2 => disj_lo HIuv_5.out LOv_5.out h1 h2))
    have LOv_6 := Lib.hid (step_lo LOv_5.out F6.out (Nat.le_of_lt (Tv_5.out.lt (.inl rfl)) |> fun h => Nat.le_trans (LOv_5.out _ (.inl rfl)) h))
    clear K6 F6
    go_wp2_with fail
    refine (join_any W2.heap.size W4.heap.size ao4 ao6 cap4 cap6 (([] : List Rec) ++ script f2 n3 f3 n2) (([] : List Rec) ++ script f4 n5 f5 n4) _ Tu_6.out Tv_6.out (Nat.ne_of_lt HPuv_5.out) (fun x hx => Nat.ne_of_gt (Nat.lt_of_lt_of_le HPuv_5.out (LOv_6.out _ (.inr ⟨x, hx, rfl⟩)))) (by simp [script_length]; try omega) (by simp [script_length]; try omega)).mono ?_
    rintro e W7 ⟨rfl, hk, ao7, cap7, hT, hf⟩
    have Tu_7 := Lib.hid hT; have K7 := Lib.hid hk; have F7 := Lib.hid hf
    clear hT hk hf
    have B7 := Lib.hid (below_step B6.out K7.out LOu_4.out BBu.out)
    have Tt_7 := Lib.hid (Tt_6.out.kept K7.out (fun k h1 h2 => disj_lo HItu_3.out LOu_4.out h1 h2))
    have Tv_7 := Lib.hid (Tv_6.out.kept K7.out (fun k h1 h2 => disj_lo HIuv_5.out LOv_6.out h2 h1))
    have LOu_7 := Lib.hid (step_lo LOu_4.out F7.out (Nat.le_of_lt (Tu_6.out.lt (.inl rfl)) |> fun h => Nat.le_trans (LOu_4.out _ (.inl rfl)) h))
    clear K7 F7
    go_wp2_with fail
    refine (join_any v5.heap.size W2.heap.size ao2 ao7 cap2 cap7 (([] : List Rec) ++ script f0 n1 f1 n0) ((([] : List Rec) ++ script f2 n3 f3 n2) ++ (([] : List Rec) ++ script f4 n5 f5 n4)) _ Tt_7.out Tu_7.out (Nat.ne_of_lt HPtu_3.out) (fun x hx => Nat.ne_of_gt (Nat.lt_of_lt_of_le HPtu_3.out (LOu_7.out _ (.inr ⟨x, hx, rfl⟩)))) (by simp [script_length]; try omega) (by simp [script_length]; try omega)).mono ?_
    rintro e W8 ⟨rfl, hk, ao8, cap8, hT, hf⟩
    have Tt_8 := Lib.hid hT; have K8 := Lib.hid hk; have F8 := Lib.hid hf
    clear hT hk hf
    have B8 := Lib.hid (below_step B7.out K8.out LOt_2.out BBt.out)
    have Tu_8 := Lib.hid (Tu_7.out.kept K8.out (fun k h1 h2 => disj_lo HItu_3.out LOu_7.out h2 h1))
    have LOt_8 := Lib.hid (step_lo LOt_2.out F8.out (Nat.le_of_lt (Tt_7.out.lt (.inl rfl)) |> fun h => Nat.le_trans (LOt_2.out _ (.inl rfl)) h))
    clear K8 F8
    have HItT_9 : Hid (∀ k, foot v5.heap.size ao8 k → k < W8.heap.size) := fun k h => Tt_8.out.lt h
    have HPtT_9 : Hid (v5.heap.size < W8.heap.size) := HItT_9 _ (.inl rfl)
    have Tt_9 := Lib.hid (Tt_8.out.alloc TIM)
    have B9 := Lib.hid (B8.out.alloc B8.out.size TIM)
    have LOT_9 : Hid (∀ k, foot W8.heap.size none k → W8.heap.size ≤ k) := fun k h => foot_none h
    have TT_9 := Lib.hid (Timer.fresh W8); have BBT : Hid (v5.heap.size ≤ W8.heap.size) := B8.out.size
    go_wp2_with fail
    refine (run_any W8.heap.size none 0 ([] : List Rec) b0 n0 d0 f0 b1 n1 d1 f1 _ TT_9.out (by simp [script_length]; try omega) (by omega) (R0_5.out.below B9.out L0_5.out) (fun g o h => not_foot_lt LOT_9.out (Nat.lt_of_lt_of_le (L0_5.out g o h) BBT.out)) (R1_5.out.below B9.out L1_5.out) (fun g o h => not_foot_lt LOT_9.out (Nat.lt_of_lt_of_le (L1_5.out g o h) BBT.out))).mono ?_
    rintro e W10 ⟨rfl, hk, ao10, cap10, hT, hf⟩
    have TT_10 := Lib.hid hT; have K10 := Lib.hid hk; have F10 := Lib.hid hf
    clear hT hk hf
    have B10 := Lib.hid (below_step B9.out K10.out LOT_9.out BBT.out)
    have Tt_10 := Lib.hid (Tt_9.out.kept K10.out (fun k h1 h2 => disj_lo HItT_9.out LOT_9.out h1 h2))
    have LOT_10 := Lib.hid (step_lo LOT_9.out F10.out (Nat.le_of_lt (TT_9.out.lt (.inl rfl)) |> fun h => Nat.le_trans (LOT_9.out _ (.inl rfl)) h))
    clear K10 F10
    go_wp2_with fail
    refine (fork_any _ _).mono ?_
    rintro e w' ⟨rfl, rfl⟩
    have HItU_11 : Hid (∀ k, foot v5.heap.size ao8 k → k < W10.heap.size) := fun k h => Tt_10.out.lt h
    have HPtU_11 : Hid (v5.heap.size < W10.heap.size) := HItU_11 _ (.inl rfl)
    have Tt_11 := Lib.hid (Tt_10.out.alloc TIM)
    have HITU_11 : Hid (∀ k, foot W8.heap.size ao10 k → k < W10.heap.size) := fun k h => TT_10.out.lt h
    have HPTU_11 : Hid (W8.heap.size < W10.heap.size) := HITU_11 _ (.inl rfl)
    have TT_11 := Lib.hid (TT_10.out.alloc TIM)
    have B11 := Lib.hid (B10.out.alloc B10.out.size TIM)
    have LOU_11 : Hid (∀ k, foot W10.heap.size none k → W10.heap.size ≤ k) := fun k h => foot_none h
    have TU_11 := Lib.hid (Timer.fresh W10); have BBU : Hid (v5.heap.size ≤ W10.heap.size) := B10.out.size
    go_wp2_with fail
    refine (run_any W10.heap.size none 0 ([] : List Rec) b2 n2 d2 f2 b3 n3 d3 f3 _ TU_11.out (by simp [script_length]; try omega) (by omega) (R2_5.out.below B11.out L2_5.out) (fun g o h => not_foot_lt LOU_11.out (Nat.lt_of_lt_of_le (L2_5.out g o h) BBU.out)) (R3_5.out.below B11.out L3_5.out) (fun g o h => not_foot_lt LOU_11.out (Nat.lt_of_lt_of_le (L3_5.out g o h) BBU.out))).mono ?_
    rintro e W12 ⟨rfl, hk, ao12, cap12, hT, hf⟩
    have TU_12 := Lib.hid hT; have K12 := Lib.hid hk; have F12 := Lib.hid hf
    clear hT hk hf
    have B12 := Lib.hid (below_step B11.out K12.out LOU_11.out BBU.out)
    have Tt_12 := Lib.hid (Tt_11.out.kept K12.out (fun k h1 h2 => disj_lo HItU_11.out LOU_11.out h1 h2))
    have TT_12 := Lib.hid (TT_11.out.kept K12.out (fun k h1 h2 => disj_lo HITU_11.out LOU_11.out h1 h2))
    have LOU_12 := Lib.hid (step_lo LOU_11.out F12.out (Nat.le_of_lt (TU_11.out.lt (.inl rfl)) |> fun h => Nat.le_trans (LOU_11.out _ (.inl rfl)) h))
    clear K12 F12
    go_wp2_with fail
    refine (fork_any _ _).mono ?_
    rintro e w' ⟨rfl, rfl⟩
    have HItV_13 : Hid (∀ k, foot v5.heap.size ao8 k → k < W12.heap.size) := fun k h => Tt_12.out.lt h
    have HPtV_13 : Hid (v5.heap.size < W12.heap.size) := HItV_13 _ (.inl rfl)
    have Tt_13 := Lib.hid (Tt_12.out.alloc TIM)
    have HITV_13 : Hid (∀ k, foot W8.heap.size ao10 k → k < W12.heap.size) := fun k h => TT_12.out.lt h
    have HPTV_13 : Hid (W8.heap.size < W12.heap.size) := HITV_13 _ (.inl rfl)
    have TT_13 := Lib.hid (TT_12.out.alloc TIM)
    have HIUV_13 : Hid (∀ k, foot W10.heap.size ao12 k → k < W12.heap.size) := fun k h => TU_12.out.lt h
    have HPUV_13 : Hid (W10.heap.size < W12.heap.size) := HIUV_13 _ (.inl rfl)
    have TU_13 := Lib.hid (TU_12.out.alloc TIM)
    have B13 := Lib.hid (B12.out.alloc B12.out.size TIM)
    have LOV_13 : Hid (∀ k, foot W12.heap.size none k → W12.heap.size ≤ k) := fun k h => foot_none h
    have TV_13 := Lib.hid (Timer.fresh W12); have BBV : Hid (v5.heap.size ≤ W12.heap.size) := B12.out.size
    go_wp2_with fail
    refine (run_any W12.heap.size none 0 ([] : List Rec) b4 n4 d4 f4 b5 n5 d5 f5 _ TV_13.out (by simp [script_length]; try omega) (by omega) (R4_5.out.below B13.out L4_5.out) (fun g o h => not_foot_lt LOV_13.out (Nat.lt_of_lt_of_le (L4_5.out g o h) BBV.out)) (R5_5.out.below B13.out L5_5.out) (fun g o h => not_foot_lt LOV_13.out (Nat.lt_of_lt_of_le (L5_5.out g o h) BBV.out))).mono ?_
    rintro e W14 ⟨rfl, hk, ao14, cap14, hT, hf⟩
    have TV_14 := Lib.hid hT; have K14 := Lib.hid hk; have F14 := Lib.hid hf
    clear hT hk hf
    have B14 := Lib.hid (below_step B13.out K14.out LOV_13.out BBV.out)
    have Tt_14 := Lib.hid (Tt_13.out.kept K14.out (fun k h1 h2 => disj_lo HItV_13.out LOV_13.out h1 h2))
    have TT_14 := Lib.hid (TT_13.out.kept K14.out (fun k h1 h2 => disj_lo HITV_13.out LOV_13.out h1 h2))
    have TU_14 := Lib.hid (TU_13.out.kept K14.out (fun k h1 h2 => disj_lo HIUV_13.out LOV_13.out h1 h2))
    have LOV_14 := Lib.hid (step_lo LOV_13.out F14.out (Nat.le_of_lt (TV_13.out.lt (.inl rfl)) |> fun h => Nat.le_trans (LOV_13.out _ (.inl rfl)) h))
    clear K14 F14
    go_wp2_with fail
    refine (join_any W8.heap.size W10.heap.size ao10 ao12 cap10 cap12 (([] : List Rec) ++ script f0 n1 f1 n0) (([] : List Rec) ++ script f2 n3 f3 n2) _ TT_14.out TU_14.out (Nat.ne_of_lt HPTU_11.out) (fun x hx => Nat.ne_of_gt (Nat.lt_of_lt_of_le HPTU_11.out (LOU_12.out _ (.inr ⟨x, hx, rfl⟩)))) (by simp [script_length]; try omega) (by simp [script_length]; try omega)).mono ?_
    rintro e W15 ⟨rfl, hk, ao15, cap15, hT, hf⟩
    have TT_15 := Lib.hid hT; have K15 := Lib.hid hk; have F15 := Lib.hid hf
    clear hT hk hf
    have B15 := Lib.hid (below_step B14.out K15.out LOT_10.out BBT.out)
    have Tt_15 := Lib.hid (Tt_14.out.kept K15.out (fun k h1 h2 => disj_lo HItT_9.out LOT_10.out h1 h2))
    have TU_15 := Lib.hid (TU_14.out.kept K15.out (fun k h1 h2 => disj_lo HITU_11.out LOU_12.out h2 h1))
    have TV_15 := Lib.hid (TV_14.out.kept K15.out (fun k h1 h2 => disj_lo HITV_13.out LOV_14.out h2 h1))
    have LOT_15 := Lib.hid (step_lo LOT_10.out F15.out (Nat.le_of_lt (TT_14.out.lt (.inl rfl)) |> fun h => Nat.le_trans (LOT_10.out _ (.inl rfl)) h))
    clear K15 F15
    go_wp2_with fail
    refine (join_nil2 _ _).mono ?_
    rintro e w' ⟨rfl, rfl⟩
    go_wp2_with fail
    refine (join_any W8.heap.size W12.heap.size ao15 ao14 cap15 cap14 ((([] : List Rec) ++ script f0 n1 f1 n0) ++ (([] : List Rec) ++ script f2 n3 f3 n2)) (([] : List Rec) ++ script f4 n5 f5 n4) _ TT_15.out TV_15.out (Nat.ne_of_lt HPTV_13.out) (fun x hx => Nat.ne_of_gt (Nat.lt_of_lt_of_le HPTV_13.out (LOV_14.out _ (.inr ⟨x, hx, rfl⟩)))) (by simp [script_length]; try omega) (by simp [script_length]; try omega)).mono ?_
    rintro e W16 ⟨rfl, hk, ao16, cap16, hT, hf⟩
    have TT_16 := Lib.hid hT; have K16 := Lib.hid hk; have F16 := Lib.hid hf
    clear hT hk hf
    have B16 := Lib.hid (below_step B15.out K16.out LOT_15.out BBT.out)
    have Tt_16 := Lib.hid (Tt_15.out.kept K16.out (fun k h1 h2 => disj_lo HItT_9.out LOT_15.out h1 h2))
    have LOT_16 := Lib.hid (step_lo LOT_15.out F16.out (Nat.le_of_lt (TT_15.out.lt (.inl rfl)) |> fun h => Nat.le_trans (LOT_15.out _ (.inl rfl)) h))
    clear K16 F16
    go_wp2_with fail
    refine (len_any _ _ _ _ _ Tt_16.out).mono ?_
    rintro e w' ⟨rfl, rfl⟩
    have hl17 : (((([] : List Rec) ++ script f0 n1 f1 n0) ++ ((([] : List Rec) ++ script f2 n3 f3 n2) ++ (([] : List Rec) ++ script f4 n5 f5 n4)))).length = n0 + n2 + n4 := by simp [script_length]; try omega
    rw [hl17]
    clear hl17
    go_wp2_with fail
    refine (equal_any v5.heap.size W8.heap.size ao8 ao16 cap8 cap16 ([] ++ script f0 n1 f1 n0 ++ script f2 n3 f3 n2 ++ script f4 n5 f5 n4) _ (by have := Tt_16.out; simpa using this) (by have := TT_16.out; simpa using this) (by simp [script_length]; omega)).mono ?_
    rintro e w' ⟨rfl, rfl⟩
    go_wp2
    go_ret
    exact ⟨rfl, below_all C6.out B16.out⟩
  · exact early7 a0 n0 c0 f0 a1 n1 c1 f1 a2 n2 c2 f2 a3 n3 c3 f3 a4 n4 c4 f4 a5 n5 c5 f5 w hnil0 hc0 hn0 hR0 hs0 hnil1 hc1 hn1 hR1 hnil2 hc2 hn2 hR2 hs2 hnil3 hc3 hn3 hR3 hnil4 hc4 hn4 hR4 hs4 hnil5 hc5 hn5 hR5 (by omega)

theorem own : ownKnob Try.prog.godebug = none := by kernel_rfl
theorem laidOut : laidOutB Try.prog = true := by kernel_rfl

set_option maxRecDepth 100000 in
theorem lifted (os : Os) (started : os.Started) (H : Type) (enc : TypeId × Value → H) :
    ReturnsInHanded {} Try.checked os 7 .any (Rows.fnJoinAssociativeWithNilIdentitySpec.pre6 enc Try.prog Try.f7 Rows.fnJoinAssociativeWithNilIdentityRow.domain false) (Rows.fnJoinAssociativeWithNilIdentitySpec.post enc Try.prog Try.f7 false true false false) := by
  refine returnsInHanded_of_change (C := Try.checked) own started (by kernel_rfl) Try.func7
    (ChangeSpec.witness6 (enc := enc) (C := Try.checked) false ⟨#[], #[.slice none 0 0, .slice none 0 0, .slice none 0 0, .slice none 0 0, .slice none 0 0, .slice none 0 0], []⟩ 8 (by kernel_rfl) (by kernel_rfl) (by kernel_rfl) (by kernel_rfl)) ?_
  intro W base args ds gs before hval0 hW hcnd _
  have hval : ∀ (j : Nat) t v, Try.f7.params[j]? = some t → args[j]? = some v → Value.okWide Try.prog W .any base t v := hval0
  have hW' := hW
  obtain ⟨p, q, hA0, hV, rfl, hfz, hnd⟩ := hW
  have hA : DataW.TrodAll enc Try.prog W 0 (fun _ => true) true Try.f7.params.toList args.toList ds p := hA0
  rw [Try.params7] at hA hval
  obtain ⟨v0, vs0, d0, ds0, p0, q0, hargs, rfl, rfl, h0, r0⟩ := trodAll_cons hA
  obtain ⟨v1, vs1, d1, ds1, p1, q1, rfl, rfl, rfl, h1, r1⟩ := trodAll_cons r0
  obtain ⟨v2, vs2, d2, ds2, p2, q2, rfl, rfl, rfl, h2, r2⟩ := trodAll_cons r1
  obtain ⟨v3, vs3, d3, ds3, p3, q3, rfl, rfl, rfl, h3, r3⟩ := trodAll_cons r2
  obtain ⟨v4, vs4, d4, ds4, p4, q4, rfl, rfl, rfl, h4, r4⟩ := trodAll_cons r3
  obtain ⟨v5, vs5, d5, ds5, p5, q5, rfl, rfl, rfl, h5, r5⟩ := trodAll_cons r4
  obtain ⟨rfl, rfl, rfl⟩ := trodAll_nil r5
  obtain rfl : args = #[v0, v1, v2, v3, v4, v5] := by cases args; simp_all
  obtain ⟨rfl, rfl⟩ := trodVars_none hV
  obtain ⟨a0, n0, c0, rfl⟩ := okWide_slice Try.underlying22 (hval 0 22 v0 rfl rfl)
  have k0 := h0
  have lt0 : ∀ x ∈ p0, x.block < W.heap.size := by obtain ⟨m, hm⟩ := k0; exact DataW.trod_lt m _ _ _ hm
  obtain ⟨z0, nil0, cap0, max0, w0, e0⟩ : ∃ zs : List ByteArray, (a0 = none → n0 = 0 ∧ c0 = 0) ∧ n0 ≤ c0 ∧ c0 ≤ 9223372036854775807 ∧ Reads W a0 n0 (fun i => .string (zs.getD i ByteArray.empty)) ∧ (∀ i, (zs.getD i ByteArray.empty).size ≤ maxLen) := by
    obtain ⟨fuel, hf⟩ := h0
    rcases open_strings Try.underlying22 Try.underlying9 (by kernel_rfl) hf with ⟨hcs, _⟩ | ⟨x, l, c, zs, hcs, _, hl, hm, hz, _, hcell, hwz⟩
    · simp [Value.cells] at hcs
      obtain ⟨rfl, rfl, rfl⟩ := hcs
      exact ⟨[], by simp, by simp, by simp, .inl rfl, by intro i; simp⟩
    · simp [Value.cells] at hcs
      obtain ⟨rfl, rfl, rfl⟩ := hcs
      have hz1 : zs.length = c0 := by simpa using hz
      exact ⟨zs, (fun h => by cases h), hl, (by unfold maxLen at hm; omega), reads_of_cells (fun i hi => hcell i (by omega)), getD_all hwz (Nat.zero_le _)⟩
  obtain ⟨a1, n1, c1, rfl⟩ := okWide_slice Try.underlying23 (hval 1 23 v1 rfl rfl)
  have k1 := h1
  have lt1 : ∀ x ∈ p1, x.block < W.heap.size := by obtain ⟨m, hm⟩ := k1; exact DataW.trod_lt m _ _ _ hm
  obtain ⟨z1, nil1, cap1, max1, w1, e1⟩ : ∃ zs : Nat → Bool, (a1 = none → n1 = 0 ∧ c1 = 0) ∧ n1 ≤ c1 ∧ c1 ≤ 9223372036854775807 ∧ Reads W a1 n1 (fun i => .bool (zs i)) ∧ (True) := by
    obtain ⟨fuel, hf⟩ := h1
    rcases Go.Deep.open_bools Try.underlying23 Try.underlying4 (by kernel_rfl) hf with ⟨hcs, _⟩ | ⟨x, l, c, zs, hcs, _, hl, hm, _, hcell⟩
    · simp [Value.cells] at hcs
      obtain ⟨rfl, rfl, rfl⟩ := hcs
      exact ⟨fun _ => false, by simp, by simp, by simp, .inl rfl, trivial⟩
    · simp [Value.cells] at hcs
      obtain ⟨rfl, rfl, rfl⟩ := hcs
      exact ⟨zs, (fun h => by cases h), hl, (by unfold maxLen at hm; omega), reads_of_cells (fun i hi => hcell i (by omega)), trivial⟩
  obtain ⟨a2, n2, c2, rfl⟩ := okWide_slice Try.underlying22 (hval 2 22 v2 rfl rfl)
  have k2 := h2
  have lt2 : ∀ x ∈ p2, x.block < W.heap.size := by obtain ⟨m, hm⟩ := k2; exact DataW.trod_lt m _ _ _ hm
  obtain ⟨z2, nil2, cap2, max2, w2, e2⟩ : ∃ zs : List ByteArray, (a2 = none → n2 = 0 ∧ c2 = 0) ∧ n2 ≤ c2 ∧ c2 ≤ 9223372036854775807 ∧ Reads W a2 n2 (fun i => .string (zs.getD i ByteArray.empty)) ∧ (∀ i, (zs.getD i ByteArray.empty).size ≤ maxLen) := by
    obtain ⟨fuel, hf⟩ := h2
    rcases open_strings Try.underlying22 Try.underlying9 (by kernel_rfl) hf with ⟨hcs, _⟩ | ⟨x, l, c, zs, hcs, _, hl, hm, hz, _, hcell, hwz⟩
    · simp [Value.cells] at hcs
      obtain ⟨rfl, rfl, rfl⟩ := hcs
      exact ⟨[], by simp, by simp, by simp, .inl rfl, by intro i; simp⟩
    · simp [Value.cells] at hcs
      obtain ⟨rfl, rfl, rfl⟩ := hcs
      have hz1 : zs.length = c2 := by simpa using hz
      exact ⟨zs, (fun h => by cases h), hl, (by unfold maxLen at hm; omega), reads_of_cells (fun i hi => hcell i (by omega)), getD_all hwz (Nat.zero_le _)⟩
  obtain ⟨a3, n3, c3, rfl⟩ := okWide_slice Try.underlying23 (hval 3 23 v3 rfl rfl)
  have k3 := h3
  have lt3 : ∀ x ∈ p3, x.block < W.heap.size := by obtain ⟨m, hm⟩ := k3; exact DataW.trod_lt m _ _ _ hm
  obtain ⟨z3, nil3, cap3, max3, w3, e3⟩ : ∃ zs : Nat → Bool, (a3 = none → n3 = 0 ∧ c3 = 0) ∧ n3 ≤ c3 ∧ c3 ≤ 9223372036854775807 ∧ Reads W a3 n3 (fun i => .bool (zs i)) ∧ (True) := by
    obtain ⟨fuel, hf⟩ := h3
    rcases Go.Deep.open_bools Try.underlying23 Try.underlying4 (by kernel_rfl) hf with ⟨hcs, _⟩ | ⟨x, l, c, zs, hcs, _, hl, hm, _, hcell⟩
    · simp [Value.cells] at hcs
      obtain ⟨rfl, rfl, rfl⟩ := hcs
      exact ⟨fun _ => false, by simp, by simp, by simp, .inl rfl, trivial⟩
    · simp [Value.cells] at hcs
      obtain ⟨rfl, rfl, rfl⟩ := hcs
      exact ⟨zs, (fun h => by cases h), hl, (by unfold maxLen at hm; omega), reads_of_cells (fun i hi => hcell i (by omega)), trivial⟩
  obtain ⟨a4, n4, c4, rfl⟩ := okWide_slice Try.underlying22 (hval 4 22 v4 rfl rfl)
  have k4 := h4
  have lt4 : ∀ x ∈ p4, x.block < W.heap.size := by obtain ⟨m, hm⟩ := k4; exact DataW.trod_lt m _ _ _ hm
  obtain ⟨z4, nil4, cap4, max4, w4, e4⟩ : ∃ zs : List ByteArray, (a4 = none → n4 = 0 ∧ c4 = 0) ∧ n4 ≤ c4 ∧ c4 ≤ 9223372036854775807 ∧ Reads W a4 n4 (fun i => .string (zs.getD i ByteArray.empty)) ∧ (∀ i, (zs.getD i ByteArray.empty).size ≤ maxLen) := by
    obtain ⟨fuel, hf⟩ := h4
    rcases open_strings Try.underlying22 Try.underlying9 (by kernel_rfl) hf with ⟨hcs, _⟩ | ⟨x, l, c, zs, hcs, _, hl, hm, hz, _, hcell, hwz⟩
    · simp [Value.cells] at hcs
      obtain ⟨rfl, rfl, rfl⟩ := hcs
      exact ⟨[], by simp, by simp, by simp, .inl rfl, by intro i; simp⟩
    · simp [Value.cells] at hcs
      obtain ⟨rfl, rfl, rfl⟩ := hcs
      have hz1 : zs.length = c4 := by simpa using hz
      exact ⟨zs, (fun h => by cases h), hl, (by unfold maxLen at hm; omega), reads_of_cells (fun i hi => hcell i (by omega)), getD_all hwz (Nat.zero_le _)⟩
  obtain ⟨a5, n5, c5, rfl⟩ := okWide_slice Try.underlying23 (hval 5 23 v5 rfl rfl)
  have k5 := h5
  have lt5 : ∀ x ∈ p5, x.block < W.heap.size := by obtain ⟨m, hm⟩ := k5; exact DataW.trod_lt m _ _ _ hm
  obtain ⟨z5, nil5, cap5, max5, w5, e5⟩ : ∃ zs : Nat → Bool, (a5 = none → n5 = 0 ∧ c5 = 0) ∧ n5 ≤ c5 ∧ c5 ≤ 9223372036854775807 ∧ Reads W a5 n5 (fun i => .bool (zs i)) ∧ (True) := by
    obtain ⟨fuel, hf⟩ := h5
    rcases Go.Deep.open_bools Try.underlying23 Try.underlying4 (by kernel_rfl) hf with ⟨hcs, _⟩ | ⟨x, l, c, zs, hcs, _, hl, hm, _, hcell⟩
    · simp [Value.cells] at hcs
      obtain ⟨rfl, rfl, rfl⟩ := hcs
      exact ⟨fun _ => false, by simp, by simp, by simp, .inl rfl, trivial⟩
    · simp [Value.cells] at hcs
      obtain ⟨rfl, rfl, rfl⟩ := hcs
      exact ⟨zs, (fun h => by cases h), hl, (by unfold maxLen at hm; omega), reads_of_cells (fun i hi => hcell i (by omega)), trivial⟩
  clear hA0 hval0
  refine (walk7 a0 n0 c0 (fun i => z0.getD i ByteArray.empty) a1 n1 c1 z1 a2 n2 c2 (fun i => z2.getD i ByteArray.empty) a3 n3 c3 z3 a4 n4 c4 (fun i => z4.getD i ByteArray.empty) a5 n5 c5 z5 W nil0 cap0 max0 w0 e0 nil1 cap1 max1 w1 nil2 cap2 max2 w2 e2 nil3 cap3 max3 w3 nil4 cap4 max4 w4 e4 nil5 cap5 max5 w5).mono fun e W' ⟨he, bel⟩ => ?_
  subst he
  exact ⟨_, rfl, _, _, _, [], _, [], hW', trodAll_mk1 (shut_bool Try.underlying4 _), (trodAll_cons_mk (Below.trod laidOut (by kernel_rfl) (of_decide_eq_true (by kernel_rfl)) k0 bel lt0) (trodAll_cons_mk (Below.trod laidOut (by kernel_rfl) (of_decide_eq_true (by kernel_rfl)) k1 bel lt1) (trodAll_cons_mk (Below.trod laidOut (by kernel_rfl) (of_decide_eq_true (by kernel_rfl)) k2 bel lt2) (trodAll_cons_mk (Below.trod laidOut (by kernel_rfl) (of_decide_eq_true (by kernel_rfl)) k3 bel lt3) (trodAll_cons_mk (Below.trod laidOut (by kernel_rfl) (of_decide_eq_true (by kernel_rfl)) k4 bel lt4) (trodAll_cons_mk (Below.trod laidOut (by kernel_rfl) (of_decide_eq_true (by kernel_rfl)) k5 bel lt5) trodAll_mk0)))))), rfl, bel.frame _, fun h => by cases h⟩

theorem proved : Rows.FnJoinAssociativeWithNilIdentitySaid :=
  OpenClaim.holds_of_wide 7 Try.f7 rfl rfl rfl rfl rfl rfl rfl ⟨rfl, rfl, rfl, rfl, rfl⟩ rfl rfl rfl rfl rfl (by kernel_rfl) Try.func7 (by kernel_rfl)
    (of_decide_eq_true (by kernel_rfl)) (by unfold Func.isWrapper; first | (rw [if_pos (by decide +kernel)]; kernel_rfl) | (rw [if_neg (by decide +kernel)]; exact ⟨rfl, rfl⟩))
    (fun os started H enc _ => lifted os started H enc)
#print axioms proved

end Go.Proofs.Ytaghkncaeedlkaa
