/-
  Proved: FnTimerScriptRecordsExactly: a fresh timer that has run a script of Begin and End calls holds exactly one record for each call, in order, with its name and end flag. Condition: the law's own.
-/
import Derived.Test.YtaghkncaeedlkaaRun
import Derived.SliceStrings
import Derived.Deep.Grids
namespace Go.Proofs.Ytaghkncaeedlkaa
open Go.ChangeShapes Go.WideShapes Go.ChangeAt Go.RowKit
open Go.ChangeMaps (open_string shut_string)
set_option linter.unusedSimpArgs false
set_option linter.unusedVariables false

theorem Timer.fresh (w : World) : Timer (w.alloc (.cells #[.slice none 0 0, .int .i32 0, .int .u32 0] 38)) w.heap.size none 0 [] :=
  ⟨heap_alloc_new w _, World.ownsRow_nil _ _ _ _, fun _ h => by cases h⟩

theorem not_foot_new {b g : Nat} (h : g < b) : ¬ foot b none g := by
  rintro (h' | ⟨x, hx, _⟩)
  · omega
  · cases hx
theorem not_foot_old {b g B : Nat} {ao : Option Addr} (h : g < B) (hb : B ≤ b) (hf : ao = none ∨ ∃ g', ao = some ⟨g', 0, none⟩ ∧ B ≤ g') : ¬ foot b ao g := by
  rintro (h' | ⟨x, hx, hx2⟩)
  · omega
  · rcases hf with h1 | ⟨g', h1, h2⟩
    · rw [h1] at hx; cases hx
    · rw [h1] at hx
      injection hx with hx
      subst hx
      simp at hx2
      omega

theorem walkA (a : Option Addr) (n c : Nat) (ns : Nat → ByteArray) (a2 : Option Addr) (m c2 : Nat) (es : Nat → Bool) (w : World) (hnil : a = none → n = 0) (hnil2 : a2 = none → m = 0)
    (hn : n ≤ 9223372036854775807) (hm : m ≤ 9223372036854775807) (hR : Reads w a n fun i => .string (ns i)) (hE : Reads w a2 m fun i => .bool (es i)) :
    Calls Try.prog 3 #[.slice a n c, .slice a2 m c2] w fun e w' => e = .returned (.bool true) ∧ Below w.heap.size w w' := by
  have HR := Lib.hid hR; have HE := Lib.hid hE; have Hnil := Lib.hid hnil; have Hnil2 := Lib.hid hnil2
  clear hR hE hnil hnil2
  by_cases hn1 : n ≤ 65536
  · by_cases hm1 : m ≤ 1048576
    · go_enter Try.func3, Try.ntmps3
      go_wp2_with fail
      refine (bytes8_any a n c ns a2 m c2 w HR.out hn hm).mono ?_
      rintro e w' ⟨r, rfl, rfl⟩
      cases r
      · go_wp2
        go_ret
        exact ⟨rfl, Below.refl _ _⟩
      go_wp2_with fail
      refine (sbytes_any a n c ns a2 m c2 w HR.out (by omega)).mono ?_
      rintro e w' ⟨y, rfl, rfl⟩
      by_cases hy : 1048576 < y
      · go_wp2
        go_ret
        exact ⟨rfl, Below.refl _ _⟩
      go_wp2_with fail
      refine (cloneS_any a n c ns w Hnil.out (by omega) HR.out).mono ?_
      rintro e w1 ⟨b1, d1, rfl, hr1, hc1, hf1⟩
      have Hr1 := Lib.hid hr1; have Hc1 := Lib.hid hc1; have Hf1 := Lib.hid hf1
      clear hr1 hc1 hf1
      go_wp2_with fail
      refine (cloneB_any a2 m c2 es w1 Hnil2.out (by omega) (HE.out.kept Hc1.out fun _ _ _ h => h)).mono ?_
      rintro e w2 ⟨b2, d2, rfl, hr2, hc2, hf2⟩
      have Hr2 := Lib.hid hr2; have Hc2 := Lib.hid hc2; have Hf2 := Lib.hid hf2
      clear hr2 hc2 hf2
      have Hw : Hid (w.heap.size ≤ w1.heap.size ∧ w1.heap.size ≤ w2.heap.size) := ⟨Hc1.out.size, Hc2.out.size⟩
      have Hr1' := Lib.hid (Hr1.out.kept Hc2.out fun _ _ _ h => h)
      have Hn1 : Hid (∀ g o, b1 = some ⟨g, o, none⟩ → g < w2.heap.size) := fun g o h => by have := (Hf1.out g o h).2; have := Hw.out.2; omega
      have Hn2 : Hid (∀ g o, b2 = some ⟨g, o, none⟩ → g < w2.heap.size) := fun g o h => (Hf2.out g o h).2
      clear Hr1
      go_wp2_with fail
      refine (run_any w2.heap.size none 0 [] b1 n d1 ns b2 m d2 es _ (Timer.fresh w2) (by simp) hn1 (Hr1'.out.kept ((Chg.refl Nowhere _).alloc _) fun _ _ _ h => h) (fun g o h => not_foot_new (Hn1.out g o h)) (Hr2.out.kept ((Chg.refl Nowhere _).alloc _) fun _ _ _ h => h) (fun g o h => not_foot_new (Hn2.out g o h))).mono ?_
      rintro e w3 ⟨rfl, hc3, ao3, cap3, hT3, hf3⟩
      have Hc3 := Lib.hid hc3; have HT3 := Lib.hid hT3; have Hf3 := Lib.hid hf3
      clear hc3 hT3 hf3
      go_wp2_with fail
      refine (len_any _ ao3 cap3 _ _ HT3.out).mono ?_
      rintro e w' ⟨rfl, rfl⟩
      have hl : ([] ++ script ns m es n).length = n := by simp [script_length]
      rw [hl]
      clear hl
      go_wp2_with fail
      refine (match_any w2.heap.size ao3 cap3 _ 0 b1 n d1 ns b2 m d2 es w3 HT3.out (by omega) hn1 ?_ ?_ ?_).mono ?_
      · intro i hi
        simp [script, hi]
      · exact (Hr1'.out.kept ((Chg.refl Nowhere _).alloc _) fun _ _ _ h => h).kept Hc3.out fun g o h => not_foot_new (Hn1.out g o h)
      · exact (Hr2.out.kept ((Chg.refl Nowhere _).alloc _) fun _ _ _ h => h).kept Hc3.out fun g o h => not_foot_new (Hn2.out g o h)
      rintro e w' ⟨rfl, q, rfl⟩
      go_wp2
      go_ret
      refine ⟨rfl, ?_⟩
      have h1 := (((Hc1.out.trans Hc2.out fun _ _ h => h).alloc (.cells #[.slice none 0 0, .int .i32 0, .int .u32 0] 38)).mono (S' := fun k => w.heap.size ≤ k) (fun _ _ h => h.elim))
      have h2 := (h1.trans Hc3.out (fun k hk h => by
        have := not_foot_new (b := w2.heap.size) (g := k) (by have := Hw.out; omega)
        exact absurd h this)).drewN q
      exact h2.below (Nat.le_refl _) (fun k _ h => h)
    · go_enter Try.func3, Try.ntmps3
      go_wp2_with fail
      refine (bytes8_any a n c ns a2 m c2 w HR.out hn hm).mono ?_
      rintro e w' ⟨r, rfl, rfl⟩
      cases r
      · go_wp2
        go_ret
        exact ⟨rfl, Below.refl _ _⟩
      · go_wp2
        go_ret
        exact ⟨rfl, Below.refl _ _⟩
  · go_enter Try.func3, Try.ntmps3
    go_wp2_with fail
    refine (bytes8_any a n c ns a2 m c2 w HR.out hn hm).mono ?_
    rintro e w' ⟨r, rfl, rfl⟩
    cases r
    · go_wp2
      go_ret
      exact ⟨rfl, Below.refl _ _⟩
    · go_wp2
      go_ret
      exact ⟨rfl, Below.refl _ _⟩

theorem walkA1 (a : Option Addr) (n c : Nat) (ns : Nat → ByteArray) (a2 : Option Addr) (m c2 : Nat) (es : Nat → Bool) (w : World)
    (hnil : a = none → n = 0 ∧ c = 0) (hc : n ≤ c) (hn : c ≤ 9223372036854775807) (hR : Reads w a n fun i => .string (ns i)) (hs : ∀ i, (ns i).size ≤ maxLen)
    (hnil2 : a2 = none → m = 0 ∧ c2 = 0) (hc2 : m ≤ c2) (hm : c2 ≤ 9223372036854775807) (hE : Reads w a2 m fun i => .bool (es i)) :
    Calls Try.prog 3 #[.slice a n c, .slice a2 m c2] w fun e w' => e = .returned (.bool true) ∧ Below w.heap.size w w' :=
  walkA a n c ns a2 m c2 es w (fun h => (hnil h).1) (fun h => (hnil2 h).1) (by omega) (by omega) hR hE

theorem own : ownKnob Try.prog.godebug = none := by kernel_rfl
theorem laidOut : laidOutB Try.prog = true := by kernel_rfl

set_option maxRecDepth 100000 in
theorem lifted (os : Os) (started : os.Started) (H : Type) (enc : TypeId × Value → H) :
    ReturnsInHanded {} Try.checked os 3 .any (Rows.fnTimerScriptRecordsExactlySpec.pre6 enc Try.prog Try.f3 Rows.fnTimerScriptRecordsExactlyRow.domain false) (Rows.fnTimerScriptRecordsExactlySpec.post enc Try.prog Try.f3 false true false false) := by
  refine returnsInHanded_of_change (C := Try.checked) own started (by kernel_rfl) Try.func3
    (ChangeSpec.witness6 (enc := enc) (C := Try.checked) false ⟨#[], #[.slice none 0 0, .slice none 0 0], []⟩ 8 (by kernel_rfl) (by kernel_rfl) (by kernel_rfl) (by kernel_rfl)) ?_
  intro W base args ds gs before hval0 hW hcnd _
  have hval : ∀ (j : Nat) t v, Try.f3.params[j]? = some t → args[j]? = some v → Value.okWide Try.prog W .any base t v := hval0
  have hW' := hW
  obtain ⟨p, q, hA0, hV, rfl, hfz, hnd⟩ := hW
  have hA : DataW.TrodAll enc Try.prog W 0 (fun _ => true) true Try.f3.params.toList args.toList ds p := hA0
  rw [Try.params3] at hA hval
  obtain ⟨v0, vs0, d0, ds0, p0, q0, hargs, rfl, rfl, h0, r0⟩ := trodAll_cons hA
  obtain ⟨v1, vs1, d1, ds1, p1, q1, rfl, rfl, rfl, h1, r1⟩ := trodAll_cons r0
  obtain ⟨rfl, rfl, rfl⟩ := trodAll_nil r1
  obtain rfl : args = #[v0, v1] := by cases args; simp_all
  obtain ⟨rfl, rfl⟩ := trodVars_none hV
  obtain ⟨a0, n0, c0, rfl⟩ := okWide_slice Try.underlying22 (hval 0 22 v0 rfl rfl)
  have k0 := h0
  have lt0 : ∀ x ∈ p0, x.block < W.heap.size := by obtain ⟨m, hm⟩ := k0; exact DataW.trod_lt m _ _ _ hm
  obtain ⟨z0, nil0, cap0, max0, w0, e0⟩ : ∃ zs : List ByteArray, (a0 = none → n0 = 0 ∧ c0 = 0) ∧ n0 ≤ c0 ∧ c0 ≤ 9223372036854775807 ∧ Reads W a0 n0 (fun i => .string (zs.getD i ByteArray.empty)) ∧ (∀ i, (zs.getD i ByteArray.empty).size ≤ maxLen) := by
    obtain ⟨fuel, hf⟩ := h0
    rcases open_strings Try.underlying22 Try.underlying9 (by kernel_rfl) hf with ⟨hcs, _⟩ | ⟨x, l, c, zs, hcs, _, hl, hm, hz, _, hcell, hwz⟩
    · simp [Value.cells] at hcs
      obtain ⟨rfl, rfl, rfl⟩ := hcs
      exact ⟨[], by simp, by simp, by simp, .inl rfl, by intro i; simp⟩
    · simp [Value.cells] at hcs
      obtain ⟨rfl, rfl, rfl⟩ := hcs
      have hz1 : zs.length = c0 := by simpa using hz
      exact ⟨zs, (fun h => by cases h), hl, (by unfold maxLen at hm; omega), reads_of_cells (fun i hi => hcell i (by omega)), getD_all hwz (Nat.zero_le _)⟩
  obtain ⟨a1, n1, c1, rfl⟩ := okWide_slice Try.underlying23 (hval 1 23 v1 rfl rfl)
  have k1 := h1
  have lt1 : ∀ x ∈ p1, x.block < W.heap.size := by obtain ⟨m, hm⟩ := k1; exact DataW.trod_lt m _ _ _ hm
  obtain ⟨z1, nil1, cap1, max1, w1, e1⟩ : ∃ zs : Nat → Bool, (a1 = none → n1 = 0 ∧ c1 = 0) ∧ n1 ≤ c1 ∧ c1 ≤ 9223372036854775807 ∧ Reads W a1 n1 (fun i => .bool (zs i)) ∧ (True) := by
    obtain ⟨fuel, hf⟩ := h1
    rcases Go.Deep.open_bools Try.underlying23 Try.underlying4 (by kernel_rfl) hf with ⟨hcs, _⟩ | ⟨x, l, c, zs, hcs, _, hl, hm, _, hcell⟩
    · simp [Value.cells] at hcs
      obtain ⟨rfl, rfl, rfl⟩ := hcs
      exact ⟨fun _ => false, by simp, by simp, by simp, .inl rfl, trivial⟩
    · simp [Value.cells] at hcs
      obtain ⟨rfl, rfl, rfl⟩ := hcs
      exact ⟨zs, (fun h => by cases h), hl, (by unfold maxLen at hm; omega), reads_of_cells (fun i hi => hcell i (by omega)), trivial⟩
  clear hA0 hval0
  refine (walkA1 a0 n0 c0 (fun i => z0.getD i ByteArray.empty) a1 n1 c1 z1 W nil0 cap0 max0 w0 e0 nil1 cap1 max1 w1).mono fun e W' ⟨he, bel⟩ => ?_
  subst he
  exact ⟨_, rfl, _, _, _, [], _, [], hW', trodAll_mk1 (shut_bool Try.underlying4 _), (trodAll_cons_mk (Below.trod laidOut (by kernel_rfl) (of_decide_eq_true (by kernel_rfl)) k0 bel lt0) (trodAll_cons_mk (Below.trod laidOut (by kernel_rfl) (of_decide_eq_true (by kernel_rfl)) k1 bel lt1) trodAll_mk0)), rfl, bel.frame _, fun h => by cases h⟩

theorem proved : Rows.FnTimerScriptRecordsExactlySaid :=
  OpenClaim.holds_of_wide 3 Try.f3 rfl rfl rfl rfl rfl rfl rfl ⟨rfl, rfl, rfl, rfl, rfl⟩ rfl rfl rfl rfl rfl (by kernel_rfl) Try.func3 (by kernel_rfl)
    (of_decide_eq_true (by kernel_rfl)) (by unfold Func.isWrapper; first | (rw [if_pos (by decide +kernel)]; kernel_rfl) | (rw [if_neg (by decide +kernel)]; exact ⟨rfl, rfl⟩))
    (fun os started H enc _ => lifted os started H enc)
#print axioms proved

end Go.Proofs.Ytaghkncaeedlkaa
