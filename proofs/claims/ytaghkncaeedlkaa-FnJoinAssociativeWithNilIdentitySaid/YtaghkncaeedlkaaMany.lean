/-
  Proved: lemmas on several timers at once, and a few contracts more. No statement of the seat stands here.
-/
import Derived.Test.YtaghkncaeedlkaaJoin
import Derived.LaidEqlPtr
import Derived.Laws.Pointers
namespace Go.Proofs.Ytaghkncaeedlkaa
open Go.ChangeShapes Go.WideShapes Go.ChangeAt Go.RowKit
open Go.ChangeMaps (open_string shut_string)
set_option linter.unusedSimpArgs false
set_option linter.unusedVariables false

theorem info38 : (Try.prog.info? 38).map (fun i => (i.zero, i.size, i.bytes)) = some (some (.agg #[.slice none 0 0, .int .i32 0, .int .u32 0]), 3, 32) := by kernel_rfl
abbrev TIM : Obj := .cells #[.slice none 0 0, .int .i32 0, .int .u32 0] 38
theorem Timer.fresh (w : World) : Timer (w.alloc TIM) w.heap.size none 0 [] :=
  ⟨heap_alloc_new w _, World.ownsRow_nil _ _ _ _, fun _ h => by cases h⟩
theorem Timer.lt {w : World} {b : Nat} {ao : Option Addr} {cap : Nat} {rs : List Rec} (h : Timer w b ao cap rs) {k : Nat} (hk : foot b ao k) : k < w.heap.size := by
  rcases hk with rfl | ⟨x, hx, rfl⟩
  · exact heap_lt h.blk
  · rcases ownsRow_addr h.own with ⟨h1, _⟩ | ⟨g, h1, _, h2⟩
    · rw [h1] at hx; cases hx
    · rw [h1] at hx
      injection hx with hx
      subst hx
      exact h2
theorem Timer.kept {S : Nat → Prop} {w w' : World} {b : Nat} {ao : Option Addr} {cap : Nat} {rs : List Rec} (h : Timer w b ao cap rs) (hc : Chg S w w') (hn : ∀ k, foot b ao k → S k → False) : Timer w' b ao cap rs :=
  ⟨hc.heap h.blk (hn b (.inl rfl)), hc.owns h.own (fun k hk => by
    cases ao with
    | none => simp [Value.ownBlock] at hk
    | some x => simp [Value.ownBlock] at hk; exact hn k (.inr ⟨x, rfl, hk⟩)), h.sep⟩
theorem Timer.alloc {w : World} {b : Nat} {ao : Option Addr} {cap : Nat} {rs : List Rec} (h : Timer w b ao cap rs) (o : Obj) : Timer (w.alloc o) b ao cap rs :=
  h.kept ((Chg.refl Nowhere w).alloc o) (fun _ _ h => h)
theorem foot_none {b k : Nat} (h : foot b none k) : b ≤ k := by
  rcases h with rfl | ⟨x, hx, _⟩
  · exact Nat.le_refl _
  · cases hx
theorem not_foot_lt {b : Nat} {ao : Option Addr} {lo g : Nat} (h : ∀ k, foot b ao k → lo ≤ k) (hg : g < lo) : ¬ foot b ao g := fun hf => absurd (h g hf) (by omega)
theorem disj_lo {P Q : Nat → Prop} {m k : Nat} (h1 : ∀ k, P k → k < m) (h2 : ∀ k, Q k → m ≤ k) (hp : P k) (hq : Q k) : False := absurd (h1 k hp) (by have := h2 k hq; omega)
theorem step_lo {b : Nat} {ao ao' : Option Addr} {lo N : Nat} (h : ∀ k, foot b ao k → lo ≤ k) (hf : ao' = ao ∨ ∃ g, ao' = some ⟨g, 0, none⟩ ∧ N ≤ g) (hN : lo ≤ N) : ∀ k, foot b ao' k → lo ≤ k := by
  rintro k (rfl | ⟨x, hx, rfl⟩)
  · exact h _ (.inl rfl)
  · rcases hf with h1 | ⟨g, h1, h2⟩
    · exact h _ (.inr ⟨x, h1 ▸ hx, rfl⟩)
    · rw [h1] at hx
      injection hx with hx
      subst hx
      exact Nat.le_trans hN h2
theorem below_step {b : Nat} {ao : Option Addr} {lo : Nat} {w0 w w' : World} (h : Below w0.heap.size w0 w) (hc : Chg (foot b ao) w w') (hlo : ∀ k, foot b ao k → lo ≤ k) (hB : w0.heap.size ≤ lo) : Below w0.heap.size w0 w' :=
  ⟨hc.os.trans h.os, hc.tape.trans h.tape, hc.output.trans h.output, Nat.le_trans h.size hc.size, fun k hk =>
    (hc.block k (Nat.lt_of_lt_of_le hk h.size) (fun hf => absurd (hlo k hf) (by omega))).trans (h.block k hk)⟩
theorem below_drewN {B : Nat} {a w : World} (h : Below B a w) (n : Nat) : Below B a (w.drewN n) := ⟨h.os, h.tape, h.output, h.size, h.block⟩
theorem below_all {w w0 w' : World} (h : Chg Nowhere w w0) (hb : Below w0.heap.size w0 w') : Below w.heap.size w w' :=
  (h.below (Nat.le_refl _) (fun _ _ h => h.elim)).trans (hb.mono h.size)
theorem Reads.below {w w' : World} {B : Nat} {a : Option Addr} {n : Nat} {f : Nat → Value} (h : Reads w a n f) (hb : Below B w w') (hlt : ∀ g o, a = some ⟨g, o, none⟩ → g < B) : Reads w' a n f := by
  rcases h with h | ⟨g, o, rfl, h⟩
  · exact .inl h
  · exact .inr ⟨g, o, rfl, fun i hi => by rw [hb.cell (p := ⟨g, o + i, none⟩) (hlt g o rfl)]; exact h i hi⟩
theorem seg_get (pre post : List Rec) (ns : Nat → ByteArray) (m : Nat) (es : Nat → Bool) (n fr : Nat) (hfr : pre.length = fr) (i : Nat) (hi : i < n) : (pre ++ script ns m es n ++ post)[fr + i]? = some (ns i, endAt m es i) := by
  subst hfr
  rw [List.append_assoc, List.getElem?_append_right (by omega), List.getElem?_append_left (by rw [script_length]; omega)]
  simp [script, hi]

theorem run_nil (a : Option Addr) (n c : Nat) (ns : Nat → ByteArray) (a2 : Option Addr) (m c2 : Nat) (es : Nat → Bool) (w : World) (hn : n ≤ 65536) (hR : Reads w a n fun i => .string (ns i)) (hE : Reads w a2 m fun i => .bool (es i)) :
    Calls Try.prog 12 #[.pointer none, .slice a n c, .slice a2 m c2] w fun e w' => e = .returned (.tuple #[]) ∧ w = w' := by
  have HR := Lib.hid hR; have HE := Lib.hid hE
  clear hR hE
  go_enter Try.func12, Try.ntmps12
  go_wp2
  go_loop [6] (fun i => ∃ k : Nat, k ≤ n ∧ i = .int .i64 k) (fun i => n - (intOf i).toNat)
  case atStart => exact ⟨0, by omega, rfl⟩
  case round =>
    obtain ⟨k, hk, rfl⟩ := hrel
    by_cases hlt : k < n
    · rcases HR.out with h0 | ⟨g, o, rfl, hR1⟩
      · omega
      have hc := hR1 k hlt
      clear hR1
      cases hb : endAt m es k
      · have HB := Lib.hid hb
        go_wp2_with (first | (go_at_call 22; refine (endAt_any a2 m c2 es k (by omega) _ HE.out).mono ?_; rintro e w' ⟨rfl, rfl⟩) | (go_at_call 24; refine (begin_nil (ns k) _).mono ?_; rintro e w' ⟨rfl, rfl⟩))
        go_round
        case rel => exact ⟨k + 1, by omega, by go_num⟩
        case measure => simp [intOf]; omega
      · have HB := Lib.hid hb
        go_wp2_with (first | (go_at_call 22; refine (endAt_any a2 m c2 es k (by omega) _ HE.out).mono ?_; rintro e w' ⟨rfl, rfl⟩) | (go_at_call 23; refine (end_nil (ns k) _).mono ?_; rintro e w' ⟨rfl, rfl⟩))
        go_round
        case rel => exact ⟨k + 1, by omega, by go_num⟩
        case measure => simp [intOf]; omega
    · obtain rfl : k = n := by omega
      go_wp2
      go_end0
      exact ⟨rfl, rfl⟩

theorem equal_any (b b2 : Nat) (ao ao2 : Option Addr) (cap cap2 : Nat) (rs : List Rec) (w : World) (hT : Timer w b ao cap rs) (hT2 : Timer w b2 ao2 cap2 rs) (hn : rs.length ≤ 4194304) :
    Calls Try.prog 21 #[.pointer (some ⟨b, 0, none⟩), .pointer (some ⟨b2, 0, none⟩)] w fun e w' => e = .returned (.bool true) ∧ w = w' := by
  have HT := Lib.hid hT; have HT2 := Lib.hid hT2
  clear hT hT2
  go_enter Try.func21, Try.ntmps21
  go_wp2_with fail
  refine (len_any b ao cap rs w HT.out).mono ?_
  rintro e w' ⟨rfl, rfl⟩
  go_wp2_with fail
  refine (len_any b2 ao2 cap2 rs w HT2.out).mono ?_
  rintro e w' ⟨rfl, rfl⟩
  go_wp2
  go_loop [6] (fun i => ∃ k : Nat, k ≤ rs.length ∧ i = .int .i64 k) (fun i => rs.length - (intOf i).toNat)
  case atStart => exact ⟨0, by omega, rfl⟩
  case round =>
    obtain ⟨k, hk, rfl⟩ := hrel
    by_cases hlt : k < rs.length
    · obtain ⟨r, hr⟩ : ∃ r, rs[k]? = some r := ⟨rs[k], List.getElem?_eq_getElem hlt⟩
      have Hr := Lib.hid hr
      clear hr
      go_wp2_with fail
      refine (name_any b ao cap rs r k Hr.out _ rfl w HT.out).mono ?_
      rintro e w' ⟨rfl, rfl⟩
      go_wp2_with fail
      refine (name_any b2 ao2 cap2 rs r k Hr.out _ rfl w HT2.out).mono ?_
      rintro e w' ⟨rfl, rfl⟩
      go_wp2_with fail
      refine (isEnd_any b ao cap rs r k Hr.out _ rfl w HT.out).mono ?_
      rintro e w' ⟨rfl, rfl⟩
      go_wp2_with fail
      refine (isEnd_any b2 ao2 cap2 rs r k Hr.out _ rfl w HT2.out).mono ?_
      rintro e w' ⟨rfl, rfl⟩
      go_wp2
      go_round
      case rel => exact ⟨k + 1, by omega, by go_num⟩
      case measure => simp [intOf]; omega
    · obtain rfl : k = rs.length := by omega
      go_wp2
      go_ret
      exact ⟨rfl, rfl⟩

theorem bytes18_any (a0 : Option Addr) (n0 c0 : Nat) (f0 : Nat → ByteArray) (a1 : Option Addr) (n1 c1 : Nat) (a2 : Option Addr) (n2 c2 : Nat) (f2 : Nat → ByteArray) (a3 : Option Addr) (n3 c3 : Nat) (w : World) (hR0 : Reads w a0 n0 fun i => .string (f0 i)) (hn0 : n0 ≤ 9223372036854775807) (hn1 : n1 ≤ 9223372036854775807) (hR2 : Reads w a2 n2 fun i => .string (f2 i)) (hn2 : n2 ≤ 9223372036854775807) (hn3 : n3 ≤ 9223372036854775807) :
    Calls Try.prog 18 #[.slice a0 n0 c0, .slice a1 n1 c1, .slice a2 n2 c2, .slice a3 n3 c3] w (SomeBool w) := by
  have HR0 := Lib.hid hR0; have HR2 := Lib.hid hR2
  clear hR0 hR2
  go_enter Try.func18, Try.ntmps18
  go_wp2
  all_goals (try (go_ret; exact ⟨_, rfl, rfl⟩))
  go_loop [9, 10] (fun z i => ∃ k : Nat, ∃ y : Int, k ≤ n0 ∧ i = .int .i64 k ∧ z = .int .i64 y) (fun _ i => n0 - (intOf i).toNat)
  case atStart => exact ⟨0, _, by omega, rfl, rfl⟩
  case round =>
    obtain ⟨k0, y0, hk0, rfl, rfl⟩ := hrel
    by_cases hlt0 : k0 < n0
    · rcases HR0.out with h0 | ⟨g, o, rfl, hR1⟩
      · omega
      have hc := hR1 k0 hlt0
      clear hR1
      go_wp2
      all_goals (first | (go_ret; exact ⟨_, rfl, rfl⟩) | (go_round; (case rel => exact ⟨k0 + 1, _, by omega, by go_num, rfl⟩); (case measure => simp [intOf]; omega)))
    · obtain rfl : k0 = n0 := by omega
      go_wp2
      all_goals (try (go_ret; exact ⟨_, rfl, rfl⟩))
      go_loop [9, 11] (fun z i => ∃ k : Nat, ∃ y : Int, k ≤ n2 ∧ i = .int .i64 k ∧ z = .int .i64 y) (fun _ i => n2 - (intOf i).toNat)
      case atStart => exact ⟨0, _, by omega, rfl, rfl⟩
      case round =>
        obtain ⟨k2, y2, hk2, rfl, rfl⟩ := hrel
        by_cases hlt2 : k2 < n2
        · rcases HR2.out with h0 | ⟨g, o, rfl, hR1⟩
          · omega
          have hc := hR1 k2 hlt2
          clear hR1
          go_wp2
          all_goals (first | (go_ret; exact ⟨_, rfl, rfl⟩) | (go_round; (case rel => exact ⟨k2 + 1, _, by omega, by go_num, rfl⟩); (case measure => simp [intOf]; omega)))
        · obtain rfl : k2 = n2 := by omega
          go_wp2
          all_goals (go_ret; exact ⟨_, rfl, rfl⟩)


theorem bytes19_any (a0 : Option Addr) (n0 c0 : Nat) (f0 : Nat → ByteArray) (a1 : Option Addr) (n1 c1 : Nat) (a2 : Option Addr) (n2 c2 : Nat) (f2 : Nat → ByteArray) (a3 : Option Addr) (n3 c3 : Nat) (w : World) (hR0 : Reads w a0 n0 fun i => .string (f0 i)) (hn0 : n0 ≤ 9223372036854775807) (hn1 : n1 ≤ 9223372036854775807) (hR2 : Reads w a2 n2 fun i => .string (f2 i)) (hn2 : n2 ≤ 9223372036854775807) (hn3 : n3 ≤ 9223372036854775807) :
    Calls Try.prog 19 #[.slice a0 n0 c0, .slice a1 n1 c1, .slice a2 n2 c2, .slice a3 n3 c3] w (SomeBool w) := by
  have HR0 := Lib.hid hR0; have HR2 := Lib.hid hR2
  clear hR0 hR2
  go_enter Try.func19, Try.ntmps19
  go_wp2
  all_goals (try (go_ret; exact ⟨_, rfl, rfl⟩))
  go_loop [9, 10] (fun z i => ∃ k : Nat, ∃ y : Int, k ≤ n0 ∧ i = .int .i64 k ∧ z = .int .i64 y) (fun _ i => n0 - (intOf i).toNat)
  case atStart => exact ⟨0, _, by omega, rfl, rfl⟩
  case round =>
    obtain ⟨k0, y0, hk0, rfl, rfl⟩ := hrel
    by_cases hlt0 : k0 < n0
    · rcases HR0.out with h0 | ⟨g, o, rfl, hR1⟩
      · omega
      have hc := hR1 k0 hlt0
      clear hR1
      go_wp2
      all_goals (first | (go_ret; exact ⟨_, rfl, rfl⟩) | (go_round; (case rel => exact ⟨k0 + 1, _, by omega, by go_num, rfl⟩); (case measure => simp [intOf]; omega)))
    · obtain rfl : k0 = n0 := by omega
      go_wp2
      all_goals (try (go_ret; exact ⟨_, rfl, rfl⟩))
      go_loop [9, 11] (fun z i => ∃ k : Nat, ∃ y : Int, k ≤ n2 ∧ i = .int .i64 k ∧ z = .int .i64 y) (fun _ i => n2 - (intOf i).toNat)
      case atStart => exact ⟨0, _, by omega, rfl, rfl⟩
      case round =>
        obtain ⟨k2, y2, hk2, rfl, rfl⟩ := hrel
        by_cases hlt2 : k2 < n2
        · rcases HR2.out with h0 | ⟨g, o, rfl, hR1⟩
          · omega
          have hc := hR1 k2 hlt2
          clear hR1
          go_wp2
          all_goals (first | (go_ret; exact ⟨_, rfl, rfl⟩) | (go_round; (case rel => exact ⟨k2 + 1, _, by omega, by go_num, rfl⟩); (case measure => simp [intOf]; omega)))
        · obtain rfl : k2 = n2 := by omega
          go_wp2
          all_goals (go_ret; exact ⟨_, rfl, rfl⟩)


theorem bytes20_any (a0 : Option Addr) (n0 c0 : Nat) (f0 : Nat → ByteArray) (a1 : Option Addr) (n1 c1 : Nat) (a2 : Option Addr) (n2 c2 : Nat) (f2 : Nat → ByteArray) (a3 : Option Addr) (n3 c3 : Nat) (a4 : Option Addr) (n4 c4 : Nat) (f4 : Nat → ByteArray) (a5 : Option Addr) (n5 c5 : Nat) (w : World) (hR0 : Reads w a0 n0 fun i => .string (f0 i)) (hn0 : n0 ≤ 9223372036854775807) (hn1 : n1 ≤ 9223372036854775807) (hR2 : Reads w a2 n2 fun i => .string (f2 i)) (hn2 : n2 ≤ 9223372036854775807) (hn3 : n3 ≤ 9223372036854775807) (hR4 : Reads w a4 n4 fun i => .string (f4 i)) (hn4 : n4 ≤ 9223372036854775807) (hn5 : n5 ≤ 9223372036854775807) :
    Calls Try.prog 20 #[.slice a0 n0 c0, .slice a1 n1 c1, .slice a2 n2 c2, .slice a3 n3 c3, .slice a4 n4 c4, .slice a5 n5 c5] w (SomeBool w) := by
  have HR0 := Lib.hid hR0; have HR2 := Lib.hid hR2; have HR4 := Lib.hid hR4
  clear hR0 hR2 hR4
  go_enter Try.func20, Try.ntmps20
  go_wp2
  all_goals (try (go_ret; exact ⟨_, rfl, rfl⟩))
  go_loop [13, 14] (fun z i => ∃ k : Nat, ∃ y : Int, k ≤ n0 ∧ i = .int .i64 k ∧ z = .int .i64 y) (fun _ i => n0 - (intOf i).toNat)
  case atStart => exact ⟨0, _, by omega, rfl, rfl⟩
  case round =>
    obtain ⟨k0, y0, hk0, rfl, rfl⟩ := hrel
    by_cases hlt0 : k0 < n0
    · rcases HR0.out with h0 | ⟨g, o, rfl, hR1⟩
      · omega
      have hc := hR1 k0 hlt0
      clear hR1
      go_wp2
      all_goals (first | (go_ret; exact ⟨_, rfl, rfl⟩) | (go_round; (case rel => exact ⟨k0 + 1, _, by omega, by go_num, rfl⟩); (case measure => simp [intOf]; omega)))
    · obtain rfl : k0 = n0 := by omega
      go_wp2
      all_goals (try (go_ret; exact ⟨_, rfl, rfl⟩))
      go_loop [13, 15] (fun z i => ∃ k : Nat, ∃ y : Int, k ≤ n2 ∧ i = .int .i64 k ∧ z = .int .i64 y) (fun _ i => n2 - (intOf i).toNat)
      case atStart => exact ⟨0, _, by omega, rfl, rfl⟩
      case round =>
        obtain ⟨k2, y2, hk2, rfl, rfl⟩ := hrel
        by_cases hlt2 : k2 < n2
        · rcases HR2.out with h0 | ⟨g, o, rfl, hR1⟩
          · omega
          have hc := hR1 k2 hlt2
          clear hR1
          go_wp2
          all_goals (first | (go_ret; exact ⟨_, rfl, rfl⟩) | (go_round; (case rel => exact ⟨k2 + 1, _, by omega, by go_num, rfl⟩); (case measure => simp [intOf]; omega)))
        · obtain rfl : k2 = n2 := by omega
          go_wp2
          all_goals (try (go_ret; exact ⟨_, rfl, rfl⟩))
          go_loop [13, 16] (fun z i => ∃ k : Nat, ∃ y : Int, k ≤ n4 ∧ i = .int .i64 k ∧ z = .int .i64 y) (fun _ i => n4 - (intOf i).toNat)
          case atStart => exact ⟨0, _, by omega, rfl, rfl⟩
          case round =>
            obtain ⟨k4, y4, hk4, rfl, rfl⟩ := hrel
            by_cases hlt4 : k4 < n4
            · rcases HR4.out with h0 | ⟨g, o, rfl, hR1⟩
              · omega
              have hc := hR1 k4 hlt4
              clear hR1
              go_wp2
              all_goals (first | (go_ret; exact ⟨_, rfl, rfl⟩) | (go_round; (case rel => exact ⟨k4 + 1, _, by omega, by go_num, rfl⟩); (case measure => simp [intOf]; omega)))
            · obtain rfl : k4 = n4 := by omega
              go_wp2
              all_goals (go_ret; exact ⟨_, rfl, rfl⟩)


end Go.Proofs.Ytaghkncaeedlkaa
