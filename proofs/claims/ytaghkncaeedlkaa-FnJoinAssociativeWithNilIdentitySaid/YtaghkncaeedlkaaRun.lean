/-
  Proved: contracts of the script's helpers (running a script, comparing the records, the size checks, the copies). No statement of the seat stands here.
-/
import Derived.Test.YtaghkncaeedlkaaTimer
namespace Go.Proofs.Ytaghkncaeedlkaa
open Go.RowKit Go.ChangeAt
set_option linter.unusedSimpArgs false
set_option linter.unusedVariables false

def script (ns : Nat → ByteArray) (m : Nat) (es : Nat → Bool) (k : Nat) : List Rec := (List.range k).map fun i => (ns i, endAt m es i)
theorem script_succ (ns : Nat → ByteArray) (m : Nat) (es : Nat → Bool) (k : Nat) : script ns m es (k + 1) = script ns m es k ++ [(ns k, endAt m es k)] := by
  simp [script, List.range_succ]
theorem script_length (ns : Nat → ByteArray) (m : Nat) (es : Nat → Bool) (k : Nat) : (script ns m es k).length = k := by simp [script]
theorem script_get (ns : Nat → ByteArray) (m : Nat) (es : Nat → Bool) (n k : Nat) (h : k < (script ns m es n).length) : (script ns m es n)[k] = (ns k, endAt m es k) := by simp [script]

/-- The timer is grown to rs, since w. -/
def Grown1 (b : Nat) (ao : Option Addr) (rs : List Rec) (w w' : World) : Prop :=
  Chg (foot b ao) w w' ∧ ∃ ao' cap', Timer w' b ao' cap' rs ∧ (ao' = ao ∨ ∃ g, ao' = some ⟨g, 0, none⟩ ∧ w.heap.size ≤ g)

theorem Grown1.step {b : Nat} {ao ao1 : Option Addr} {rs2 : List Rec} {w w1 w2 : World} (h1 : Chg (foot b ao) w w1) (hf1 : ao1 = ao ∨ ∃ g, ao1 = some ⟨g, 0, none⟩ ∧ w.heap.size ≤ g)
    (h2 : Chg (foot b ao1) w1 w2) {ao2 : Option Addr} {cap2 : Nat} (hT2 : Timer w2 b ao2 cap2 rs2) (hf2 : ao2 = ao1 ∨ ∃ g, ao2 = some ⟨g, 0, none⟩ ∧ w1.heap.size ≤ g) : Grown1 b ao rs2 w w2 := by
  refine ⟨h1.trans h2 ?_, ao2, cap2, hT2, ?_⟩
  · intro k hk h
    rcases h with h | ⟨x, hx, rfl⟩
    · exact .inl h
    · rcases hf1 with h | ⟨g, h, hg⟩
      · exact .inr ⟨x, h ▸ hx, rfl⟩
      · rw [h] at hx
        injection hx with hx
        subst hx
        exact absurd hk (by show ¬ g < _; omega)
  · have := h1.size
    rcases hf2 with h | ⟨g, h, hg⟩
    · rcases hf1 with h' | ⟨g, h', hg⟩
      · exact .inl (h.trans h')
      · exact .inr ⟨g, h.trans h', hg⟩
    · exact .inr ⟨g, h, by omega⟩

theorem begin_nil (s : ByteArray) (w : World) : Calls Try.prog 24 #[.pointer none, .string s] w fun e w' => e = .returned (.tuple #[]) ∧ w = w' := by
  go_enter Try.func24, Try.ntmps24
  go_wp2
  go_end0
  exact ⟨rfl, rfl⟩
theorem end_nil (s : ByteArray) (w : World) : Calls Try.prog 23 #[.pointer none, .string s] w fun e w' => e = .returned (.tuple #[]) ∧ w = w' := by
  go_enter Try.func23, Try.ntmps23
  go_wp2
  go_end0
  exact ⟨rfl, rfl⟩

/-- A script on a live timer. -/
theorem run_any (b : Nat) (ao : Option Addr) (cap : Nat) (rs : List Rec) (a : Option Addr) (n c : Nat) (ns : Nat → ByteArray) (a2 : Option Addr) (m c2 : Nat) (es : Nat → Bool) (w : World)
    (hT : Timer w b ao cap rs) (hrs : rs.length ≤ 2097152) (hn : n ≤ 65536)
    (hR : Reads w a n fun i => .string (ns i)) (hRn : ∀ g o, a = some ⟨g, o, none⟩ → ¬ foot b ao g) (hE : Reads w a2 m fun i => .bool (es i)) (hEn : ∀ g o, a2 = some ⟨g, o, none⟩ → ¬ foot b ao g) :
    Calls Try.prog 12 #[.pointer (some ⟨b, 0, none⟩), .slice a n c, .slice a2 m c2] w fun e w' => e = .returned (.tuple #[]) ∧ Grown1 b ao (rs ++ script ns m es n) w w' := by
  have HT := Lib.hid hT; have HR := Lib.hid hR; have HE := Lib.hid hE; have HRn := Lib.hid hRn; have HEn := Lib.hid hEn
  clear hT hR hE hRn hEn
  go_enter Try.func12, Try.ntmps12
  go_wp2
  go_loopw [6] (fun i wr => ∃ k : Nat, k ≤ n ∧ i = .int .i64 k ∧ Grown1 b ao (rs ++ script ns m es k) w wr) (fun i _ => n - (intOf i).toNat)
  case atStart => exact ⟨0, by omega, rfl, Chg.refl _ _, ao, cap, by simpa [script] using HT.out, .inl rfl⟩
  case round =>
    obtain ⟨k, hk, rfl, hchg, ao1, cap1, hT1, hf1⟩ := hrel
    by_cases hlt : k < n
    · have HE1 := Lib.hid (HE.out.kept hchg HEn.out)
      have hR1 := HR.out.kept hchg HRn.out
      rcases hR1 with h0 | ⟨g, o, rfl, hR1⟩
      · omega
      have hc := hR1 k hlt
      clear hR1
      have hl : (rs ++ script ns m es k).length ≤ 4194304 := by rw [List.length_append, script_length]; omega
      have HT1 := Lib.hid hT1; have Hf1 := Lib.hid hf1; have Hchg := Lib.hid hchg; have Hl := Lib.hid hl
      clear hT1 hf1 hchg hl
      cases hb : endAt m es k
      · have HB := Lib.hid hb
        go_wp2_with (first | (go_at_call 22; refine (endAt_any a2 m c2 es k (by omega) _ HE1.out).mono ?_; rintro e w' ⟨rfl, rfl⟩) | (go_at_call 24; refine (begin_any b ao1 cap1 _ (ns k) _ HT1.out Hl.out).mono ?_; rintro e w2 ⟨rfl, hc2, ao2, cap2, hT2, hf2⟩))
        go_roundw
        case rel => exact ⟨k + 1, by omega, by go_num, by rw [script_succ, ← List.append_assoc, HB.out]; exact Grown1.step Hchg.out Hf1.out hc2 hT2 hf2⟩
        case measure => simp [intOf]; omega
      · have HB := Lib.hid hb
        go_wp2_with (first | (go_at_call 22; refine (endAt_any a2 m c2 es k (by omega) _ HE1.out).mono ?_; rintro e w' ⟨rfl, rfl⟩) | (go_at_call 23; refine (end_any b ao1 cap1 _ (ns k) _ HT1.out Hl.out).mono ?_; rintro e w2 ⟨rfl, hc2, ao2, cap2, hT2, hf2⟩))
        go_roundw
        case rel => exact ⟨k + 1, by omega, by go_num, by rw [script_succ, ← List.append_assoc, HB.out]; exact Grown1.step Hchg.out Hf1.out hc2 hT2 hf2⟩
        case measure => simp [intOf]; omega
    · obtain rfl : k = n := by omega
      have HT1 := Lib.hid hT1; have Hf1 := Lib.hid hf1; have Hchg := Lib.hid hchg
      clear hT1 hf1 hchg
      go_wp2
      go_end0
      exact ⟨rfl, Hchg.out, ao1, cap1, HT1.out, Hf1.out⟩


theorem Timer.drewN {w : World} {b : Nat} {ao : Option Addr} {cap : Nat} {rs : List Rec} (h : Timer w b ao cap rs) (q : Nat) : Timer (w.drewN q) b ao cap rs := ⟨h.blk, h.own, h.sep⟩
theorem Reads.drewN {w : World} {a : Option Addr} {n : Nat} {f : Nat → Value} (h : Reads w a n f) (q : Nat) : Reads (w.drewN q) a n f := h

theorem match_any (b : Nat) (ao : Option Addr) (cap : Nat) (rs : List Rec) (fr : Nat) (a : Option Addr) (n c : Nat) (ns : Nat → ByteArray) (a2 : Option Addr) (m c2 : Nat) (es : Nat → Bool) (w : World)
    (hT : Timer w b ao cap rs) (hfr : fr ≤ 2097152) (hn : n ≤ 65536) (hm : ∀ i, i < n → rs[fr + i]? = some (ns i, endAt m es i))
    (hR : Reads w a n fun i => .string (ns i)) (hE : Reads w a2 m fun i => .bool (es i)) :
    Calls Try.prog 14 #[.pointer (some ⟨b, 0, none⟩), .int .i64 fr, .slice a n c, .slice a2 m c2] w fun e w' => e = .returned (.bool true) ∧ ∃ q, w' = w.drewN q := by
  have HT := Lib.hid hT; have HR := Lib.hid hR; have HE := Lib.hid hE; have HM := Lib.hid hm
  clear hT hR hE hm
  go_enter Try.func14, Try.ntmps14
  go_wp2
  go_loopw [9] (fun i wr => ∃ k : Nat, k ≤ n ∧ i = .int .i64 k ∧ ∃ q, wr = w.drewN q) (fun i _ => n - (intOf i).toNat)
  case atStart => exact ⟨0, by omega, rfl, 0, rfl⟩
  case round =>
    obtain ⟨k, hk, rfl, q, rfl⟩ := hrel
    by_cases hlt : k < n
    · rcases HR.out with h0 | ⟨g, o, rfl, hR1⟩
      · omega
      have hc : w.cell? ⟨g, o + k, none⟩ = some (.string (ns k)) := hR1 k hlt
      clear hR1
      have hw : IntKind.i64.wrap ((fr : Int) + (k : Int)) = (fr : Int) + (k : Int) := IntWalk.i64_in _ (by omega)
      have hx0 : (0 : Int) ≤ (k : Int) := by omega
      have hx : (k : Int) < (n : Int) := by omega
      have HR1 := Lib.hid (HM.out k hlt)
      go_wp2
      go_quiet ((go_at_call 25; first | exact quiet_left (name_any b ao cap rs _ (fr + k) HR1.out _ (by omega) _ (HT.out.drewN _)) | exact quiet_add_left (name_any b ao cap rs _ (fr + k) HR1.out _ (by omega) _ (HT.out.drewN _))))
      go_wp2_with (first | (go_at_call 26; refine (isEnd_any b ao cap rs _ (fr + k) HR1.out _ (by omega) _ (HT.out.drewN _)).mono ?_; rintro e w' ⟨rfl, rfl⟩) | (go_at_call 22; refine (endAt_any a2 m c2 es k (by omega) _ (HE.out.drewN _)).mono ?_; rintro e w' ⟨rfl, rfl⟩))
      go_roundw
      case rel => exact ⟨k + 1, by omega, by go_num, _, rfl⟩
      case measure => simp [intOf]; omega
    · obtain rfl : k = n := by omega
      go_wp2
      go_ret
      exact ⟨rfl, _, rfl⟩

theorem info9 : (Try.prog.info? 9).map (fun i => (i.zero, i.size, i.bytes)) = some (some (.string ⟨#[]⟩), 1, 16) := by kernel_rfl
theorem info4 : (Try.prog.info? 4).map (fun i => (i.zero, i.size, i.bytes)) = some (some (.bool false), 1, 1) := by kernel_rfl

theorem cloneS_any (a : Option Addr) (n c : Nat) (ns : Nat → ByteArray) (w : World) (hnil : a = none → n = 0) (hn : n ≤ 1048576) (hR : Reads w a n fun i => .string (ns i)) :
    Calls Try.prog 10 #[.slice a n c] w (Copied n (fun i => .string (ns i)) w) := by
  cases a with
  | none =>
    obtain rfl := hnil rfl
    have hq := fun W : World => Lib.run_eql_slice_nil (P := Try.prog) W 22 9 none 0 c 0 0 Try.underlying22
    go_enter Try.func10, Try.ntmps10
    go_wp2
    go_ret
    exact ⟨none, 0, rfl, .inl rfl, Chg.refl _ _, fun _ _ h => by cases h⟩
  | some ad =>
    have hq := fun W : World => Lib.run_eql_slice_nil (P := Try.prog) W 22 9 (some ad) n c 0 0 Try.underlying22
    obtain ⟨i0, hi, hz0, hz1, hz2⟩ := info_parts info9
    have hmk := fun W : World => run_make_one (P := Try.prog) 22 9 i0 _ Try.underlying22 hi hz0 hz1 rfl _ hz2 n (by omega) (by omega) W
    have HR := Lib.hid hR
    clear hR hi hz0 hz1 hz2
    go_enter Try.func10, Try.ntmps10
    go_wp2
    clear hmk hq
    go_loopw [4] (fun i wr => ∃ k : Nat, k ≤ n ∧ i = .int .i64 k ∧ Made w wr 9 n k (fun i => .string (ns i))) (fun i _ => n - (intOf i).toNat)
    case atStart => exact ⟨0, by omega, rfl, Made.start _ _ _ _ _⟩
    case round =>
      obtain ⟨k, hk, rfl, hm⟩ := hrel
      by_cases hlt : k < n
      · rcases HR.out with h0 | ⟨g, o, h1, hR1⟩
        · omega
        injection h1 with h1
        subst h1
        have hc := hm.1.cell (hR1 k hlt) (fun h => h)
        obtain ⟨v0, hc0⟩ := hm.cell k hlt
        have hf0 := hm.frozen k
        have Hm := Lib.hid hm
        clear hR1 hm
        go_wp2
        go_roundw
        case rel => exact ⟨k + 1, by omega, by go_num, Hm.out.step hlt⟩
        case measure => simp [intOf]; omega
      · obtain rfl : k = n := by omega
        have Hm := Lib.hid hm
        clear hm
        go_wp2
        go_ret
        exact ⟨_, _, rfl, Hm.out.reads, Hm.out.1, fun g o h => by injection h with h; injection h with h1 h2; exact ⟨by omega, by rw [← h1]; exact Hm.out.lt⟩⟩

theorem cloneB_any (a : Option Addr) (n c : Nat) (ns : Nat → Bool) (w : World) (hnil : a = none → n = 0) (hn : n ≤ 1048576) (hR : Reads w a n fun i => .bool (ns i)) :
    Calls Try.prog 11 #[.slice a n c] w (Copied n (fun i => .bool (ns i)) w) := by
  cases a with
  | none =>
    obtain rfl := hnil rfl
    have hq := fun W : World => Lib.run_eql_slice_nil (P := Try.prog) W 23 4 none 0 c 0 0 Try.underlying23
    go_enter Try.func11, Try.ntmps11
    go_wp2
    go_ret
    exact ⟨none, 0, rfl, .inl rfl, Chg.refl _ _, fun _ _ h => by cases h⟩
  | some ad =>
    have hq := fun W : World => Lib.run_eql_slice_nil (P := Try.prog) W 23 4 (some ad) n c 0 0 Try.underlying23
    obtain ⟨i0, hi, hz0, hz1, hz2⟩ := info_parts info4
    have hmk := fun W : World => run_make_one (P := Try.prog) 23 4 i0 _ Try.underlying23 hi hz0 hz1 rfl _ hz2 n (by omega) (by omega) W
    have HR := Lib.hid hR
    clear hR hi hz0 hz1 hz2
    go_enter Try.func11, Try.ntmps11
    go_wp2
    clear hmk hq
    go_loopw [4] (fun i wr => ∃ k : Nat, k ≤ n ∧ i = .int .i64 k ∧ Made w wr 4 n k (fun i => .bool (ns i))) (fun i _ => n - (intOf i).toNat)
    case atStart => exact ⟨0, by omega, rfl, Made.start _ _ _ _ _⟩
    case round =>
      obtain ⟨k, hk, rfl, hm⟩ := hrel
      by_cases hlt : k < n
      · rcases HR.out with h0 | ⟨g, o, h1, hR1⟩
        · omega
        injection h1 with h1
        subst h1
        have hc := hm.1.cell (hR1 k hlt) (fun h => h)
        obtain ⟨v0, hc0⟩ := hm.cell k hlt
        have hf0 := hm.frozen k
        have Hm := Lib.hid hm
        clear hR1 hm
        go_wp2
        go_roundw
        case rel => exact ⟨k + 1, by omega, by go_num, Hm.out.step hlt⟩
        case measure => simp [intOf]; omega
      · obtain rfl : k = n := by omega
        have Hm := Lib.hid hm
        clear hm
        go_wp2
        go_ret
        exact ⟨_, _, rfl, Hm.out.reads, Hm.out.1, fun g o h => by injection h with h; injection h with h1 h2; exact ⟨by omega, by rw [← h1]; exact Hm.out.lt⟩⟩

theorem bytes8_any (a0 : Option Addr) (n0 c0 : Nat) (f0 : Nat → ByteArray) (a1 : Option Addr) (n1 c1 : Nat) (w : World) (hR0 : Reads w a0 n0 fun i => .string (f0 i)) (hn0 : n0 ≤ 9223372036854775807) (hn1 : n1 ≤ 9223372036854775807) :
    Calls Try.prog 8 #[.slice a0 n0 c0, .slice a1 n1 c1] w (SomeBool w) := by
  have HR0 := Lib.hid hR0
  clear hR0
  go_enter Try.func8, Try.ntmps8
  go_wp2
  all_goals (try (go_ret; exact ⟨_, rfl, rfl⟩))
  go_loop [5, 6] (fun z i => ∃ k : Nat, ∃ y : Int, k ≤ n0 ∧ i = .int .i64 k ∧ z = .int .i64 y) (fun _ i => n0 - (intOf i).toNat)
  case atStart => exact ⟨0, _, by omega, rfl, rfl⟩
  case round =>
    obtain ⟨k0, y0, hk0, rfl, rfl⟩ := hrel
    by_cases hlt0 : k0 < n0
    · rcases HR0.out with h0 | ⟨g, o, rfl, hR1⟩
      · omega
      have hc := hR1 k0 hlt0
      clear hR1
      go_wp2
      all_goals (first | (go_ret; exact ⟨_, rfl, rfl⟩) | (go_round; (case rel => exact ⟨k0 + 1, _, by omega, by go_num, rfl⟩); (case measure => simp [intOf]; omega)))
    · obtain rfl : k0 = n0 := by omega
      go_wp2
      all_goals (go_ret; exact ⟨_, rfl, rfl⟩)


theorem bytes15_any (a0 : Option Addr) (n0 c0 : Nat) (f0 : Nat → ByteArray) (a1 : Option Addr) (n1 c1 : Nat) (w : World) (hR0 : Reads w a0 n0 fun i => .string (f0 i)) (hn0 : n0 ≤ 9223372036854775807) (hn1 : n1 ≤ 9223372036854775807) :
    Calls Try.prog 15 #[.slice a0 n0 c0, .slice a1 n1 c1] w (SomeBool w) := by
  have HR0 := Lib.hid hR0
  clear hR0
  go_enter Try.func15, Try.ntmps15
  go_wp2
  all_goals (try (go_ret; exact ⟨_, rfl, rfl⟩))
  go_loop [5, 6] (fun z i => ∃ k : Nat, ∃ y : Int, k ≤ n0 ∧ i = .int .i64 k ∧ z = .int .i64 y) (fun _ i => n0 - (intOf i).toNat)
  case atStart => exact ⟨0, _, by omega, rfl, rfl⟩
  case round =>
    obtain ⟨k0, y0, hk0, rfl, rfl⟩ := hrel
    by_cases hlt0 : k0 < n0
    · rcases HR0.out with h0 | ⟨g, o, rfl, hR1⟩
      · omega
      have hc := hR1 k0 hlt0
      clear hR1
      go_wp2
      all_goals (first | (go_ret; exact ⟨_, rfl, rfl⟩) | (go_round; (case rel => exact ⟨k0 + 1, _, by omega, by go_num, rfl⟩); (case measure => simp [intOf]; omega)))
    · obtain rfl : k0 = n0 := by omega
      go_wp2
      all_goals (go_ret; exact ⟨_, rfl, rfl⟩)


theorem sbytes_any (a0 : Option Addr) (n0 c0 : Nat) (f0 : Nat → ByteArray) (a1 : Option Addr) (n1 c1 : Nat) (w : World) (hR0 : Reads w a0 n0 fun i => .string (f0 i)) (hn0 : n0 ≤ 1048576) :
    Calls Try.prog 9 #[.slice a0 n0 c0, .slice a1 n1 c1] w (SomeInt w) := by
  have HR0 := Lib.hid hR0
  clear hR0
  go_enter Try.func9, Try.ntmps9
  go_wp2
  go_loop [5, 6] (fun z i => ∃ k : Nat, ∃ y : Int, k ≤ n0 ∧ i = .int .i64 k ∧ z = .int .i64 y) (fun _ i => n0 - (intOf i).toNat)
  case atStart => exact ⟨0, _, by omega, rfl, rfl⟩
  case round =>
    obtain ⟨k, y, hk, rfl, rfl⟩ := hrel
    by_cases hlt : k < n0
    · rcases HR0.out with h0 | ⟨g, o, rfl, hR1⟩
      · omega
      have hc := hR1 k hlt
      clear hR1
      go_wp2
      go_round
      case rel => exact ⟨k + 1, _, by omega, by go_num, rfl⟩
      case measure => simp [intOf]; omega
    · obtain rfl : k = n0 := by omega
      go_wp2
      go_ret
      exact ⟨_, rfl, rfl⟩

end Go.Proofs.Ytaghkncaeedlkaa
