/-
  Proved: what the three laws answer at this program, whatever they are given. No statement of the seat stands here.
-/
import Derived.Test.YtmhjhipldabaoaaFmtModel
namespace Go.Proofs.YtmhjhipldabaoaaFmt
open Go.RowKit Go.ChangeAt
set_option linter.unusedSimpArgs false
set_option linter.unusedVariables false
/-- It answers some bool; the world is left as it is; where it is true, Q holds. -/
def BoolIf (Q : Prop) (w : World) (e : Ending) (w' : World) : Prop := ∃ r : Bool, e = .returned (.bool r) ∧ (r = true → Q) ∧ w = w'
theorem boolIf_no {Q : Prop} {w : World} : BoolIf Q w (.returned (.bool false)) w := ⟨false, rfl, fun h => (by cases h), rfl⟩
theorem boolIf_yes {Q : Prop} {w : World} (h : Q) : BoolIf Q w (.returned (.bool true)) w := ⟨true, rfl, fun _ => h, rfl⟩
theorem bytes6 (s b : ByteArray) (v : Value) (w : World) : Calls Tryf.prog 6 #[.string s, v, .string b] w (BoolIf (s.size ≤ 1048576 ∧ b.size ≤ 1048576) w) := by
  go_enter Tryf.func6, Tryf.ntmps6
  go_wp2
  all_goals (
    go_ret
    first | exact boolIf_no | exact boolIf_yes ⟨by omega, by omega⟩)
theorem bytes9 (s b : ByteArray) (v v3 v4 v5 : Value) (w : World) : Calls Tryf.prog 9 #[.string s, v, .string b, v3, v4, v5] w (BoolIf (s.size ≤ 1048576 ∧ b.size ≤ 1048576) w) := by
  go_enter Tryf.func9, Tryf.ntmps9
  go_wp2
  all_goals (
    go_ret
    first | exact boolIf_no | exact boolIf_yes ⟨by omega, by omega⟩)
theorem bytes11 (s : ByteArray) (v : Value) (w : World) : Calls Tryf.prog 11 #[.string s, v] w (BoolIf (s.size ≤ 1048576) w) := by
  go_enter Tryf.func11, Tryf.ntmps11
  go_wp2
  all_goals (
    go_ret
    first | exact boolIf_no | exact boolIf_yes (by omega))

theorem post_lt (s : ByteArray) (st : Nat) (hst : st < 256) : (post s st).2 < 256 := by
  unfold post
  split
  · split
    · simp
    · split
      · simp
      · split
        · simp
        · exact hst
  · exact hst
theorem post_und (s : ByteArray) (st : Nat) : und (post s st).2 = und st := by
  unfold post
  split
  · rename_i h
    have h3 : st = 3 ∨ st = 4 ∨ st = 5 := by simp [act] at h; omega
    have h4 : und st = false := by rcases h3 with rfl | rfl | rfl <;> rfl
    rw [h4]
    split
    · rfl
    · split
      · rfl
      · split
        · rfl
        · exact h4
  · rfl
/-- What the third law asks. -/
theorem post_short (s : ByteArray) (st : Nat) : (post s st).1.size ≤ s.size ∧ ((post s st).2 = st ∨ (post s st).2 = 7 ∨ (post s st).2 = 14) ∧ (act st = false → (post s st).2 = st) ∧ (act st = false ∨ (post s st).2 ≠ st → (post s st).1 = s) := by
  unfold post
  split
  · rename_i h
    split
    · exact ⟨Nat.le_refl _, .inr (.inl rfl), fun h' => (by rw [h] at h'; cases h'), fun _ => rfl⟩
    · rename_i out sl hd
      split
      · exact ⟨Nat.le_refl _, .inr (.inl rfl), fun h' => (by rw [h] at h'; cases h'), fun _ => rfl⟩
      · split
        · exact ⟨Nat.le_refl _, .inr (.inr rfl), fun h' => (by rw [h] at h'; cases h'), fun _ => rfl⟩
        · refine ⟨len_of_dec hd, .inl rfl, fun _ => rfl, ?_⟩
          rintro (h' | h')
          · rw [h] at h'; cases h'
          · exact absurd rfl h'
  · exact ⟨Nat.le_refl _, .inl rfl, fun _ => rfl, fun _ => rfl⟩

/-- It answers true, and changes nothing that there was. -/
def Yes (w : World) (e : Ending) (w' : World) : Prop := e = .returned (.bool true) ∧ Below w.heap.size w w'
theorem law3 (s b : ByteArray) (st : Nat) (hst : st < 256) (w : World) (hw0 : 0 < w.heap.size) (hT : HexTab w) : Calls Tryf.prog 3 #[.string s, .int .u8 st, .string b] w (Yes w) := by
  have HT := Lib.hid hT
  clear hT
  have Hu := Lib.hid (post_und s st)
  have Hl := Lib.hid (post_lt s st hst)
  go_enter Tryf.func3, Tryf.ntmps3
  go_wp2_with fail
  refine (bytes6 s b _ _).mono ?_
  rintro e w' ⟨r, rfl, hr, rfl⟩
  cases r with
  | false =>
    go_wp2
    go_ret
    exact ⟨rfl, Below.refl _ _⟩
  | true =>
    obtain ⟨h1, h2⟩ := hr rfl
    by_cases h3 : s.size + b.size > 1048576
    · have h4 : (s.size : Int) + (b.size : Int) > 1048576 := by omega
      go_wp2
      go_ret
      exact ⟨rfl, Below.refl _ _⟩
    · have h4 : ¬ ((s.size : Int) + (b.size : Int) > 1048576) := by omega
      go_wp2_with fail
      refine (zzpost_any s b h1 0 0 false st hst w hw0 HT.out).mono ?_
      generalize post s st = pr at *
      obtain ⟨o, st2⟩ := pr
      rintro e w1 ⟨rfl, hb⟩
      have Hb := Lib.hid hb
      clear hb
      go_wp2_with fail
      refine (zzUndef_any st2 Hl.out _).mono ?_
      rintro e w' ⟨rfl, rfl⟩
      go_wp2_with fail
      refine (zzUndef_any st hst _).mono ?_
      rintro e w' ⟨rfl, rfl⟩
      have h5 := Hu.out
      rw [h5]
      go_wp2
      go_ret
      refine ⟨by simp, Hb.out⟩
theorem law4 (s b : ByteArray) (st : Nat) (hst : st < 256) (x y : Int) (n : Bool) (w : World) (hw0 : 0 < w.heap.size) (hT : HexTab w) : Calls Tryf.prog 4 #[.string s, .int .u8 st, .string b, .int .i32 x, .int .i32 y, .bool n] w (Yes w) := by
  have HT := Lib.hid hT
  clear hT
  go_enter Tryf.func4, Tryf.ntmps4
  go_wp2_with fail
  refine (bytes9 s b _ _ _ _ _).mono ?_
  rintro e w' ⟨r, rfl, hr, rfl⟩
  cases r with
  | false =>
    go_wp2
    go_ret
    exact ⟨rfl, Below.refl _ _⟩
  | true =>
    obtain ⟨h1, h2⟩ := hr rfl
    by_cases h3 : s.size + b.size > 1048576
    · have h4 : (s.size : Int) + (b.size : Int) > 1048576 := by omega
      go_wp2
      go_ret
      exact ⟨rfl, Below.refl _ _⟩
    · have h4 : ¬ ((s.size : Int) + (b.size : Int) > 1048576) := by omega
      have Hm := fun W => model_any s h1 st hst W
      go_wp2_with fail
      refine (zzpost_any s b h1 x y n st hst w hw0 HT.out).mono ?_
      generalize post s st = pr at *
      obtain ⟨o, st2⟩ := pr
      rintro e w1 ⟨rfl, hb⟩
      have Hb := Lib.hid hb
      clear hb
      go_wp2_with fail
      refine (Hm w1).mono ?_
      rintro e w2 ⟨rfl, hb2⟩
      have Hb2 : Hid (Below w.heap.size w w2) := Hb.out.trans (hb2.mono Hb.out.size)
      clear hb2 Hm
      go_wp2
      go_ret
      exact ⟨rfl, Hb2.out⟩
theorem law5 (s : ByteArray) (st : Nat) (hst : st < 256) (w : World) (hw0 : 0 < w.heap.size) (hT : HexTab w) : Calls Tryf.prog 5 #[.string s, .int .u8 st] w (Yes w) := by
  have HT := Lib.hid hT
  clear hT
  have hq := post_short s st
  go_enter Tryf.func5, Tryf.ntmps5
  go_wp2_with fail
  refine (bytes11 s _ _).mono ?_
  rintro e w' ⟨r, rfl, hr, rfl⟩
  cases r with
  | false =>
    go_wp2
    go_ret
    exact ⟨rfl, Below.refl _ _⟩
  | true =>
    have h1 := hr rfl
    go_wp2_with fail
    refine (zzpost_any s ⟨#[]⟩ h1 0 0 false st hst w hw0 HT.out).mono ?_
    generalize post s st = pr at *
    obtain ⟨o, st2⟩ := pr
    rintro e w1 ⟨rfl, hb⟩
    have Hb := Lib.hid hb
    clear hb
    obtain ⟨q1, q2, q3, q4⟩ := hq
    simp only at q1 q2 q3 q4
    have Hact := zzActive_any st hst
    by_cases hst2 : st2 = st
    · subst hst2
      cases ha : act st2 with
      | true =>
        rw [ha] at Hact
        clear q2 q3 q4 ha
        go_wp2_with (go_at_call 12; refine (Hact _).mono ?_; rintro e w' ⟨rfl, rfl⟩)
        go_ret
        exact ⟨rfl, Hb.out⟩
      | false =>
        obtain rfl := q4 (.inl ha)
        rw [ha] at Hact
        clear q1 q2 q3 q4 ha
        go_wp2_with (go_at_call 12; refine (Hact _).mono ?_; rintro e w' ⟨rfl, rfl⟩)
        go_ret
        exact ⟨rfl, Hb.out⟩
    · obtain rfl := q4 (.inr hst2)
      have ha : act st = true := by
        cases h : act st with
        | true => rfl
        | false => exact absurd (q3 h) hst2
      rw [ha] at Hact
      have hx : ((st2 : Int) != (st : Int)) = true := by simp; omega
      rcases q2 with h | h | h
      · exact absurd h hst2
      · subst h
        clear q1 q3 q4 ha
        go_wp2_with (go_at_call 12; refine (Hact _).mono ?_; rintro e w' ⟨rfl, rfl⟩)
        go_ret
        exact ⟨rfl, Hb.out⟩
      · subst h
        clear q1 q3 q4 ha
        go_wp2_with (go_at_call 12; refine (Hact _).mono ?_; rintro e w' ⟨rfl, rfl⟩)
        go_ret
        exact ⟨rfl, Hb.out⟩
end Go.Proofs.YtmhjhipldabaoaaFmt
