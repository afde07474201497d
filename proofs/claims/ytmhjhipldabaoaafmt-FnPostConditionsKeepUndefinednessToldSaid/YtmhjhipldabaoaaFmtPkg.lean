/-
  Proved: contracts of the resolver's own small functions at this program (zzIndex, zzContains, PathUnescape, isUndefined). No statement of the seat stands here.
-/
import Derived.Test.YtmhjhipldabaoaaFmtUrl
namespace Go.Proofs.YtmhjhipldabaoaaFmt
open Go.RowKit Go.ChangeAt
set_option linter.unusedSimpArgs false
set_option linter.unusedVariables false
/-- The three bytes 37, p, q stand at place j. -/
def here (s : ByteArray) (p q : UInt8) (j : Nat) : Prop := j + 2 < s.size ∧ bt s j = 37 ∧ bt s (j + 1) = p.toNat ∧ bt s (j + 2) = q.toNat
theorem here_iff (s : ByteArray) (p q : UInt8) (j : Nat) (h : j + 3 ≤ s.size) : ((s.extract j (j + 3)).toList == [37, p, q]) = true ↔ here s p q j := by
  have h1 : (s.extract j (j + 3)).toList = [s[j]'(by omega), s[j+1]'(by omega), s[j+2]'(by omega)] := by
    rw [ByteArray.toList_eq]
    apply List.ext_getElem
    · simp; omega
    · intro i hi1 hi2
      simp at hi2
      rcases i with _ | _ | _ | i
      · simp [ByteArray.getElem_eq_getElem_data]
      · simp [ByteArray.getElem_eq_getElem_data]
      · simp [ByteArray.getElem_eq_getElem_data]
      · omega
  rw [h1]
  unfold here
  rw [← bt_eq s j (by omega), ← bt_eq s (j+1) (by omega), ← bt_eq s (j+2) (by omega)]
  simp only [beq_iff_eq, List.cons.injEq, and_true]
  constructor
  · rintro ⟨h1, h2, h3⟩
    exact ⟨by omega, by rw [h1]; rfl, by rw [h2], by rw [h3]⟩
  · rintro ⟨h0, h1, h2, h3⟩
    exact ⟨UInt8.toNat_inj.1 h1, UInt8.toNat_inj.1 h2, UInt8.toNat_inj.1 h3⟩
def Has (s : ByteArray) (p q : UInt8) : Prop := ∃ j, here s p q j
def IdxOut (s : ByteArray) (p q : UInt8) (w : World) (e : Ending) (w' : World) : Prop := ∃ y : Int, e = .returned (.int .i64 y) ∧ (0 ≤ y ↔ Has s p q) ∧ w = w'
theorem idx_any (s : ByteArray) (p q : UInt8) (hs : s.size ≤ 1048576) (w : World) :
    Calls Tryf.prog 23 #[.string s, .string ⟨#[37, p, q]⟩] w (IdxOut s p q w) := by
  go_enter Tryf.func23, Tryf.ntmps23
  go_wp2
  go_loop [5] (fun vi => ∃ i : Nat, i ≤ s.size ∧ vi = .int .i64 i ∧ ∀ j, j < i → ¬ here s p q j) (fun vi => s.size - (intOf vi).toNat)
  case atStart => exact ⟨0, by omega, rfl, fun j hj => absurd hj (Nat.not_lt_zero j)⟩
  case round =>
    obtain ⟨i, hi, rfl, hno⟩ := hrel
    have Hno := Lib.hid hno
    clear hno
    by_cases hlt : i + 3 ≤ s.size
    · have hx : (i : Int) + 3 ≤ (s.size : Int) := by omega
      have hz1 : (0 : Int) ≤ (i : Int) + 3 := by omega
      have ht1 : ((i : Int) + 3).toNat = i + 3 := by omega
      have Hx := Lib.hid (here_iff s p q i hlt)
      cases hq : ((s.extract i (i + 3)).toList == [37, p, q])
      · have Hq : Hid (¬ here s p q i) := fun h => by rw [Hx.out.2 h] at hq; cases hq
        go_wp2
        go_round
        case rel =>
          refine ⟨i + 1, by omega, by go_num, fun j hj => ?_⟩
          by_cases hji : j = i
          · subst hji; exact Hq.out
          · exact Hno.out j (by omega)
        case measure => simp [intOf]; omega
      · have Hq : Hid (here s p q i) := Hx.out.1 hq
        go_wp2
        go_ret
        exact ⟨i, rfl, ⟨fun _ => ⟨i, Hq.out⟩, fun _ => by omega⟩, rfl⟩
    · have hx : ¬ (i : Int) + 3 ≤ (s.size : Int) := by omega
      go_wp2
      go_ret
      refine ⟨-1, rfl, ⟨fun h => absurd h (by decide), fun ⟨j, hj⟩ => absurd hj (Hno.out j ?_)⟩, rfl⟩
      have := hj.1
      omega
def HasOut (s : ByteArray) (p q : UInt8) (w : World) (e : Ending) (w' : World) : Prop := (Has s p q → e = .returned (.bool true)) ∧ (¬ Has s p q → e = .returned (.bool false)) ∧ w = w'
theorem contains_any (s : ByteArray) (p q : UInt8) (hs : s.size ≤ 1048576) (w : World) : Calls Tryf.prog 19 #[.string s, .string ⟨#[37, p, q]⟩] w (HasOut s p q w) := by
  go_enter Tryf.func19, Tryf.ntmps19
  go_wp2_with fail
  refine (idx_any s p q hs w).mono ?_
  rintro e w' ⟨y, rfl, hy, rfl⟩
  have Hy := Lib.hid hy
  clear hy
  go_wp2
  go_ret
  refine ⟨fun h => ?_, fun h => ?_, rfl⟩
  · rw [show decide (0 ≤ y) = true from decide_eq_true (Hy.out.2 h)]; rfl
  · rw [show decide (0 ≤ y) = false from decide_eq_false (fun h' => h (Hy.out.1 h'))]; rfl
theorem contains_yes (s : ByteArray) (p q : UInt8) (hs : s.size ≤ 1048576) (h : Has s p q) (w : World) : Calls Tryf.prog 19 #[.string s, .string ⟨#[37, p, q]⟩] w fun e w' => e = .returned (.bool true) ∧ w = w' :=
  (contains_any s p q hs w).mono fun _ _ ⟨h1, _, h3⟩ => ⟨h1 h, h3⟩
theorem contains_no (s : ByteArray) (p q : UInt8) (hs : s.size ≤ 1048576) (h : ¬ Has s p q) (w : World) : Calls Tryf.prog 19 #[.string s, .string ⟨#[37, p, q]⟩] w fun e w' => e = .returned (.bool false) ∧ w = w' :=
  (contains_any s p q hs w).mono fun _ _ ⟨_, h2, h3⟩ => ⟨h2 h, h3⟩

theorem pathUnescape_any (s : ByteArray) (hs : s.size ≤ 1048576) (w : World) (hT : HexTab w) : Calls Tryf.prog 16 #[.string s] w (UnOut s w) := by
  have HT := Lib.hid hT
  clear hT
  cases hd : dec (bt s) s.size 0 with
  | none =>
    have Hd := Lib.hid hd
    clear hd
    go_enter Tryf.func16, Tryf.ntmps16
    go_wp2_with fail
    refine (unesc_any s hs w HT.out).mono ?_
    rintro e w' ⟨h1, _⟩
    obtain ⟨x, rfl, rfl⟩ := h1 Hd.out
    clear h1
    go_wp2
    go_ret2
    exact un_none Hd.out ⟨x, rfl, rfl⟩
  | some r =>
    obtain ⟨out, sl⟩ := r
    have Hd := Lib.hid hd
    clear hd
    go_enter Tryf.func16, Tryf.ntmps16
    go_wp2_with fail
    refine (unesc_any s hs w HT.out).mono ?_
    rintro e w' ⟨_, h1⟩
    obtain ⟨rfl, hb⟩ := h1 out sl Hd.out
    clear h1
    go_wp2
    go_ret2
    exact un_some Hd.out ⟨rfl, hb⟩

def und (st : Nat) : Bool := st == 0 || st == 1
theorem isUndef_any (st : Nat) (hst : st < 256) (w : World) : Calls Tryf.prog 14 #[.int .u8 st] w fun e w' => e = .returned (.bool (und st)) ∧ w = w' := by
  by_cases h0 : st = 0
  · subst h0
    go_enter Tryf.func14, Tryf.ntmps14
    go_wp2
    go_ret
    exact ⟨rfl, rfl⟩
  · by_cases h1 : st = 1
    · subst h1
      go_enter Tryf.func14, Tryf.ntmps14
      go_wp2
      go_ret
      exact ⟨rfl, rfl⟩
    · have hx0 : ((st : Int) == 0) = false := by simp; omega
      have hx1 : ((st : Int) == 1) = false := by simp; omega
      have Hu : Hid (und st = false) := by show _ = _; simp [und]; omega
      go_enter Tryf.func14, Tryf.ntmps14
      go_wp2
      go_ret
      exact ⟨by rw [Hu.out]; rfl, rfl⟩
theorem zzUndef_any (st : Nat) (hst : st < 256) (w : World) : Calls Tryf.prog 8 #[.int .u8 st] w fun e w' => e = .returned (.bool (und st)) ∧ w = w' := by
  go_enter Tryf.func8, Tryf.ntmps8
  go_wp2_with (go_at_call 14; refine (isUndef_any st hst _).mono ?_; rintro e w' ⟨rfl, rfl⟩)
  go_ret
  exact ⟨rfl, rfl⟩
def act (st : Nat) : Bool := st == 3 || st == 4 || st == 5
theorem zzActive_any (st : Nat) (hst : st < 256) (w : World) : Calls Tryf.prog 12 #[.int .u8 st] w fun e w' => e = .returned (.bool (act st)) ∧ w = w' := by
  by_cases h0 : st = 3
  · subst h0
    go_enter Tryf.func12, Tryf.ntmps12
    go_wp2
    go_ret
    exact ⟨rfl, rfl⟩
  · by_cases h1 : st = 4
    · subst h1
      go_enter Tryf.func12, Tryf.ntmps12
      go_wp2
      go_ret
      exact ⟨rfl, rfl⟩
    · by_cases h2 : st = 5
      · subst h2
        go_enter Tryf.func12, Tryf.ntmps12
        go_wp2
        go_ret
        exact ⟨rfl, rfl⟩
      · have hx0 : ((st : Int) == 3) = false := by simp; omega
        have hx1 : ((st : Int) == 4) = false := by simp; omega
        have hx2 : ((st : Int) == 5) = false := by simp; omega
        have Hu : Hid (act st = false) := by show _ = _; simp [act]; omega
        go_enter Tryf.func12, Tryf.ntmps12
        go_wp2
        go_ret
        exact ⟨by rw [Hu.out]; rfl, rfl⟩
end Go.Proofs.YtmhjhipldabaoaaFmt
