/-
  Proved: contracts of the tests on identifiers' bytes, of utf8.DecodeRuneInString at an ASCII byte, of css_lexer.WouldStartIdentifierWithoutEscapes at a plain identifier. No statement of the seat stands here.
-/
import Derived.Test.YtgfiigonjleeeaaFmtPen
import Derived.Scope
namespace Go.Proofs.YtgfiigonjleeeaaFmt
open Go.RowKit Go.ChangeAt
set_option linter.unusedSimpArgs false
set_option linter.unusedVariables false
set_option maxRecDepth 100000
def bt (s : ByteArray) (i : Nat) : Nat := if h : i < s.size then (s[i]'h).toNat else 0
theorem bt_lt (s : ByteArray) (i : Nat) : bt s i < 256 := by
  unfold bt
  split
  · exact UInt8.toNat_lt _
  · omega
theorem bt_eq (s : ByteArray) (i : Nat) (h : i < s.size) : (s[i]'h).toNat = bt s i := by unfold bt; rw [dif_pos h]
def Letter (c : Nat) : Prop := (97 ≤ c ∧ c ≤ 122) ∨ (65 ≤ c ∧ c ≤ 90) ∨ c = 95
def NameB (c : Nat) : Prop := Letter c ∨ (48 ≤ c ∧ c ≤ 57) ∨ c = 45
/-- A plain identifier: what b3IsPlainIdent asks. -/
structure Plain (s : ByteArray) : Prop where
  pos : 0 < s.size
  head : (bt s 0 = 45 ∧ 2 ≤ s.size ∧ (Letter (bt s 1) ∨ bt s 1 = 45)) ∨ Letter (bt s 0)
  all : ∀ i, i < s.size → NameB (bt s i)
def Told (p : Prop) (w : World) (e : Ending) (w' : World) : Prop := ∃ r : Bool, e = .returned (.bool r) ∧ w = w' ∧ (r = true → p)
theorem letter19 (c : Nat) (w : World) : Calls Tryf.prog 19 #[.int .u8 c] w (Told (Letter c) w) := by
  have hpart : (0 ≤ c ∧ c ≤ 64) ∨ (65 ≤ c ∧ c ≤ 90) ∨ (91 ≤ c ∧ c ≤ 94) ∨ (95 ≤ c ∧ c ≤ 95) ∨ (96 ≤ c ∧ c ≤ 96) ∨ (97 ≤ c ∧ c ≤ 122) ∨ (123 ≤ c) := by omega
  rcases hpart with h | h | h | h | h | h | h
  · have e0 : ((97 : Int) ≤ (c : Int)) = False := eq_false (by omega)
    have e1 : ((c : Int) ≤ 122) = True := eq_true (by omega)
    have e2 : ((65 : Int) ≤ (c : Int)) = False := eq_false (by omega)
    have e3 : ((c : Int) ≤ 90) = True := eq_true (by omega)
    have e4 : ((c : Int) == 95) = false := by simp; omega
    go_enter Tryf.func19, Tryf.ntmps19
    go_wp2
    go_ret
    exact ⟨false, rfl, rfl, fun h => by cases h⟩
  · have e0 : ((97 : Int) ≤ (c : Int)) = False := eq_false (by omega)
    have e1 : ((c : Int) ≤ 122) = True := eq_true (by omega)
    have e2 : ((65 : Int) ≤ (c : Int)) = True := eq_true (by omega)
    have e3 : ((c : Int) ≤ 90) = True := eq_true (by omega)
    have e4 : ((c : Int) == 95) = false := by simp; omega
    go_enter Tryf.func19, Tryf.ntmps19
    go_wp2
    go_ret
    exact ⟨true, rfl, rfl, fun h => by unfold Letter; omega⟩
  · have e0 : ((97 : Int) ≤ (c : Int)) = False := eq_false (by omega)
    have e1 : ((c : Int) ≤ 122) = True := eq_true (by omega)
    have e2 : ((65 : Int) ≤ (c : Int)) = True := eq_true (by omega)
    have e3 : ((c : Int) ≤ 90) = False := eq_false (by omega)
    have e4 : ((c : Int) == 95) = false := by simp; omega
    go_enter Tryf.func19, Tryf.ntmps19
    go_wp2
    go_ret
    exact ⟨false, rfl, rfl, fun h => by cases h⟩
  · have e0 : ((97 : Int) ≤ (c : Int)) = False := eq_false (by omega)
    have e1 : ((c : Int) ≤ 122) = True := eq_true (by omega)
    have e2 : ((65 : Int) ≤ (c : Int)) = True := eq_true (by omega)
    have e3 : ((c : Int) ≤ 90) = False := eq_false (by omega)
    have e4 : ((c : Int) == 95) = true := by simp; omega
    go_enter Tryf.func19, Tryf.ntmps19
    go_wp2
    go_ret
    exact ⟨true, rfl, rfl, fun h => by unfold Letter; omega⟩
  · have e0 : ((97 : Int) ≤ (c : Int)) = False := eq_false (by omega)
    have e1 : ((c : Int) ≤ 122) = True := eq_true (by omega)
    have e2 : ((65 : Int) ≤ (c : Int)) = True := eq_true (by omega)
    have e3 : ((c : Int) ≤ 90) = False := eq_false (by omega)
    have e4 : ((c : Int) == 95) = false := by simp; omega
    go_enter Tryf.func19, Tryf.ntmps19
    go_wp2
    go_ret
    exact ⟨false, rfl, rfl, fun h => by cases h⟩
  · have e0 : ((97 : Int) ≤ (c : Int)) = True := eq_true (by omega)
    have e1 : ((c : Int) ≤ 122) = True := eq_true (by omega)
    have e2 : ((65 : Int) ≤ (c : Int)) = True := eq_true (by omega)
    have e3 : ((c : Int) ≤ 90) = False := eq_false (by omega)
    have e4 : ((c : Int) == 95) = false := by simp; omega
    go_enter Tryf.func19, Tryf.ntmps19
    go_wp2
    go_ret
    exact ⟨true, rfl, rfl, fun h => by unfold Letter; omega⟩
  · have e0 : ((97 : Int) ≤ (c : Int)) = True := eq_true (by omega)
    have e1 : ((c : Int) ≤ 122) = False := eq_false (by omega)
    have e2 : ((65 : Int) ≤ (c : Int)) = True := eq_true (by omega)
    have e3 : ((c : Int) ≤ 90) = False := eq_false (by omega)
    have e4 : ((c : Int) == 95) = false := by simp; omega
    go_enter Tryf.func19, Tryf.ntmps19
    go_wp2
    go_ret
    exact ⟨false, rfl, rfl, fun h => by cases h⟩
theorem name20 (c : Nat) (w : World) : Calls Tryf.prog 20 #[.int .u8 c] w (Told (NameB c) w) := by
  have hpart : (0 ≤ c ∧ c ≤ 44) ∨ (45 ≤ c ∧ c ≤ 45) ∨ (46 ≤ c ∧ c ≤ 47) ∨ (48 ≤ c ∧ c ≤ 57) ∨ (58 ≤ c) := by omega
  rcases hpart with h | h | h | h | h
  · have e0 : ((48 : Int) ≤ (c : Int)) = False := eq_false (by omega)
    have e1 : ((c : Int) ≤ 57) = True := eq_true (by omega)
    have e2 : ((c : Int) == 45) = false := by simp; omega
    go_enter Tryf.func20, Tryf.ntmps20
    go_wp2_with fail
    refine (letter19 c w).mono ?_
    rintro ex w1 ⟨r, rfl, rfl, hr⟩
    have Hr := Lib.hid hr
    clear hr
    cases r
    · go_wp2_with fail
      go_ret
      exact ⟨false, rfl, rfl, fun h => by cases h⟩
    · go_wp2_with fail
      go_ret
      exact ⟨true, rfl, rfl, fun _ => .inl (Hr.out (by simp))⟩
  · have e0 : ((48 : Int) ≤ (c : Int)) = False := eq_false (by omega)
    have e1 : ((c : Int) ≤ 57) = True := eq_true (by omega)
    have e2 : ((c : Int) == 45) = true := by simp; omega
    go_enter Tryf.func20, Tryf.ntmps20
    go_wp2_with fail
    refine (letter19 c w).mono ?_
    rintro ex w1 ⟨r, rfl, rfl, hr⟩
    have Hr := Lib.hid hr
    clear hr
    cases r
    · go_wp2_with fail
      go_ret
      exact ⟨true, rfl, rfl, fun h => by unfold NameB; omega⟩
    · go_wp2_with fail
      go_ret
      exact ⟨true, rfl, rfl, fun _ => .inl (Hr.out (by simp))⟩
  · have e0 : ((48 : Int) ≤ (c : Int)) = False := eq_false (by omega)
    have e1 : ((c : Int) ≤ 57) = True := eq_true (by omega)
    have e2 : ((c : Int) == 45) = false := by simp; omega
    go_enter Tryf.func20, Tryf.ntmps20
    go_wp2_with fail
    refine (letter19 c w).mono ?_
    rintro ex w1 ⟨r, rfl, rfl, hr⟩
    have Hr := Lib.hid hr
    clear hr
    cases r
    · go_wp2_with fail
      go_ret
      exact ⟨false, rfl, rfl, fun h => by cases h⟩
    · go_wp2_with fail
      go_ret
      exact ⟨true, rfl, rfl, fun _ => .inl (Hr.out (by simp))⟩
  · have e0 : ((48 : Int) ≤ (c : Int)) = True := eq_true (by omega)
    have e1 : ((c : Int) ≤ 57) = True := eq_true (by omega)
    have e2 : ((c : Int) == 45) = false := by simp; omega
    go_enter Tryf.func20, Tryf.ntmps20
    go_wp2_with fail
    refine (letter19 c w).mono ?_
    rintro ex w1 ⟨r, rfl, rfl, hr⟩
    have Hr := Lib.hid hr
    clear hr
    cases r
    · go_wp2_with fail
      go_ret
      exact ⟨true, rfl, rfl, fun h => by unfold NameB; omega⟩
    · go_wp2_with fail
      go_ret
      exact ⟨true, rfl, rfl, fun _ => .inl (Hr.out (by simp))⟩
  · have e0 : ((48 : Int) ≤ (c : Int)) = True := eq_true (by omega)
    have e1 : ((c : Int) ≤ 57) = False := eq_false (by omega)
    have e2 : ((c : Int) == 45) = false := by simp; omega
    go_enter Tryf.func20, Tryf.ntmps20
    go_wp2_with fail
    refine (letter19 c w).mono ?_
    rintro ex w1 ⟨r, rfl, rfl, hr⟩
    have Hr := Lib.hid hr
    clear hr
    cases r
    · go_wp2_with fail
      go_ret
      exact ⟨false, rfl, rfl, fun h => by cases h⟩
    · go_wp2_with fail
      go_ret
      exact ⟨true, rfl, rfl, fun _ => .inl (Hr.out (by simp))⟩
def Sure (p : Prop) (w : World) (e : Ending) (w' : World) : Prop := ∃ r : Bool, e = .returned (.bool r) ∧ w = w' ∧ (p → r = true)
theorem start43 (c : Nat) (hc : c < 128) (w : World) : Calls Tryf.prog 43 #[.int .i32 c] w (Sure (Letter c) w) := by
  have hpart : (0 ≤ c ∧ c ≤ 0) ∨ (1 ≤ c ∧ c ≤ 64) ∨ (65 ≤ c ∧ c ≤ 90) ∨ (91 ≤ c ∧ c ≤ 94) ∨ (95 ≤ c ∧ c ≤ 95) ∨ (96 ≤ c ∧ c ≤ 96) ∨ (97 ≤ c ∧ c ≤ 122) ∨ (123 ≤ c ∧ c ≤ 127) := by omega
  rcases hpart with h | h | h | h | h | h | h | h
  · have e0 : ((97 : Int) ≤ (c : Int)) = False := eq_false (by omega)
    have e1 : ((c : Int) ≤ 122) = True := eq_true (by omega)
    have e2 : ((65 : Int) ≤ (c : Int)) = False := eq_false (by omega)
    have e3 : ((c : Int) ≤ 90) = True := eq_true (by omega)
    have e4 : ((c : Int) == 95) = false := by simp; omega
    have e5 : ((128 : Int) ≤ (c : Int)) = False := eq_false (by omega)
    have e6 : ((c : Int) == 0) = true := by simp; omega
    go_enter Tryf.func43, Tryf.ntmps43
    go_wp2
    go_ret
    exact ⟨true, rfl, rfl, fun hl => rfl⟩
  · have e0 : ((97 : Int) ≤ (c : Int)) = False := eq_false (by omega)
    have e1 : ((c : Int) ≤ 122) = True := eq_true (by omega)
    have e2 : ((65 : Int) ≤ (c : Int)) = False := eq_false (by omega)
    have e3 : ((c : Int) ≤ 90) = True := eq_true (by omega)
    have e4 : ((c : Int) == 95) = false := by simp; omega
    have e5 : ((128 : Int) ≤ (c : Int)) = False := eq_false (by omega)
    have e6 : ((c : Int) == 0) = false := by simp; omega
    go_enter Tryf.func43, Tryf.ntmps43
    go_wp2
    go_ret
    exact ⟨false, rfl, rfl, fun hl => by exfalso; unfold Letter at hl; omega⟩
  · have e0 : ((97 : Int) ≤ (c : Int)) = False := eq_false (by omega)
    have e1 : ((c : Int) ≤ 122) = True := eq_true (by omega)
    have e2 : ((65 : Int) ≤ (c : Int)) = True := eq_true (by omega)
    have e3 : ((c : Int) ≤ 90) = True := eq_true (by omega)
    have e4 : ((c : Int) == 95) = false := by simp; omega
    have e5 : ((128 : Int) ≤ (c : Int)) = False := eq_false (by omega)
    have e6 : ((c : Int) == 0) = false := by simp; omega
    go_enter Tryf.func43, Tryf.ntmps43
    go_wp2
    go_ret
    exact ⟨true, rfl, rfl, fun hl => rfl⟩
  · have e0 : ((97 : Int) ≤ (c : Int)) = False := eq_false (by omega)
    have e1 : ((c : Int) ≤ 122) = True := eq_true (by omega)
    have e2 : ((65 : Int) ≤ (c : Int)) = True := eq_true (by omega)
    have e3 : ((c : Int) ≤ 90) = False := eq_false (by omega)
    have e4 : ((c : Int) == 95) = false := by simp; omega
    have e5 : ((128 : Int) ≤ (c : Int)) = False := eq_false (by omega)
    have e6 : ((c : Int) == 0) = false := by simp; omega
    go_enter Tryf.func43, Tryf.ntmps43
    go_wp2
    go_ret
    exact ⟨false, rfl, rfl, fun hl => by exfalso; unfold Letter at hl; omega⟩
  · have e0 : ((97 : Int) ≤ (c : Int)) = False := eq_false (by omega)
    have e1 : ((c : Int) ≤ 122) = True := eq_true (by omega)
    have e2 : ((65 : Int) ≤ (c : Int)) = True := eq_true (by omega)
    have e3 : ((c : Int) ≤ 90) = False := eq_false (by omega)
    have e4 : ((c : Int) == 95) = true := by simp; omega
    have e5 : ((128 : Int) ≤ (c : Int)) = False := eq_false (by omega)
    have e6 : ((c : Int) == 0) = false := by simp; omega
    go_enter Tryf.func43, Tryf.ntmps43
    go_wp2
    go_ret
    exact ⟨true, rfl, rfl, fun hl => rfl⟩
  · have e0 : ((97 : Int) ≤ (c : Int)) = False := eq_false (by omega)
    have e1 : ((c : Int) ≤ 122) = True := eq_true (by omega)
    have e2 : ((65 : Int) ≤ (c : Int)) = True := eq_true (by omega)
    have e3 : ((c : Int) ≤ 90) = False := eq_false (by omega)
    have e4 : ((c : Int) == 95) = false := by simp; omega
    have e5 : ((128 : Int) ≤ (c : Int)) = False := eq_false (by omega)
    have e6 : ((c : Int) == 0) = false := by simp; omega
    go_enter Tryf.func43, Tryf.ntmps43
    go_wp2
    go_ret
    exact ⟨false, rfl, rfl, fun hl => by exfalso; unfold Letter at hl; omega⟩
  · have e0 : ((97 : Int) ≤ (c : Int)) = True := eq_true (by omega)
    have e1 : ((c : Int) ≤ 122) = True := eq_true (by omega)
    have e2 : ((65 : Int) ≤ (c : Int)) = True := eq_true (by omega)
    have e3 : ((c : Int) ≤ 90) = False := eq_false (by omega)
    have e4 : ((c : Int) == 95) = false := by simp; omega
    have e5 : ((128 : Int) ≤ (c : Int)) = False := eq_false (by omega)
    have e6 : ((c : Int) == 0) = false := by simp; omega
    go_enter Tryf.func43, Tryf.ntmps43
    go_wp2
    go_ret
    exact ⟨true, rfl, rfl, fun hl => rfl⟩
  · have e0 : ((97 : Int) ≤ (c : Int)) = True := eq_true (by omega)
    have e1 : ((c : Int) ≤ 122) = False := eq_false (by omega)
    have e2 : ((65 : Int) ≤ (c : Int)) = True := eq_true (by omega)
    have e3 : ((c : Int) ≤ 90) = False := eq_false (by omega)
    have e4 : ((c : Int) == 95) = false := by simp; omega
    have e5 : ((128 : Int) ≤ (c : Int)) = False := eq_false (by omega)
    have e6 : ((c : Int) == 0) = false := by simp; omega
    go_enter Tryf.func43, Tryf.ntmps43
    go_wp2
    go_ret
    exact ⟨false, rfl, rfl, fun hl => by exfalso; unfold Letter at hl; omega⟩
def IsTrue (w : World) (e : Ending) (w' : World) : Prop := e = .returned (.bool true) ∧ w = w'
theorem cont25 (c : Nat) (hc : c < 128) (hn : NameB c) (w : World) : Calls Tryf.prog 25 #[.int .i32 c] w (IsTrue w) := by
  have hpart : (0 ≤ c ∧ c ≤ 44) ∨ (45 ≤ c ∧ c ≤ 45) ∨ (46 ≤ c ∧ c ≤ 47) ∨ (48 ≤ c ∧ c ≤ 57) ∨ (58 ≤ c ∧ c ≤ 127) := by omega
  rcases hpart with h | h | h | h | h
  · have e0 : ((48 : Int) ≤ (c : Int)) = False := eq_false (by omega)
    have e1 : ((c : Int) ≤ 57) = True := eq_true (by omega)
    have e2 : ((c : Int) == 45) = false := by simp; omega
    go_enter Tryf.func25, Tryf.ntmps25
    go_wp2_with fail
    refine (start43 c hc w).mono ?_
    rintro ex w1 ⟨r, rfl, rfl, hr⟩
    have Hr := Lib.hid hr
    clear hr
    cases r
    · exact absurd (Hr.out (by unfold NameB at hn; rcases hn with hn | hn | hn; exact hn; exfalso; omega; exfalso; omega)) (by decide)
    · go_wp2_with fail
      go_ret
      exact ⟨rfl, rfl⟩
  · have e0 : ((48 : Int) ≤ (c : Int)) = False := eq_false (by omega)
    have e1 : ((c : Int) ≤ 57) = True := eq_true (by omega)
    have e2 : ((c : Int) == 45) = true := by simp; omega
    go_enter Tryf.func25, Tryf.ntmps25
    go_wp2_with fail
    refine (start43 c hc w).mono ?_
    rintro ex w1 ⟨r, rfl, rfl, hr⟩
    have Hr := Lib.hid hr
    clear hr
    cases r
    · go_wp2_with fail
      go_ret
      exact ⟨rfl, rfl⟩
    · go_wp2_with fail
      go_ret
      exact ⟨rfl, rfl⟩
  · have e0 : ((48 : Int) ≤ (c : Int)) = False := eq_false (by omega)
    have e1 : ((c : Int) ≤ 57) = True := eq_true (by omega)
    have e2 : ((c : Int) == 45) = false := by simp; omega
    go_enter Tryf.func25, Tryf.ntmps25
    go_wp2_with fail
    refine (start43 c hc w).mono ?_
    rintro ex w1 ⟨r, rfl, rfl, hr⟩
    have Hr := Lib.hid hr
    clear hr
    cases r
    · exact absurd (Hr.out (by unfold NameB at hn; rcases hn with hn | hn | hn; exact hn; exfalso; omega; exfalso; omega)) (by decide)
    · go_wp2_with fail
      go_ret
      exact ⟨rfl, rfl⟩
  · have e0 : ((48 : Int) ≤ (c : Int)) = True := eq_true (by omega)
    have e1 : ((c : Int) ≤ 57) = True := eq_true (by omega)
    have e2 : ((c : Int) == 45) = false := by simp; omega
    go_enter Tryf.func25, Tryf.ntmps25
    go_wp2_with fail
    refine (start43 c hc w).mono ?_
    rintro ex w1 ⟨r, rfl, rfl, hr⟩
    have Hr := Lib.hid hr
    clear hr
    cases r
    · go_wp2_with fail
      go_ret
      exact ⟨rfl, rfl⟩
    · go_wp2_with fail
      go_ret
      exact ⟨rfl, rfl⟩
  · have e0 : ((48 : Int) ≤ (c : Int)) = True := eq_true (by omega)
    have e1 : ((c : Int) ≤ 57) = False := eq_false (by omega)
    have e2 : ((c : Int) == 45) = false := by simp; omega
    go_enter Tryf.func25, Tryf.ntmps25
    go_wp2_with fail
    refine (start43 c hc w).mono ?_
    rintro ex w1 ⟨r, rfl, rfl, hr⟩
    have Hr := Lib.hid hr
    clear hr
    cases r
    · exact absurd (Hr.out (by unfold NameB at hn; rcases hn with hn | hn | hn; exact hn; exfalso; omega; exfalso; omega)) (by decide)
    · go_wp2_with fail
      go_ret
      exact ⟨rfl, rfl⟩
theorem size_pos_ne {s : ByteArray} (h : 0 < s.size) : s ≠ ⟨#[]⟩ := by
  rintro rfl
  simp [ByteArray.size] at h
def Decoded (c : Nat) (w : World) (e : Ending) (w' : World) : Prop := e = .returned (.tuple #[.int .i32 c, .int .i64 1]) ∧ w = w'
theorem decode42 (s : ByteArray) (h : 0 < s.size) (hb : bt s 0 < 128) (w : World) : Calls Tryf.prog 42 #[.string s] w (Decoded (bt s 0) w) := by
  have he := bt_eq s 0 h
  have hne : s.toList.isEmpty = false := by
    rw [ByteArray.toList_eq]
    have hl : s.data.toList.length = s.size := by rw [Array.length_toList]; rfl
    cases hs : s.data.toList with
    | nil => rw [hs] at hl; simp at hl; omega
    | cons a l => rfl
  have hx : ((bt s 0 : Nat) : Int) < 128 := by omega
  go_enter Tryf.func42, Tryf.ntmps42
  go_wp2
  go_ret2
  exact ⟨rfl, rfl⟩
theorem slice_one (s : ByteArray) (h : 2 ≤ s.size) : 0 < (s.extract 1 s.size).size ∧ bt (s.extract 1 s.size) 0 = bt s 1 := by
  have h1 : (s.extract 1 s.size).size = s.size - 1 := by simp [ByteArray.size_extract]
  refine ⟨by omega, ?_⟩
  unfold bt
  rw [dif_pos (by omega), dif_pos (by omega)]
  congr 1
  simp [ByteArray.getElem_extract]
set_option maxHeartbeats 4000000 in
theorem would24 (s : ByteArray) (hp : Plain s) (w : World) : Calls Tryf.prog 24 #[.string s] w (IsTrue w) := by
  have hb : bt s 0 < 128 := by rcases hp.head with h | h; omega; unfold Letter at h; omega
  have hpos := hp.pos
  have e0 : ((bt s 0 : Int) == 65533) = false := by simp; omega
  have Hh := Lib.hid hp.head
  go_enter Tryf.func24, Tryf.ntmps24
  go_wp2_with fail
  refine (decode42 s hpos hb w).mono ?_
  rintro ex w1 ⟨rfl, rfl⟩
  go_wp2_with fail
  refine (start43 (bt s 0) hb w).mono ?_
  rintro ex w1 ⟨r, rfl, rfl, hr⟩
  have Hr := Lib.hid hr
  clear hr
  cases r
  · obtain ⟨h45, h2, h1⟩ : bt s 0 = 45 ∧ 2 ≤ s.size ∧ (Letter (bt s 1) ∨ bt s 1 = 45) := by
      rcases Hh.out with h | h
      · exact h
      · exact absurd (Hr.out h) (by simp)
    have e1 : ((bt s 0 : Int) == 45) = true := by simp; omega
    have e2 : ((bt s 1 : Int) == 65533) = false := by simp; have := bt_lt s 1; omega
    obtain ⟨hs1, hs2⟩ := slice_one s h2
    have hb1 : bt s 1 < 128 := by rcases h1 with h | h; unfold Letter at h; omega; omega
    have hl1 : (1 : Int) ≤ (s.size : Int) := by omega
    have H1 := Lib.hid h1
    clear h1 h45
    go_wp2_with fail
    refine (decode42 (s.extract 1 s.size) hs1 (by rw [hs2]; exact hb1) w).mono ?_
    rintro ex w1 ⟨rfl, rfl⟩
    rw [hs2]
    go_wp2_with fail
    refine (start43 (bt s 1) hb1 w).mono ?_
    rintro ex w1 ⟨r, rfl, rfl, hr⟩
    have Hr2 := Lib.hid hr
    clear hr
    cases r
    · have h45 : bt s 1 = 45 := by
        rcases H1.out with h | h
        · exact absurd (Hr2.out h) (by simp)
        · exact h
      have e3 : ((bt s 1 : Int) == 45) = true := by simp; omega
      clear h45
      go_wp2_with fail
      go_ret
      exact ⟨rfl, rfl⟩
    · go_wp2_with fail
      go_ret
      exact ⟨rfl, rfl⟩
  · go_wp2_with fail
    go_ret
    exact ⟨rfl, rfl⟩
set_option maxHeartbeats 4000000 in
/-- printIdent at a plain identifier, in the mode 'normal': the text as it stands. -/
theorem ident22 (B b : Nat) (m a : Bool) (vo : Option Addr) (out : List UInt8) (t : ByteArray) (ws : Int) (w : World) (hp : Plain t) (h : Pr B b m a vo out w) (ho : out.length ≤ 140000000000) (ht : t.size ≤ 140000000) :
    Calls Tryf.prog 22 #[.pointer (some ⟨b, 0, none⟩), .string t, .int .u8 0, .int .u8 ws] w (Wrt B b m a vo (out ++ t.data.toList) w) := by
  obtain ⟨i0, hi, hz0, hz1, hz2⟩ := info_parts info5
  obtain ⟨vc, hblk, hown⟩ := h.row
  have hle := h.le
  have hc := cell_of_heap hblk 15
  simp [pc] at hc
  have Hp := Lib.hid h
  have Hpl := Lib.hid hp
  have Hblk := Lib.hid hblk
  have Hown := Lib.hid hown
  have hsz := heap_lt hblk
  clear h hblk hown hp
  go_enter Tryf.func22, Tryf.ntmps22
  go_wp2_with fail
  refine (would24 t Hpl.out w).mono ?_
  rintro ex w1 ⟨rfl, rfl⟩
  go_wp2_with fail
  refine wp_scope_straight ?_
  go_wp2_with fail
  go_loop [11] (fun i => ∃ k : Nat, k ≤ t.size ∧ i = .int .i64 k) (fun i => t.size - (intOf i).toNat)
  case atStart => exact ⟨0, by omega, rfl⟩
  case round =>
    obtain ⟨k, hk, rfl⟩ := hrel
    by_cases hlt : k < t.size
    · have hb := bt_eq t k hlt
      have hn := Hpl.out.all k hlt
      have hb1 : bt t k < 128 := by unfold NameB Letter at hn; omega
      have Hn := Lib.hid hn
      clear hn
      have hx1 : ¬ (128 : Int) ≤ (bt t k : Int) := by omega
      have hx2 : (k : Int) < (t.size : Int) := by omega
      have hx3 : (0 : Int) ≤ (k : Int) := by omega
      have hw : IntKind.i32.wrap (bt t k : Int) = (bt t k : Int) := by rw [IntKind.wrap_i32]; omega
      go_wp2_with fail
      refine (cont25 (bt t k) hb1 Hn.out w).mono ?_
      rintro ex w1 ⟨rfl, rfl⟩
      go_wp2_with fail
      go_round
      case rel => exact ⟨k + 1, by omega, by go_num⟩
      case measure => simp [intOf]; omega
    · obtain rfl : k = t.size := by omega
      go_wp2_with (at_builtin; go_loud (refine wpList_append_str_fresh _ rfl (.tmp 102) (.tmp 103) 28 9 rfl B 5 i0 Tryf.underlying28 Tryf.underlying9 hi hz0 hz1 hz2 vo out.length vc (Lib.byteCells out) rfl Hown.out t rfl (by unfold maxLen; omega) (by omega) hle ?_; intro vo' vc' w1 hown1 hg1 hf1; have Hg1 := Lib.hid hg1; have Hown1 := Lib.hid hown1; have Hf1 := Lib.hid hf1; have hb1 := hg1.heap Hblk.out Hp.out.ne; have hc1 := cell_of_heap hb1 15; have hz1 := frozen_of_heap hb1 15; simp [pc] at hc1; clear hg1 hown1 hf1 hb1))
      go_end0
      exact printed_mk Hp.out Hblk.out Hg1.out Hown1.out Hf1.out
end Go.Proofs.YtgfiigonjleeeaaFmt
