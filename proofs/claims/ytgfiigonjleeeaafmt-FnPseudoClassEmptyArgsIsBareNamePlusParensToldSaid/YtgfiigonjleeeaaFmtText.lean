/-
  Proved: plain functions: the text that the css printer's printIdent writes at any string of bytes (mode normal, whitespace may be discarded). No statement of the seat stands here.
-/
import Derived.Test.YtgfiigonjleeeaaFmtEsc
import Derived.Lib.RuneBytes
import Derived.Shelf.Unicode.DecodeAny
import Derived.Stop.CallBack
import Derived.Stop.IfaceNil
import Derived.Stop.AnyFormat


namespace Go.Proofs.YtgfiigonjleeeaaFmt
open Go.RowKit Go.ChangeAt
open Go.Extern.Stop Go.Stop Go.Extern
set_option linter.unusedSimpArgs false
set_option linter.unusedVariables false
def isHex (c : Nat) : Bool := decide ((48 ≤ c ∧ c ≤ 57) ∨ (97 ≤ c ∧ c ≤ 102) ∨ (65 ≤ c ∧ c ≤ 70))
def wouldB (s : ByteArray) : Bool :=
  if (Lib.decodeGo s).1 = 65533 ∧ (Lib.decodeGo s).2 ≤ 1 then false
  else if isStart (Lib.decodeGo s).1 = true then true
  else if (Lib.decodeGo s).1 = 45 then
    (if (Lib.decodeGo (s.extract (Lib.decodeGo s).2 s.size)).1 = 65533 ∧ (Lib.decodeGo (s.extract (Lib.decodeGo s).2 s.size)).2 ≤ 1 then false
     else isStart (Lib.decodeGo (s.extract (Lib.decodeGo s).2 s.size)).1 || decide ((Lib.decodeGo (s.extract (Lib.decodeGo s).2 s.size)).1 = 45))
  else false
/-- Every byte is plain. -/
def plainAll (s : ByteArray) : Prop := ∀ i, i < s.size → bt s i < 128 ∧ isCont (bt s i) = true
def runeLen (c : Nat) : Nat := if c ≤ 127 then 1 else if c ≤ 2047 then 2 else if c ≤ 65535 then 3 else 4
/-- Which escape a rune gets: 0 none, 1 a backslash, 2 hexadecimal. -/
def escKind (a init : Bool) (i c : Nat) : Nat :=
  if a = true ∧ 128 ≤ c then 2
  else if c = 13 ∨ c = 10 ∨ c = 12 ∨ c = 65279 then 2
  else if i = 0 ∧ init = true then 1
  else if isCont c = true then 0 else 1
def hexFmt : ByteArray := ⟨#[92, 37, 120]⟩
def shape21 : List UInt8 := [4, 5, 0, 0, 0, 0, 0, 0, 0, 105, 110, 116, 51, 50]
/-- What fmt.Sprintf gives for a rune in hexadecimal. -/
def hexS (F : Interp) (c : Nat) : ByteArray := FmtStop.textOf (F "fmt.Sprintf" [hexFmt.data.toList, shape21, digits 8 c] 0)
structure HexOk (F : Interp) : Prop where
  size : ∀ c, c ≤ 1114111 → (hexS F c).size ≤ 100
  head : ∀ c, c ≤ 1114111 → ∃ r, (hexS F c).data.toList = 92 :: r
def nextHex (rem : ByteArray) (c : Nat) : Bool := decide (runeLen c < rem.size ∧ (bt rem (runeLen c) = 32 ∨ bt rem (runeLen c) = 9 ∨ isHex (bt rem (runeLen c)) = true))
def hexT (F : Interp) (c : Nat) (rem : ByteArray) : List UInt8 := (hexS F c).data.toList ++ (if (hexS F c).size < 7 ∧ nextHex rem c = true then [32] else [])
/-- What printWithEscape writes. -/
def escT (F : Interp) (k c : Nat) (rem : ByteArray) : List UInt8 :=
  if k = 0 then Lib.encodeRune c else if k = 1 ∧ isHex c = false then 92 :: Lib.encodeRune c else hexT F c rem
theorem width_pos (s : ByteArray) (pos : Nat) (h : pos < s.size) : 1 ≤ (Utf8.decode s pos).2 := by
  by_cases ha : (s[pos]'h).toNat < 128
  · rw [decode_ascii s pos h ha]
    exact Nat.le_refl _
  · exact (decode_high s pos h (by omega)).2
theorem width_le (s : ByteArray) (pos : Nat) : (Utf8.decode s pos).2 ≤ 4 := by
  simp only [Utf8.decode]
  repeat' split
  all_goals simp
theorem rune_le (s : ByteArray) (pos : Nat) : (Utf8.decode s pos).1 ≤ 1114111 := by
  simp only [Utf8.decode]
  repeat' split
  all_goals (simp only [Utf8.runeError, Utf8.valid, Bool.and_eq_true, Bool.or_eq_true, decide_eq_true_eq] at *)
  all_goals omega
/-- The slow path: the runes of s from pos on. -/
def slowT (F : Interp) (a init : Bool) (s : ByteArray) (pos : Nat) : List UInt8 :=
  if h : pos < s.size then escT F (escKind a init pos (Utf8.decode s pos).1) (Utf8.decode s pos).1 (s.extract pos s.size) ++ slowT F a init s (pos + (Utf8.decode s pos).2) else []
  termination_by s.size - pos
  decreasing_by have := width_pos s pos h; omega
open Classical in
noncomputable def idT (F : Interp) (a : Bool) (s : ByteArray) : List UInt8 := if wouldB s = true ∧ plainAll s then s.data.toList else slowT F a (!wouldB s) s 0
theorem encodeRune_len (c : Int) : 1 ≤ (Lib.encodeRune c).length ∧ (Lib.encodeRune c).length ≤ 4 := by
  have := Lib.encodeRuneZ_length c
  simpa [Lib.encodeRune] using this
theorem escT_len {F : Interp} (hF : HexOk F) (k c : Nat) (rem : ByteArray) (hc : c ≤ 1114111) : (escT F k c rem).length ≤ 101 := by
  have h1 := (encodeRune_len (c : Int)).2
  have h2 := hF.size c hc
  have h3 : (hexS F c).data.toList.length = (hexS F c).size := by rw [Array.length_toList]; rfl
  unfold escT hexT
  split
  · omega
  · split
    · simp; omega
    · rw [List.length_append]
      split <;> simp <;> omega
theorem slowT_len {F : Interp} (hF : HexOk F) (a init : Bool) (s : ByteArray) : ∀ (n pos : Nat), s.size - pos ≤ n → (slowT F a init s pos).length ≤ 101 * n := by
  intro n
  induction n with
  | zero => intro pos h; rw [slowT, dif_neg (by omega)]; simp
  | succ n ih =>
    intro pos h
    rw [slowT]
    split
    · rename_i hlt
      have h1 := escT_len hF (escKind a init pos (Utf8.decode s pos).1) (Utf8.decode s pos).1 (s.extract pos s.size) (rune_le s pos)
      have h2 := width_pos s pos hlt
      have h3 := ih (pos + (Utf8.decode s pos).2) (by omega)
      rw [List.length_append]
      omega
    · simp
theorem idT_len {F : Interp} (hF : HexOk F) (a : Bool) (s : ByteArray) : (idT F a s).length ≤ 101 * s.size := by
  unfold idT
  split
  · rw [Array.length_toList]; show s.size ≤ _; omega
  · exact slowT_len hF a _ s s.size 0 (by omega)
/-- It does not begin with a colon. -/
def NoColon (l : List UInt8) : Prop := ∀ x r, l = x :: r → x ≠ 58
theorem u8_58 (x : Int) (h0 : 0 ≤ x) (h1 : x < 256) (h : x.toNat.toUInt8 = 58) : x = 58 := by
  have h2 := congrArg UInt8.toNat h
  rw [Nat.toUInt8, UInt8.toNat_ofNat'] at h2
  have h3 : x.toNat % 256 = 58 := h2
  omega
theorem encode_head (c : Nat) (hc : c ≠ 58) : NoColon (Lib.encodeRune (c : Int)) := by
  intro x r h
  have hx : ∀ y ∈ Lib.encodeRuneZ (c : Int), 0 ≤ y ∧ y < 256 := Lib.encodeRuneZ_byte c
  have hh : ∀ y l, Lib.encodeRuneZ (c : Int) = y :: l → y ≠ 58 := by
    intro y l hy
    unfold Lib.encodeRuneZ at hy
    repeat' split at hy
    all_goals (simp only [List.cons.injEq] at hy; obtain ⟨h1, h2⟩ := hy; omega)
  unfold Lib.encodeRune at h
  cases hz : Lib.encodeRuneZ (c : Int) with
  | nil => rw [hz] at h; cases h
  | cons y l =>
    rw [hz] at h hx
    simp only [List.map_cons, List.cons.injEq] at h
    obtain ⟨h1, h2⟩ := h
    subst h1
    intro he
    have hy := hx y (by simp)
    exact hh y l hz (u8_58 y hy.1 hy.2 he)
theorem escT_head {F : Interp} (hF : HexOk F) (k c : Nat) (rem : ByteArray) (hc : c ≤ 1114111) (h58 : k = 0 → c ≠ 58) : NoColon (escT F k c rem) ∧ escT F k c rem ≠ [] := by
  obtain ⟨r0, h0⟩ := hF.head c hc
  have hl := (encodeRune_len (c : Int)).1
  unfold escT hexT
  split
  · rename_i hk
    exact ⟨encode_head c (h58 hk), fun h => by rw [h] at hl; simp at hl⟩
  · split
    · refine ⟨?_, by simp⟩
      intro x r h
      injection h with h1 h2
      subst h1
      decide
    · refine ⟨?_, by rw [h0]; simp⟩
      intro x r h
      rw [h0] at h
      injection h with h1 h2
      subst h1
      decide
theorem kind_58 (a init : Bool) (i c : Nat) (h : escKind a init i c = 0) : c ≠ 58 := by
  rintro rfl
  unfold escKind at h
  have h1 : isCont 58 = false := by decide
  rw [if_neg (by omega), if_neg (by omega), h1] at h
  split at h
  · cases h
  · simp at h
theorem wouldB_empty (s : ByteArray) (h : s.size = 0) : wouldB s = false := by
  unfold wouldB
  rw [if_pos]
  unfold Lib.decodeGo
  rw [if_pos h]
  exact ⟨rfl, by decide⟩
/-- The text of an identifier does not begin with a colon. -/
theorem idT_head {F : Interp} (hF : HexOk F) (a : Bool) (s : ByteArray) : NoColon (idT F a s) := by
  unfold idT
  split
  · rename_i h
    intro x r hx
    have hs : 0 < s.size := Nat.pos_of_ne_zero fun h0 => by
      have := wouldB_empty s h0
      rw [this] at h
      exact absurd h.1 (by decide)
    have h1 := (h.2 0 hs).2
    have h2 : bt s 0 = x.toNat := by
      rw [← bt_eq s 0 hs]
      have h3 : s.data.toList[0]? = some x := by rw [hx]; rfl
      have h4 : s.data.toList[0]? = some (s[0]'hs) := by
        rw [List.getElem?_eq_getElem (by rw [Array.length_toList]; exact hs)]
        rfl
      rw [h3] at h4
      injection h4 with h4
      rw [h4]
    intro he
    subst he
    rw [h2] at h1
    exact absurd h1 (by decide)
  · rw [slowT]
    split
    · have h1 := escT_head hF (escKind a (!wouldB s) 0 (Utf8.decode s 0).1) (Utf8.decode s 0).1 (s.extract 0 s.size) (rune_le s 0) (kind_58 _ _ _ _)
      intro x r hx
      cases he : escT F (escKind a (!wouldB s) 0 (Utf8.decode s 0).1) (Utf8.decode s 0).1 (s.extract 0 s.size) with
      | nil => exact absurd he h1.2
      | cons y l =>
        rw [he] at hx
        injection hx with h2 h3
        subst h2
        exact h1.1 _ _ he
    · intro x r hx
      cases hx
end Go.Proofs.YtgfiigonjleeeaaFmt
